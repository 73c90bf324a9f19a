import PyProof.Rows.All
import Wide.All
import OpenK.AllK
import Wide.FinOn
import Lean
import PySem.Challenge.RW_pe0259_03
open PySem PySem.W PyProof.Rows
set_option Elab.async false
set_option maxRecDepth 100000
set_option maxHeartbeats 8000000
namespace Mine
noncomputable def pick (l : List Stmt) : List Stmt := match l with
  | [c0, _, c2, c3, c4, c5, c6, c7, c8, _, c10, _, c12, _, c14, c15, c16, c17, c18, c19, c20, c21] => [c0, c2, c3, c4, c5, c6, c7, c8, c10, c12, c14, c15, c16, c17, c18, c19, c20, c21]
  | _ => []
noncomputable def view : Program := { PySem.Challenge.pw_pe0259_03 with main := { PySem.Challenge.pw_pe0259_03.main with body := pick PySem.Challenge.pw_pe0259_03.main.body } }
theorem well : OpenLaw.wellSaid PySem.Challenge.rw_pe0259_03 = true := (congrFun PySem.W.Fast.te9446332074065402090 _).trans (by kernel_rfl)
section
local macro_rules | `(tactic| w_witness2) => `(tactic| trivial)
local macro_rules | `(tactic| o_head $_) => `(tactic| refine (fun (_ : True) hc => hc) ?hw ?hc)
local macro_rules | `(tactic| o_law) => `(tactic| refine holds_law well fun said => ?_)
open_top hd for PySem.Challenge.rw_pe0259_03
end
theorem walk_off : True := by
  w_top off
  trivial
noncomputable def ads : List Addr := [2, 3, 15, 17, 18, 20, 21, 22, 24, 25, 27, 28, 29, 31, 32, 34, 35, 36, 38, 39, 41, 42, 43, 45, 46, 48, 49, 50, 52, 53, 55, 56, 57, 59, 60, 62, 63, 71, 73, 74, 76, 77, 78, 80, 81, 83, 84, 85, 87, 88, 90, 91, 92, 94, 95, 97, 98, 99, 100, 101, 102, 103, 116, 118, 119, 121, 122, 123, 125, 126, 128, 129, 130, 132, 133, 135, 136, 137, 139, 140, 142, 143, 144, 146, 147, 149, 150, 151, 153, 154, 156, 157, 158, 160, 161, 163, 164, 165, 166, 167, 168, 169, 172, 174, 175, 177, 178, 179, 181, 182, 184, 185, 186, 189, 190, 191, 193, 194, 196, 197, 198, 200, 201, 203, 204, 205, 208, 209, 210, 213, 214, 215, 218, 219]
theorem adsE : ∀ P : Params, ads = (hd.heap_1 P).map (·.1) := fun _ => by kernel_rfl
noncomputable abbrev hk : Hook := kmHook hd.heap_1 ads adsE [173, 44, 37]
noncomputable abbrev PP : Program := (OpenLaw.row PySem.Challenge.rw_pe0259_03).prog
noncomputable def topRunQ (p : Program) (w : World) (n₀ : Nat) (ann : Option Value) : Nat → SharedT → Thread → Option SharedT
  | 0, _, _ => none
  | n + 1, s, t => match through t with
    | true => some s
    | false => match PySem.W.Fast.tw6613529449190102663 n₀ ann t with
      | false => none
      | true => match PySem.W.Fast.tw10156331382660048174 (PySem.W.Fast.tw11892475500146522536 PySem.W.Fast.tw14364793385576792824) p w s t with
        | some (s', t') => topRunQ p w n₀ ann n s' t'
        | none => none
theorem topRunQ_of {p : Program} {w : World} {n₀ : Nat} {ann : Option Value} : ∀ {n : Nat} {s s' : SharedT} {t : Thread}, topRunQ p w n₀ ann n s t = some s' → topRun treeTable p w n₀ ann n s.abs t = some s'.abs
  | 0, _, _, _, h => by cases h
  | n + 1, s, s', t, h => by
    unfold topRunQ at h
    rw [← PySem.W.Fast.te6613529449190102663, ← PySem.W.Fast.te10156331382660048174, ← PySem.W.Fast.te11892475500146522536, ← PySem.W.Fast.te14364793385576792824] at h
    unfold topRun
    cases he : through t with
    | true => rw [he] at h; cases h; rfl
    | false =>
      rw [he] at h
      cases hk : stepOk n₀ ann t with
      | false => rw [hk] at h; cases h
      | true =>
        rw [hk] at h
        cases hs : stepT (denote treeTable) p w s t with
        | none => rw [hs] at h; cases h
        | some r => obtain ⟨s₂, t₂⟩ := r; rw [hs] at h; rw [stepT_spec hs]; exact topRunQ_of h
noncomputable def bt (l : List Obj) : Nat → Nat → Nat → BT
  | 0, _, _ => .nil
  | f + 1, a, b => match l[b]? with
    | some o => .node o (bt l f (2 * a) (a + b)) (bt l f (2 * a) (2 * a + b))
    | none => .nil
noncomputable def bootS (P : Params) (os : OsState) : SharedT := ⟨bt (boot_heap P).objs.toList 12 1 0, (boot_heap P).objs.size, (boot_heap P).life, #[], boot_drawn, boot_toks, os⟩
theorem bootS_abs (P : Params) (os : OsState) : (bootS P os).abs = ⟨boot_heap P, #[], boot_drawn, boot_toks, os⟩ := by kernel_rfl
noncomputable abbrev Xs (s : Shared) : Bool := xlAt view [] s && recOk (RowW.records (OpenRow.toRowW (OpenLaw.row PySem.Challenge.rw_pe0259_03))) s
noncomputable def seenQ (h₀ : Heap) (s : Shared) := ((staticsOk (PySem.W.Fast.tw5923862056798008813 PP.main.body) h₀ s.heap && namesBound PP s.heap && gensDone s && laidKept h₀ s.heap),
  PySem.W.Fast.tw4187177175401517315 view [PySem.Str.ofString "Whitespace"] (PySem.W.Fast.tw5923862056798008813 PP.main.body) Xs true s, hk.obs s)
/-- what a run of the top shows, in the world w -/
noncomputable def Run (w : World) : Prop := ∀ os : OsState, ∃ S : Shared, topRun treeTable PP w (boot_heap w.params).objs.size ((boot_heap w.params).nsMap mainGlobals "__annotations__") 2788 ⟨boot_heap w.params, #[], boot_drawn, boot_toks, os⟩ (topStub PP) = some S ∧
  (staticsOk (importedModules PP.main.body) (boot_heap w.params) S.heap && namesBound PP S.heap && gensDone S && laidKept (boot_heap w.params) S.heap) = true ∧
  openSeen view [PySem.Str.ofString "Whitespace"] (importedModules PP.main.body) Xs true S = openGood view [PySem.Str.ofString "Whitespace"] ∧ hk.obs S = hk.val w
noncomputable def wf (b : Bool) (w : World) : World := w.withFollow "special-get-raises" b
theorem run_of {w : World} (h : ∀ os : OsState, (topRunQ PP w (boot_heap w.params).objs.size (PySem.W.Fast.tw8920871248978507458 (boot_heap w.params) mainGlobals "__annotations__") 2788 (bootS w.params os) (topStub PP)).map (fun S => seenQ (boot_heap w.params) S.abs) =
    some (true, openGood view [PySem.Str.ofString "Whitespace"], hk.val w)) : Run w := fun os => by
  obtain ⟨S, e1, e2⟩ := Option.map_eq_some_iff.mp (h os)
  have r := topRunQ_of e1
  rw [bootS_abs, ← PySem.W.Fast.te8920871248978507458] at r
  unfold seenQ at e2
  rw [← PySem.W.Fast.te5923862056798008813, ← PySem.W.Fast.te4187177175401517315] at e2
  obtain ⟨e3, e4⟩ := Prod.mk.inj e2
  obtain ⟨e4, e5⟩ := Prod.mk.inj e4
  exact ⟨S.abs, r, e3, e4, e5⟩
theorem run_f (w : World) (os : OsState) : (topRunQ PP (wf false w) (boot_heap (wf false w).params).objs.size (PySem.W.Fast.tw8920871248978507458 (boot_heap (wf false w).params) mainGlobals "__annotations__") 2788 (bootS (wf false w).params os) (topStub PP)).map (fun S => seenQ (boot_heap (wf false w).params) S.abs) =
    some (true, openGood view [PySem.Str.ofString "Whitespace"], hk.val (wf false w)) := by kernel_rfl
theorem run_t (w : World) (os : OsState) : (topRunQ PP (wf true w) (boot_heap (wf true w).params).objs.size (PySem.W.Fast.tw8920871248978507458 (boot_heap (wf true w).params) mainGlobals "__annotations__") 2788 (bootS (wf true w).params os) (topStub PP)).map (fun S => seenQ (boot_heap (wf true w).params) S.abs) =
    some (true, openGood view [PySem.Str.ofString "Whitespace"], hk.val (wf true w)) := by kernel_rfl
theorem runs : ∀ w : World, Run w := byRow2 "special-get-raises" (fun w => run_of (run_f w)) (fun w => run_of (run_t w))
theorem open_boot : ∀ w : World, (fencedOpening treeTable PP w 2788).map (fun s => (s.heap, s.gens, s.drawn, s.toks)) = some (boot_heap w.params, Array.mk [], boot_drawn, boot_toks) :=
  boot_open (by kernel_rfl) (by decide) (fun s => by kernel_rfl)
theorem boot_ns (P : Params) : ((boot_heap P).isNs mainGlobals && ((#[] : Array GenState).size == 0)) = true := by kernel_rfl
theorem left : LeftO PP view [PySem.Str.ofString "Whitespace"] Xs hk.obs hk.val 2788 := fun w => by
  obtain ⟨⟨h, gs, d, k, os⟩, e, e'⟩ := Option.map_eq_some_iff.mp (open_boot w)
  obtain ⟨rfl, rfl, rfl, rfl⟩ : h = boot_heap w.params ∧ gs = #[] ∧ d = boot_drawn ∧ k = boot_toks := by simpa using e'
  obtain ⟨S, r, l1, l2, l3⟩ := runs w os
  have t : topFrom treeTable PP w 2788 ⟨boot_heap w.params, #[], boot_drawn, boot_toks, os⟩ = some S := by
    unfold topFrom
    dsimp only
    rw [boot_ns, r]
    show (match staticsOk (importedModules PP.main.body) (boot_heap w.params) S.heap && namesBound PP S.heap && gensDone S && laidKept (boot_heap w.params) S.heap with | true => _ | false => _) = _
    rw [l1]
  unfold openEnds
  rw [e]
  show (topFrom treeTable PP w 2788 _).map _ = _
  rw [t]
  exact congrArg some (Prod.ext l2 l3)
end Mine
open PySem PySem.W PyProof.Rows PySem.Calls PySem.Builtin
set_option linter.unusedVariables false
set_option linter.unusedSimpArgs false
namespace Mine

theorem room0 {x D r : Nat} (h : x + D < r) : x < r := Nat.lt_of_le_of_lt (Nat.le_add_right x D) h
theorem room1 {x D a r : Nat} (h : x + D < r) (k : Nat.ble a D = true) : x + a < r := Nat.lt_of_le_of_lt (Nat.add_le_add_left (Nat.le_of_ble_eq_true k) x) h
theorem room2 {x D a b r : Nat} (h : x + D < r) (k : Nat.ble (a + b) D = true) : x + a + b < r := by rw [Nat.add_assoc]; exact room1 h k
theorem room3 {x D a b c r : Nat} (h : x + D < r) (k : Nat.ble (a + (b + c)) D = true) : x + a + b + c < r := by rw [Nat.add_assoc]; exact room2 h k
theorem room4 {x D a b c d r : Nat} (h : x + D < r) (k : Nat.ble (a + (b + (c + d))) D = true) : x + a + b + c + d < r := by rw [Nat.add_assoc]; exact room3 h k


noncomputable abbrev Ar (dp un : Nat) (gd : Option (List Code)) (outer : List Env) : Around := { handled := none, depth := dp, frames := some outer, guards := gd, units := un }

/-- a contract: the call of f by args, over the objects sel, all else (g) kept -/
noncomputable def Con (w : World) (D U : Nat) (f : Addr) (args : List Value) (sel : List (Addr × Obj)) (Post : Nat → Value → List (Addr × Obj) → Prop) : Prop :=
  ∀ (dp un : Nat) (gd : Option (List Code)) (outer : List Env) (base g : Heap) (tp : Program) (tl : List Str) (mean : ExcName → Option Value) (mg mb : Str → Option Value) (s : Shared) (R : Result → Shared → Prop),
    Below (Ar dp un gd outer) base outer g → g.StaysIn s.heap → g.objs.size ≤ s.heap.objs.size → (∀ p ∈ sel, s.heap.get? p.1 = some p.2 ∧ g.get? p.1 = none) → (hd.heap_1 w.params).In g → Top tp tl mean mg mb g →
    dp + D < recursionLimit → un + U < cLine →
    (∀ v sel' h' tk', g.StaysIn h' → (∀ p ∈ sel', h'.get? p.1 = some p.2 ∧ g.get? p.1 = none) → Post s.heap.objs.size v sel' → R (.ok (.ret v)) { s with heap := h', toks := tk' }) →
    codeAny (model Challenge.rw_pe0259_03.row.prog w) (Ar dp un gd outer) (.call (.ref f) ⟨args, []⟩) R s

theorem Con.mono {w : World} {D U : Nat} {f : Addr} {args : List Value} {sel : List (Addr × Obj)} {Post Post' : Nat → Value → List (Addr × Obj) → Prop} (C : Con w D U f args sel Post) (h : ∀ n v sel', Post n v sel' → Post' n v sel') : Con w D U f args sel Post' :=
  fun dp un gd outer base g tp tl mean mg mb s R a1 a2 a3 a4 a5 a6 a7 a8 ret => C dp un gd outer base g tp tl mean mg mb s R a1 a2 a3 a4 a5 a6 a7 a8 fun v sel' h' tk' k1 k2 k3 => ret v sel' h' tk' k1 k2 (h _ _ _ k3)

theorem enter_g {prog : Program} {w : World} {A : Around} {s : Shared} {base g : Heap} {outer : List Env} {K : Frag} {p : Program} {loose : List Str} {mean : ExcName → Option Value} {mg mb : Str → Option Value} {sel : List (Addr × Obj)}
    {R : Result → Shared → Prop} {name qual : Str} {params : Arguments} {body : List Stmt} {scope : Scope} {dV kV doc pm cdv ct oc : Value} {an od : Option Addr} {osl : Array (Option Value)} {f : Addr} {args : Args} {binds : List (Str × Value)}
    (B : Below A base outer g) (hg : g.StaysIn s.heap) (hsz : g.objs.size ≤ s.heap.objs.size) (hsel : ∀ p ∈ sel, s.heap.get? p.1 = some p.2 ∧ g.get? p.1 = none) (X : K.In g) (T : Top p loose mean mg mb g)
    (ho : K.lookup f = some ⟨oc, od, .func (fnOf name qual params body scope dV kV doc pm an cdv ct), osl⟩) (hcd : codeIn K cdv qual = true) (hroom : A.depth < recursionLimit)
    (hbind : BindsTo s (fnOf name qual params body scope dV kV doc pm an cdv ct) args binds) (hloc : ∀ y ∈ binds, scope.names.lookup y.1 = some .local)
    (h : ∀ L' h₁ tk, Fr g L' h₁ (fun y => binds.reverse.lookup y) → News g L' h₁ sel → (∀ p ∈ sel, p.1 < L') →
      wpAny (model prog w) (A.deeper (envOf qual scope L' f cdv)) (execs body (envOf qual scope L' f cdv))
        (fun fl s' => R (.ok (.ret (match fl with | .ret v => v | _ => .none))) s')
        (fun e s' => wpAny (model prog w) (A.deeper (envOf qual scope L' f cdv)) (leaving (envOf qual scope L' f cdv) e) (fun _ s'' => R (.error e) s'') (fun e' s'' => R (.error e') s'') s')
        { s with heap := h₁, toks := tk })
    (hco : scope.isCoroutine = false) (hgen : scope.isGenerator = false) (hk : scope.kind = .function)
    (hcell : ∀ x ∈ scope.names, x.2 ≠ .cell) : codeAny (model prog w) A (.call (.ref f) args) R s := by
  refine codeAny_call_def (fd := fnOf name qual params body scope dV kV doc pm an cdv ct) (body := body) (binds := binds) hroom (hg _ _ (X _ _ ho)) rfl (T.nolimit.keeps hg) (codeRec_of (X.keeps hg) hcd) rfl hbind hcell hloc (fun h₁ hns hk₁ => ?_) hco hgen hk
  exact h s.heap.objs.size h₁ _ ⟨hns, fun b o e => hk₁ b o (hg b o e), hsz⟩ (fun p hp => ⟨hk₁ _ _ (hsel p hp).1, Nat.ne_of_lt (Heap.lt_size (hsel p hp).1), (hsel p hp).2⟩) (fun p hp => Heap.lt_size (hsel p hp).1)

theorem use_gc {w : World} {D U : Nat} {f : Addr} {args : List Value} {sel news oth : List (Addr × Obj)} {Post : Nat → Value → List (Addr × Obj) → Prop}
    (C : Con w D U f args sel Post)
    {dp un : Nat} {gd : Option (List Code)} {env : Env} {outer : List Env} {A₀ : Around} {base h₀ : Heap} {L : Addr} {m : Str → Option Value} {tp : Program} {tl : List Str} {mean : ExcName → Option Value} {mg mb : Str → Option Value} {s : Shared} {R : Result → Shared → Prop}
    (B : Below A₀ base outer h₀) (F : Fr h₀ L s.heap m) (X : (hd.heap_1 w.params).In h₀) (N : News h₀ L s.heap news) (T : Top tp tl mean mg mb h₀) (hf : env.frame = some L) (hke : env.scope.kind = .function)
    (hsel : ∀ p ∈ sel, p ∈ news) (hoth1 : ∀ p ∈ oth, p ∈ news) (hoth2 : ∀ p ∈ oth, ∀ q ∈ sel, p.1 ≠ q.1)
    (hd : dp + D < recursionLimit) (hu : un + U < cLine)
    (ret : ∀ v sel' h' tk', Fr h₀ L h' m → News h₀ L h' (sel' ++ oth) → (∀ p ∈ sel', ∀ q ∈ oth, p.1 ≠ q.1) → (∀ p ∈ news, p.1 < s.heap.objs.size) → Post s.heap.objs.size v sel' → R (.ok (.ret v)) { s with heap := h', toks := tk' }) :
    codeAny (model Challenge.rw_pe0259_03.row.prog w) (Ar dp un gd (env :: outer)) (.call (.ref f) ⟨args, []⟩) R s := by
  have hoth : ∀ p ∈ oth, p ∈ news ∧ p.1 ∉ sel.map Prod.fst := fun p hp => ⟨hoth1 p hp, fun q => by
    obtain ⟨r, hr, e⟩ := List.mem_map.mp q
    exact hoth2 p hp r hr e.symm⟩
  have nm : ∀ b o, h₀.get? b = some o → b ∉ sel.map Prod.fst := fun b o e q => by
    obtain ⟨p, hp, rfl⟩ := List.mem_map.mp q
    rw [(N p (hsel p hp)).2.2] at e; cases e
  have st : h₀.StaysIn (hideAll s.heap (sel.map Prod.fst)) := fun b o e => hideAll_get _ (F.keep b o e) (nm b o e)
  obtain ⟨oL, es, ep, hL, hLd, hLk, hLf⟩ := F.ns
  have nL : L ∉ sel.map Prod.fst := fun q => by
    obtain ⟨p, hp, e⟩ := List.mem_map.mp q
    exact (N p (hsel p hp)).2.1 e
  have hLg := hideAll_get (sel.map Prod.fst) hL nL
  have B₁ := pushX B F hf hke
  have B₂ : Below (Ar dp un gd (env :: outer)) base (env :: outer) (hideAll s.heap (sel.map Prod.fst)) := by
    refine ⟨rfl, fun b o e => st b o (B.stays b o e), funFrames_hideAll B₁.frames fun env' he b hb hf' => ?_⟩
    cases he with
    | head => exact nL ((Option.some.inj (hf.symm.trans hf') : L = b) ▸ hb)
    | tail _ he =>
      obtain ⟨L₁, o₁, hf₁, ho₁⟩ := funFrames_in B.frames env' he
      rw [hf₁] at hf'
      exact nm L₁ o₁ ho₁ ((Option.some.inj hf' : L₁ = b) ▸ hb)
  refine C dp un gd (env :: outer) base (hideAll s.heap (sel.map Prod.fst)) tp tl mean mg mb s _ B₂ (fun b o e => of_hideAll _ e) (Nat.le_of_eq (hideAll_size _ _))
    (fun p hp => ⟨(N p (hsel p hp)).1, hideAll_none _ (List.mem_map_of_mem hp)⟩) (X.keeps st) (T.keeps st) hd hu fun v sel' h' tk' k1 k2 k3 => ?_
  have hgo : ∀ p ∈ oth, (hideAll s.heap (sel.map Prod.fst)).get? p.1 = some p.2 := fun p hp => hideAll_get _ (N p (hoth p hp).1).1 (hoth p hp).2
  refine ret v sel' h' tk' ⟨⟨oL, es, ep, k1 L oL hLg, hLd, hLk, hLf⟩, fun b o e => k1 b o (st b o e), F.above⟩ (fun p hp => ?_) (fun p hp q hq e => ?_) (fun p hp => Heap.lt_size (N p hp).1) k3
  · rcases List.mem_append.mp hp with hp | hp
    · refine ⟨(k2 p hp).1, fun q => ?_, ?_⟩
      · have := (k2 p hp).2; rw [q, hLg] at this; cases this
      · cases q : h₀.get? p.1 with
        | none => rfl
        | some o => have := (k2 p hp).2; rw [st _ _ q] at this; cases this
    · exact ⟨k1 _ _ (hgo p hp), (N p (hoth p hp).1).2⟩
  · have := (k2 p hp).2
    rw [e, hgo q hq] at this; cases this

theorem use_g {w : World} {D U : Nat} {f : Addr} {args : List Value} {sel news oth : List (Addr × Obj)} {Post : Nat → Value → List (Addr × Obj) → Prop}
    (C : Con w D U f args sel Post)
    {dp un : Nat} {gd : Option (List Code)} {env : Env} {outer : List Env} {A₀ : Around} {base h₀ : Heap} {L : Addr} {m : Str → Option Value} {tp : Program} {tl : List Str} {mean : ExcName → Option Value} {mg mb : Str → Option Value} {s : Shared} {Q E : Value → Shared → Prop}
    (B : Below A₀ base outer h₀) (F : Fr h₀ L s.heap m) (X : (hd.heap_1 w.params).In h₀) (N : News h₀ L s.heap news) (T : Top tp tl mean mg mb h₀) (hf : env.frame = some L) (hke : env.scope.kind = .function)
    (hsel : ∀ p ∈ sel, p ∈ news) (hoth1 : ∀ p ∈ oth, p ∈ news) (hoth2 : ∀ p ∈ oth, ∀ q ∈ sel, p.1 ≠ q.1)
    (hd : dp + D < recursionLimit) (hu : un + U < cLine)
    (ret : ∀ v sel' h' tk', Fr h₀ L h' m → News h₀ L h' (sel' ++ oth) → (∀ p ∈ sel', ∀ q ∈ oth, p.1 ≠ q.1) → (∀ p ∈ news, p.1 < s.heap.objs.size) → Post s.heap.objs.size v sel' → Q v { s with heap := h', toks := tk' }) :
    wpAny (model Challenge.rw_pe0259_03.row.prog w) (Ar dp un gd (env :: outer)) (call (.ref f) args) Q E s :=
  wpAny_call (use_gc C B F X N T hf hke hsel hoth1 hoth2 hd hu ret)

theorem enter_gc {prog : Program} {w : World} {A : Around} {s : Shared} {g : Heap} {K : Frag} {p : Program} {loose : List Str} {mean : ExcName → Option Value} {mg mb : Str → Option Value} {sel : List (Addr × Obj)}
    {R : Result → Shared → Prop} {name qual : Str} {params : Arguments} {body : List Stmt} {scope : Scope} {dV kV doc pm cdv ct oc : Value} {an od : Option Addr} {osl : Array (Option Value)} {f : Addr} {args : Args} {binds : List (Str × Value)}
    (hg : g.StaysIn s.heap) (hsz : g.objs.size ≤ s.heap.objs.size) (hsel : ∀ p ∈ sel, s.heap.get? p.1 = some p.2 ∧ g.get? p.1 = none) (X : K.In g) (T : Top p loose mean mg mb g)
    (ho : K.lookup f = some ⟨oc, od, .func (fnOf name qual params body scope dV kV doc pm an cdv ct), osl⟩) (hcd : codeIn K cdv qual = true) (hroom : A.depth < recursionLimit)
    (hbind : BindsTo s (fnOf name qual params body scope dV kV doc pm an cdv ct) args binds) (hkind : (binds.all fun y => scope.names.lookup y.1 == some .local || scope.names.lookup y.1 == some .cell) = true)
    (hnd : ((cellsFrom 0 scope.names []).map Prod.fst).Nodup)
    (h : ∀ L' h₁ tk cells, Fr g L' h₁ (bindL (envOfC qual scope L' f cdv).kindOf binds fun _ => none) → News g L' h₁ (cells ++ sel) →
      CellsAre (bindC (envOfC qual scope L' f cdv).kindOf binds fun _ => none) (cellsFrom (L' + 1) scope.names []) cells → (∀ p ∈ sel, p.1 < L') →
      wpAny (model prog w) (A.deeper (envOfC qual scope L' f cdv)) (execs body (envOfC qual scope L' f cdv))
        (fun fl s' => R (.ok (.ret (match fl with | .ret v => v | _ => .none))) s')
        (fun e s' => wpAny (model prog w) (A.deeper (envOfC qual scope L' f cdv)) (leaving (envOfC qual scope L' f cdv) e) (fun _ s'' => R (.error e) s'') (fun e' s'' => R (.error e') s'') s')
        { s with heap := h₁, toks := tk })
    (hco : scope.isCoroutine = false) (hgen : scope.isGenerator = false) (hk : scope.kind = .function) : codeAny (model prog w) A (.call (.ref f) args) R s := by
  refine codeAny_call_function hroom (hg _ _ (X _ _ ho)) rfl hco hgen rfl (codeRec_of (X.keeps hg) hcd) (hbind _ _ _ _ ?_)
  refine wpAny_newFunctionEnv_cells hk (kindsX hkind _) fun env' he s' x => ?_
  subst he
  refine ⟨(T.nolimit.keeps hg).keeps x.toInCall.keep, codeAny_func ?_⟩
  obtain ⟨h₁, tk, rfl, _⟩ := x.done
  have hk₁ := x.toInCall.keep
  obtain ⟨cells, NC, Y⟩ := Cl.news (h₀ := s.heap) (Nat.le_refl _) fun n c hm => ⟨x.cell n c (lookup_of_mem_nodup (cellsFrom_names scope.names 0 (s.heap.objs.size + 1) [] [] rfl ▸ hnd) hm), x.above n c hm⟩
  refine h s.heap.objs.size h₁ tk cells ⟨x.toInCall.ns, fun b o e => hk₁ b o (hg b o e), hsz⟩ (fun p hp => ?_) Y (fun p hp => Heap.lt_size (hsel p hp).1)
  rcases List.mem_append.mp hp with hp | hp
  · refine ⟨(NC p hp).1, (NC p hp).2.1, ?_⟩
    cases q : g.get? p.1 with
    | none => rfl
    | some o => have := hg _ _ q; rw [(NC p hp).2.2] at this; cases this
  · exact ⟨hk₁ _ _ (hsel p hp).1, Nat.ne_of_lt (Heap.lt_size (hsel p hp).1), (hsel p hp).2⟩

theorem slot_fn_set : Slot "function" "__setattr__" "object.__setattr__" :=
  .of (owner := "object") (n := "__setattr__") (by rw [typeLookup_type, builtinLookup_eq_fast]; kernel_rfl) (by decide +kernel) (by decide +kernel) (by decide +kernel)
    (by first | exact .inl (by decide +kernel) | exact .inr (by decide +kernel)) (by rw [isSubtype_type]; kernel_rfl)
theorem slot_fn_gat : Slot "function" "__getattribute__" "object.__getattribute__" :=
  .of (owner := "object") (n := "__getattribute__") (by rw [typeLookup_type, builtinLookup_eq_fast]; kernel_rfl) (by decide +kernel) (by decide +kernel) (by decide +kernel)
    (by first | exact .inl (by decide +kernel) | exact .inr (by decide +kernel)) (by rw [isSubtype_type]; kernel_rfl)
theorem fn_read_none : typeLookup (.type "function") "read" = pure none := by rw [typeLookup_type, builtinLookup_eq_fast]; kernel_rfl
theorem fn_getattr_none : typeLookup (.type "function") "__getattr__" = pure none := by rw [typeLookup_type, builtinLookup_eq_fast]; kernel_rfl
theorem entry_gat : entryFor table "object.__getattribute__" = some Builtin.«object.__getattribute__» := entryFor_of_tree (by kernel_rfl)
theorem fn_mro : mroOf (.type "function") = pure [.type "function", .type "object"] := by kernel_rfl
theorem fn_passes (self : Value) : refuseLoop self "__setattr__" [.type "function", .type "object"] = pure () := by kernel_rfl

noncomputable abbrev withDict (o : Obj) (d : Addr) : Obj := { o with dict := some d }

section
open PySem.Builtin.ObjectAttr
variable {prog : Program} {w : World} {A : Around} {E : Value → Shared → Prop} {s : Shared} {h₀ : Heap} {L f : Addr} {m : Str → Option Value} {fd : FuncData} {sl : Array (Option Value)} {v : Value}

theorem fn_setattr {pre post : List (Addr × Obj)} {Q : Unit → Shared → Prop} (F : Fr h₀ L s.heap m) (N : News h₀ L s.heap (pre ++ (f, ⟨.type "function", none, .func fd, sl⟩) :: post))
    (h1 : ∀ p ∈ pre, p.1 ≠ f) (h2 : ∀ p ∈ post, p.1 ≠ f)
    (h : ∀ d h' tk, Fr h₀ L h' m → News h₀ L h' ((d, dictOf [⟨PyData.keyHash w.params "read", .str "read" tk, v⟩] 1) :: (pre ++ (f, ⟨.type "function", some d, .func fd, sl⟩) :: post)) →
      (∀ p ∈ pre ++ (f, (⟨.type "function", none, .func fd, sl⟩ : Obj)) :: post, p.1 < d) → Q () { s with heap := h', toks := tk + 1 }) :
    wpAny (model prog w) A (setAttr (.ref f) "read" v) Q E s := by
  have SF := PySem.F.store_object
  have hf := (N (f, _) (List.mem_append_right _ (.head _))).1
  have hT : ∀ k, Shared.TypeIs { s with toks := k } (.ref f) "function" := fun _ => ⟨_, hf, rfl⟩
  unfold setAttr
  refine wpAny_bind (wpAny_mkText (wpAny_bind (wpAny_callSpecial?_slot (hT _) slot_fn_set ?_)))
  refine wpAny_call_entry slot_fn_set (hT _) SF.entry ?_ (SF.args _ _ _)
  rw [osa_eq, refuse_eq]
  refine wpAny_bind (wpAny_bind (wpAny_typeOf (hT _) ?_))
  rw [fn_mro]
  refine wpAny_bind (wpAny_pure ?_)
  rw [fn_passes]
  refine wpAny_pure (wpAny_bind (wpAny_typeOf (hT _) ?_))
  rw [fn_read_none]
  refine wpAny_bind (wpAny_pure (wpAny_bind (wpAny_pure ?_)))
  show wpAny _ _ (storeInOwnDict _ _ _ _ _ _) _ _ _
  unfold storeInOwnDict
  refine wpAny_bind (wpAny_pure ?_)
  refine wpAny_bind ?_
  show wpAny _ _ (instanceDict f true) _ _ _
  unfold instanceDict
  refine wpAny_bind (wpAny_loadPart hf ?_)
  dsimp only
  rw [show typeHasDict (.type "function") = true from by decide +kernel]
  refine wpAny_bind (wpAny_alloc ?_)
  have hsz : f < s.heap.objs.size := Heap.lt_size hf
  have F1 := F.push { cls := .type "dict", data := .dict #[] }
  have N1 := N.push F { cls := .type "dict", data := .dict #[] }
  have lt1 : ∀ p ∈ pre ++ (f, (⟨.type "function", none, .func fd, sl⟩ : Obj)) :: post, p.1 < s.heap.objs.size := fun p hp => Heap.lt_size (N p hp).1
  have U := news_upd (d := f) (f := fun o => { o with dict := some s.heap.objs.size }) (pre := (s.heap.objs.size, { cls := .type "dict", data := .dict #[] }) :: pre) (post := post) F1 N1
    (fun p hp => by
      rcases List.mem_cons.mp hp with rfl | hp
      · exact Nat.ne_of_gt hsz
      · exact h1 p hp) h2 rfl rfl
  refine wpAny_bind (wpAny_update (N1 (f, ⟨.type "function", none, .func fd, sl⟩) (.tail _ (List.mem_append_right _ (.head _)))).1 ?_)
  obtain ⟨U1, U2⟩ := U
  have D := (U2 (s.heap.objs.size, _) (.head _)).1
  unfold dictMade
  dsimp only
  rw [show finalisedInACycleAlone "function" = false from by decide +kernel]
  refine wpAny_pure ?_
  show wpAny _ _ (storeInDict _ _ _ _) _ _ _
  unfold storeInDict
  refine wpAny_bind (wpAny_pure (wpAny_bind ?_))
  unfold nsSet
  refine wpAny_bind (wpAny_bind (wpAny_askSetting (wpAny_pure (wpAny_bind (wpAny_mkText (wpAny_bind (wpAny_loadPart D ?_)))))))
  dsimp only
  rw [show aRefKeyMayBeTheName "read" #[] = false from by decide +kernel]
  refine wpAny_updatePart D ?_
  have V := news_upd (d := s.heap.objs.size) (f := Obj.putName "read" (PyData.keyHash w.params "read") (.str "read" (s.toks + 1)) v) (pre := []) U1 U2 (fun _ hp => nomatch hp)
    (fun p hp => by
      rcases List.mem_append.mp hp with hp | hp
      · exact Nat.ne_of_lt (lt1 p (List.mem_append_left _ hp))
      · rcases List.mem_cons.mp hp with rfl | hp
        · exact Nat.ne_of_lt hsz
        · exact Nat.ne_of_lt (lt1 p (List.mem_append_right _ (.tail _ hp)))) (putName_dict _ _ _ _ [] 0) rfl
  obtain ⟨V1, V2⟩ := V
  have D' := (V2 (s.heap.objs.size, _) (.head _)).1
  refine wpAny_bind (wpAny_lookBehind D' (pastItsLine_dict (by rw [List.size_toArray, sizeLine_eq]; exact Nat.le_of_ble_eq_true rfl)) ?_)
  exact wpAny_pure ⟨_, rfl, wpAny_pure (h _ _ _ V1 V2 lt1)⟩

theorem gat_eq (self : Value) (name : Str) (tk : Tok) : Builtin.«object.__getattribute__» ⟨[self, .str name tk], []⟩ = (typeOf self >>= fun tp => find self tp name >>= fun r => match r with
    | .value v => ret v
    | .bind g a => bindTo g a self tp
    | .missing => do
      if tp == .type "module" then
        if ← isOpaqueModuleObj self then
          let byTheModulesOwnEntry := match (← stack).drop 1 with
            | (.builtin "module.__getattribute__" ⟨m :: _, _⟩, _) :: _ => m == self
            | _ => false
          if !byTheModulesOwnEntry then unsupported "thirdparty:object.__getattribute__:a-miss-on-an-opaque-module"
      if tp == .type "type" then
        if let some key ← opaqueClassAbove self then unsupported s!"thirdparty:{key.toString}.{name.toString}:object.__getattribute__-misses-on-an-opaque-class"
      noSuchAttribute self name) := by kernel_rfl

theorem fn_getattr {d : Addr} {n : Nat} {hs : Int} {tk : Tok} {expr : Bool} {Q : Value → Shared → Prop} (hf : s.heap.get? f = some ⟨.type "function", some d, .func fd, sl⟩)
    (hd : s.heap.get? d = some (dictOf [⟨hs, .str "read" tk, v⟩] n)) (hv : handedIn v = true) (h : Q v { s with toks := s.toks + 1 }) :
    wpAny (model prog w) A (getAttr (.ref f) "read" expr) Q E s := by
  have hT : ∀ k, Shared.TypeIs { s with toks := k } (.ref f) "function" := fun _ => ⟨_, hf, rfl⟩
  unfold getAttr
  refine wpAny_bind (wpAny_mkText ?_)
  unfold getAttrBy
  refine wpAny_holding (wpAny_bind (wpAny_typeOf (hT _) ?_))
  rw [slot_fn_gat.lookup]
  refine wpAny_bind (wpAny_pure ?_)
  show wpAny _ _ (getAttrByItsOwn _ _ _ _ _ _) _ _ _
  unfold getAttrByItsOwn
  refine wpAny_bind (wpAny_pure ?_)
  refine wpAny_bind (wpAny_attempt (wpAny_holding ?_))
  show wpAny _ _ (callGetattribute _ _ _ _) _ _ _
  unfold callGetattribute
  rw [show (expr && onTheHeap (.builtin "object.__getattribute__")) = false from by cases expr <;> rfl]
  show wpAny _ _ (boundAndCalled _ _ _) _ _ _
  unfold boundAndCalled
  rw [slot_fn_gat.bind]
  refine wpAny_bind (wpAny_pure ?_)
  refine wpAny_call_entry slot_fn_gat (hT _) entry_gat ?_
  show wpAny _ _ (Builtin.«object.__getattribute__» ⟨[.ref f, .str _ _], []⟩) _ _ _
  rw [gat_eq]
  refine wpAny_bind (wpAny_typeOf (hT _) (wpAny_bind ?_))
  unfold find
  rw [fn_read_none]
  refine wpAny_bind (wpAny_pure (wpAny_bind (wpAny_pure (wpAny_bind (wpAny_pure ?_)))))
  show wpAny _ _ (ownThenClass _ _ _ _) _ _ _
  unfold ownThenClass
  refine wpAny_bind ?_
  show wpAny _ _ (ObjectAttr.ownDict f >>= _) _ _ _
  unfold ObjectAttr.ownDict
  refine wpAny_bind (wpAny_bind (wpAny_loadPart hf ?_))
  show wpAny _ _ (instanceDict f false) _ _ _
  unfold instanceDict
  refine wpAny_bind (wpAny_loadPart hf ?_)
  refine wpAny_pure ?_
  show wpAny _ _ (nsGet d "read") _ _ _
  unfold nsGet
  refine wpAny_bind (wpAny_loadPart hd ?_)
  have e : nsLook "read" (dictOf [⟨hs, .str "read" tk, v⟩] n) = pure (some v) := by rfl
  rw [e]
  refine wpAny_pure (wpAny_bind (wpAny_rule (wpAny_pure (wpAny_pure ⟨v, rfl, ?_⟩))))
  show wpAny _ _ (handedOut v) _ _ _
  rw [handedOut_of hv]
  exact wpAny_pure h
theorem canon_gat : Manifest.canonical "object.__getattribute__" = "object.__getattribute__" := by decide +kernel
theorem fn_getmethod {d : Addr} {n : Nat} {hs : Int} {tk : Tok} {pl : Sem Bool} {Q : Value × List Value → Shared → Prop} (hf : s.heap.get? f = some ⟨.type "function", some d, .func fd, sl⟩)
    (hd : s.heap.get? d = some (dictOf [⟨hs, .str "read" tk, v⟩] n)) (hv : handedIn v = true) (h : Q (v, []) { s with toks := s.toks + 1 }) :
    wpAny (model prog w) A (getMethod (.ref f) "read" pl) Q E s := by
  have hT : s.TypeIs (.ref f) "function" := ⟨_, hf, rfl⟩
  unfold getMethod
  refine wpAny_bind (wpAny_specialOf hT slot_fn_gat.lookup ?_)
  dsimp only
  rw [canon_gat]
  simp only [bne_self_eq_false, Bool.false_eq_true, if_false]
  refine wpAny_bind (wpAny_specialOf hT fn_getattr_none ?_)
  simp only [Option.isSome_none, Bool.false_eq_true, if_false]
  refine wpAny_bind (wpAny_specialOf hT fn_read_none ?_)
  dsimp only
  exact wpAny_bind (fn_getattr hf hd hv (wpAny_pure h))
end


/-- entering a def that a call has made -/
theorem enter_m {prog : Program} {w : World} {A : Around} {s : Shared} {g : Heap} {p : Program} {loose : List Str} {mean : ExcName → Option Value} {mg mb : Str → Option Value} {sel : List (Addr × Obj)}
    {R : Result → Shared → Prop} {name qual : Str} {params : Arguments} {body : List Stmt} {scope : Scope} {cl : List (Str × Addr)} {dV kV doc pm ct : Value} {an : Option Addr} {fo oc : Obj} {vs : Array Value} {tq : Tok} {f c : Addr} {args : Args} {binds : List (Str × Value)}
    (hg : g.StaysIn s.heap) (hsz : g.objs.size ≤ s.heap.objs.size) (hsel : ∀ p ∈ sel, s.heap.get? p.1 = some p.2 ∧ g.get? p.1 = none) (T : Top p loose mean mg mb g)
    (hfo : (f, fo) ∈ sel) (hfd : fo.data = .func (fnX name qual params body scope cl dV kV doc pm an (.ref c) ct)) (hc : (c, oc) ∈ sel) (hcd : oc.data = .fields vs) (hvs : vs[1]? = some (.str qual tq)) (hroom : A.depth < recursionLimit)
    (hbind : BindsTo s (fnX name qual params body scope cl dV kV doc pm an (.ref c) ct) args binds) (hloc : ∀ y ∈ binds, scope.names.lookup y.1 = some .local)
    (h : ∀ L' h₁ tk, Fr g L' h₁ (fun y => binds.reverse.lookup y) → News g L' h₁ sel → (∀ p ∈ sel, p.1 < L') →
      wpAny (model prog w) (A.deeper (envX qual scope L' f (.ref c) cl)) (execs body (envX qual scope L' f (.ref c) cl))
        (fun fl s' => R (.ok (.ret (match fl with | .ret v => v | _ => .none))) s')
        (fun e s' => wpAny (model prog w) (A.deeper (envX qual scope L' f (.ref c) cl)) (leaving (envX qual scope L' f (.ref c) cl) e) (fun _ s'' => R (.error e) s'') (fun e' s'' => R (.error e') s'') s')
        { s with heap := h₁, toks := tk })
    (hco : scope.isCoroutine = false) (hgen : scope.isGenerator = false) (hk : scope.kind = .function)
    (hcell : ∀ x ∈ scope.names, x.2 ≠ .cell) : codeAny (model prog w) A (.call (.ref f) args) R s := by
  refine codeAny_call_def (fd := fnX name qual params body scope cl dV kV doc pm an (.ref c) ct) (body := body) (binds := binds) hroom (hsel _ hfo).1 hfd (T.nolimit.keeps hg) ⟨c, oc, vs, tq, rfl, (hsel _ hc).1, hcd, hvs⟩ rfl hbind hcell hloc (fun h₁ hns hk₁ => ?_) hco hgen hk
  exact h s.heap.objs.size h₁ _ ⟨hns, fun b o e => hk₁ b o (hg b o e), hsz⟩ (fun p hp => ⟨hk₁ _ _ (hsel p hp).1, Nat.ne_of_lt (Heap.lt_size (hsel p hp).1), (hsel p hp).2⟩) (fun p hp => Heap.lt_size (hsel p hp).1)

/-- the parts of the def that stands at place i of a def's body -/
noncomputable def nestedDef (o : Option Obj) (i : Nat) : Option (Arguments × List Stmt × Scope) := match o with
  | some ⟨_, _, .func fd, _⟩ => (match fd.body with
    | .stmts b => (match b[i]? with
      | some (.FunctionDef _ args body _ _ _ scope _ _ _) => some (args, body, scope)
      | _ => none)
    | _ => none)
  | _ => none
theorem nested_out {K : Frag} {f : Addr} {o : Obj} {i : Nat} {x : Option (Arguments × List Stmt × Scope)} {P : Prop} (hl : K.lookup f = some o) (h : nestedDef (K.lookup f) i = x) (k : nestedDef (some o) i = x → P) : P := k (hl ▸ h)

local macro_rules | `(tactic| k_room) => `(tactic| ((try simp only [depth_under_make, depth_under_kw, depth_in1, depth_deeper, depth_caller]); (try dsimp only); (first | exact room0 (by assumption) | exact room1 (by assumption) rfl | exact room2 (by assumption) rfl | exact room3 (by assumption) rfl | exact room4 (by assumption) rfl | omega)))
local macro_rules | `(tactic| k_units) => `(tactic| ((try simp only [units_in1, units_deeper, Around.mark_units, units_caller]); (try dsimp only); (first | exact room0 (by assumption) | exact room1 (by assumption) rfl | exact room2 (by assumption) rfl | exact room3 (by assumption) rfl | exact room4 (by assumption) rfl | omega)))
local macro_rules | `(tactic| k_all) => `(tactic| assumption)
local macro_rules | `(tactic| k_ne) => `(tactic| (refine neN ?_; (try dsimp only); (first | (refine Nat.ne_of_gt ?_; with_reducible ((repeat (first | assumption | exact And.left (by assumption) | exact And.left (And.right (by assumption)) | exact And.right (And.right (by assumption)) | exact And.right (by assumption) | exact And.left (And.right (And.right (by assumption))) | exact And.right (And.right (And.right (by assumption))) | exact And.left (And.right (And.right (And.right (by assumption)))) | exact And.left (And.right (And.right (And.right (And.right (by assumption))))) | refine Nat.lt_trans ?_ (by assumption))); done)) | (refine Nat.ne_of_lt ?_; with_reducible ((repeat (first | assumption | exact And.left (by assumption) | exact And.left (And.right (by assumption)) | exact And.right (And.right (by assumption)) | exact And.right (by assumption) | exact And.left (And.right (And.right (by assumption))) | exact And.right (And.right (And.right (by assumption))) | exact And.left (And.right (And.right (And.right (by assumption)))) | exact And.left (And.right (And.right (And.right (And.right (by assumption))))) | refine Nat.lt_trans ?_ (by assumption))); done)) | exact Nat.ne_of_gt (Nat.lt_succ_self _) | exact Nat.ne_of_lt (Nat.lt_succ_self _))))
local macro_rules | `(tactic| k_ne) => `(tactic| first | assumption | (refine Ne.symm ?_; assumption))
theorem fdiv_nn (a b : Nat) : Int.fdiv (a : Int) (b : Int) = ((a / b : Nat) : Int) := by
  rw [Int.fdiv_eq_ediv_of_nonneg _ (Int.natCast_nonneg _)]; exact (Int.natCast_ediv _ _).symm
theorem fmod_nn (a b : Nat) : Int.fmod (a : Int) (b : Int) = ((a % b : Nat) : Int) := by
  rw [Int.fmod_eq_emod_of_nonneg _ (Int.natCast_nonneg _)]; exact (Int.natCast_emod _ _).symm
theorem cast_pow2 (k : Nat) : (2 : Int) ^ k = ((2 ^ k : Nat) : Int) := by simp
theorem fdiv_pow2 (x k : Nat) : Int.fdiv (x : Int) (2 ^ (Int.toNat (k : Int))) = ((x / 2 ^ k : Nat) : Int) := by
  rw [Int.toNat_natCast, cast_pow2, fdiv_nn]
theorem mul_pow2 (x k : Nat) : (x : Int) * 2 ^ (Int.toNat (k : Int)) = ((x * 2 ^ k : Nat) : Int) := by
  rw [Int.toNat_natCast, cast_pow2]; simp
theorem bits_lt {a m : Nat} (h : a < 2 ^ m) : Builtin.Int.intBits (a : Int) ≤ m := PySem.intBits_le_iff.mpr (by simpa using h)
theorem lt_bits (a : Nat) : a < 2 ^ Builtin.Int.intBits (a : Int) := by
  have := PySem.intBits_le_iff.mp (Nat.le_refl (Builtin.Int.intBits (a : Int)))
  simpa using this
theorem and_mul_pow2 (x y k : Nat) : x &&& (y * 2 ^ k) = (x / 2 ^ k &&& y) * 2 ^ k := by
  apply Nat.eq_of_testBit_eq
  intro i
  rw [Nat.testBit_and, Nat.testBit_mul_two_pow, Nat.testBit_mul_two_pow, Nat.testBit_and, Nat.testBit_div_two_pow]
  by_cases h : k ≤ i
  · simp [h, Nat.sub_add_cancel h]
  · simp [h]
theorem xor_low (x k : Nat) : Builtin.bitXor (x : Int) ((x / 2 ^ k * 2 ^ k : Nat) : Int) = ((x % 2 ^ k : Nat) : Int) := by
  rw [bitXor_and, bitAnd_pp (Int.natCast_nonneg _) (Int.natCast_nonneg _), Int.toNat_natCast, Int.toNat_natCast, and_mul_pow2, Nat.and_self]
  have := Nat.div_add_mod x (2 ^ k)
  rw [Nat.mul_comm] at this
  omega
/-- digit i of x to the base 2 ^ n -/
noncomputable def dig (n x i : Nat) : Nat := x / 2 ^ (n * i) % 2 ^ n
theorem dig_low {n x i j : Nat} (h : i < j) : dig n (x % 2 ^ (n * j)) i = dig n x i := by
  unfold dig
  rw [show n * j = n * i + n * (j - i) from by rw [← Nat.mul_add]; congr 1; omega, Nat.pow_add, Nat.mod_mul_right_div_self]
  apply Nat.mod_mod_of_dvd
  exact Nat.pow_dvd_pow 2 (Nat.le_mul_of_pos_right n (by omega))
theorem dig_high {n x i j : Nat} (h : j ≤ i) : dig n (x / 2 ^ (n * j)) (i - j) = dig n x i := by
  unfold dig
  rw [Nat.div_div_eq_div_mul, ← Nat.pow_add, ← Nat.mul_add, Nat.add_sub_cancel' h]
theorem dig_zero {n x : Nat} (h : x < 2 ^ n) : dig n x 0 = x := by
  unfold dig
  simp [Nat.mod_eq_of_lt h]
theorem half_lo {Lo mid Hi d : Nat} (h1 : Lo < mid) (h2 : mid < Hi) (h : Hi - Lo ≤ d + 1) : mid - Lo ≤ d :=
  Nat.le_of_lt_succ (Nat.lt_of_lt_of_le (Nat.sub_lt_sub_right (Nat.le_of_lt h1) h2) h)
theorem half_hi {Lo mid Hi d : Nat} (h1 : Lo < mid) (h2 : mid < Hi) (h : Hi - Lo ≤ d + 1) : Hi - mid ≤ d :=
  Nat.le_of_lt_succ (Nat.lt_of_lt_of_le (Nat.sub_lt_sub_left (Nat.lt_trans h1 h2) h1) h)
theorem sub3 {i mid Lo : Nat} (h1 : Lo < mid) : i - mid = i - Lo - (mid - Lo) := by rw [Nat.sub_sub, Nat.add_sub_cancel' (Nat.le_of_lt h1)]
theorem toNat_sub' {m : Nat} {t : Int} (h : 0 ≤ t) : ((m : Int) - t).toNat = m - t.toNat := by
  obtain ⟨k, rfl⟩ := Int.eq_ofNat_of_zero_le h
  exact Int.toNat_sub m k
theorem toNat_sub1 {b c : Nat} (h : c ≤ b) : ((b : Int) - (c : Int) + 1).toNat = b - c + 1 := by
  rw [← Int.ofNat_sub h]; exact Int.toNat_natCast (b - c + 1)
theorem sub_one_sub (len i : Nat) : len - (i + 1) = len - 1 - i := by rw [Nat.sub_sub, Nat.add_comm]
theorem turn_lt {n i : Nat} (h : i < n) : n + 1 - (i + 1) < n + 1 - i := Nat.sub_lt_sub_left (Nat.lt_succ_of_lt h) (Nat.lt_succ_self i)
noncomputable def FnAt (rd : Addr) (h : Heap) : Prop := ∃ o fd, h.get? rd = some o ∧ o.data = .func fd
theorem keeps_fn {M : Model} {rd : Addr} (h : Heap) (X : FnAt rd h) : ∃ k, (k = Keeper.frame ∨ k = Keeper.machine ∨ k = Keeper.boundFrame) ∧ Looks M h (keeperOf (.ref rd)) k := by
  obtain ⟨o, fd, e1, e2⟩ := X
  refine ⟨.frame, .inl rfl, (Looks.ld (part := none) e1).andThen ?_⟩
  rw [e2]; exact .now
theorem callWith_fn {M : Model} {A : Around} {E : Value → Shared → Prop} {s : Shared} {env : Env} {pos : Pos} {first : List Value} {Q : Value → Shared → Prop} {rd : Addr} {e : Expr} {rest : List Expr}
    (h : wpAny M A (spliced (backTo pos (starEach (e :: rest) env))) (fun vs s₁ => FnAt rd s₁.heap ∧ wpAny M A (call (.ref rd) (first ++ vs)) Q E s₁) E s)
    (he : starEach (e :: rest) env = (false, eval e env) :: starEach rest env := by rfl) (hplain : (backTo pos (starEach rest env)).any (·.1) = false := by rfl) :
    wpAny M A (callWith pos (.ref rd) first (backTo pos (starEach (e :: rest) env)) []) Q E s := by
  rw [he] at h ⊢
  exact callWith_of (by show ((false || (backTo pos (starEach rest env)).any (·.1)) || false) = false; rw [hplain]; rfl) (keeps_fn) (evalArgs_plain h)

/-- the one sign at place p, the empty text behind the end -/
noncomputable def signAt (x : Str) (p : Nat) : Str := ⟨x.cps.extract p (p + 1)⟩

structure Reader (w : World) (rd : Addr) (text : Str) (adr : List Addr) (RO : Nat → List (Addr × Obj) → Prop) : Prop where
  adrs : ∀ p l, RO p l → l.map Prod.fst = adr
  fn : ∀ p l, RO p l → ∃ o fd, (rd, o) ∈ l ∧ o.data = .func fd
  read : ∀ p l t, RO p l → Con w 2 20 rd [.int 1 t] l (fun _ v l' => RO (min (p + 1) text.length) l' ∧ ∃ t', v = .str (signAt text p) t')

structure LexA where
  x : Addr
  dx : Addr
  pb : Addr
  st : Addr
  std : Addr
  rd : Addr
  t1 : Tok
  t2 : Tok
  t3 : Tok
  t4 : Tok
  td : Tok
  fd : FuncData
  sl : Array (Option Value)

noncomputable abbrev lexDict (w : World) (a : LexA) (lin : Value) (wsp : Value) : Obj := dictOf [⟨PyData.keyHash w.params "lineno", .str "lineno" a.t1, lin⟩, ⟨PyData.keyHash w.params "instream", .str "instream" a.t2, .ref a.st⟩, ⟨PyData.keyHash w.params "whitespace", .str "whitespace" a.t3, wsp⟩, ⟨PyData.keyHash w.params "pushback", .str "pushback" a.t4, .ref a.pb⟩] 4
noncomputable abbrev lexObjs (w : World) (a : LexA) (lin wsp : Value) (items : List Value) (k : Nat) : List (Addr × Obj) :=
  [(a.x, instObj 101 a.dx), (a.dx, lexDict w a lin wsp), (a.pb, listOf items.toArray k), (a.st, ⟨.type "function", some a.std, .func a.fd, a.sl⟩), (a.std, dictOf [⟨PyData.keyHash w.params "read", .str "read" a.td, .ref a.rd⟩] 1)]

structure LexA.Ok (a : LexA) (adr : List Addr) : Prop where
  n1 : a.x ≠ a.dx
  n2 : a.x ≠ a.pb
  n3 : a.dx ≠ a.pb
  n4 : a.st ≠ a.dx
  n5 : a.st ≠ a.pb
  n6 : a.std ≠ a.dx
  n7 : a.std ≠ a.pb
  m1 : a.x ∉ adr
  m2 : a.dx ∉ adr
  m3 : a.pb ∉ adr
  m4 : a.st ∉ adr
  m5 : a.std ∉ adr

theorem not_adr {l : List (Addr × Obj)} {adr : List Addr} {d : Addr} (h : l.map Prod.fst = adr) (hd : d ∉ adr) : ∀ p ∈ l, p.1 ≠ d := fun p hp e => hd (h ▸ e ▸ List.mem_map_of_mem hp)

theorem read_char_c (w : World) (a : LexA) (text : Str) (adr : List Addr) (RO : Nat → List (Addr × Obj) → Prop) (Rd : Reader w a.rd text adr RO) (O : a.Ok adr)
    (lin : Int) (lt : Tok) (wsp : Value) (items : List Value) (k : Nat) (p : Nat) (l : List (Addr × Obj)) (hl : RO p l) :
   Con w 4 40 84 [.ref a.x] (lexObjs w a (.int lin lt) wsp items k ++ l)
     (fun _ v sel' => ∃ t lt' l', v = .str (signAt text p) t ∧ RO (min (p + 1) text.length) l' ∧
       sel' = lexObjs w a (.int (if signAt text p == "\n" then lin + 1 else lin) lt') wsp items k ++ l') := by
  unfold Con
  k_fill
  intro dp un gd outer base g tp tl mean mg mb s R B hg hsz hsel X T hd hu ret
  refine' enter_g B hg hsz hsel X T ?k6 ?k7 ?k8 ?k9 ?kB ?_ ?c2 ?c3 ?c4 ?c5
  (case k6 => k_is); (case k7 => k_is); (case k8 => ktr_room); (case k9 => exact BindsTo.of_eq rfl); (case c5 => decide); (case kB => exact locs rfl); (case c2 => exact rfl); (case c3 => exact rfl); (case c4 => exact rfl)
  k_whole
  intro L' h' tk' F' N' l1
  simp only [lexObjs, List.cons_append, List.nil_append] at N'
  obtain ⟨n1, n2, n3, n4, n5, n6, n7, q1, q2, q3, q4, q5⟩ := O
  have m1 := not_adr (Rd.adrs p l hl) q1
  have m2 := not_adr (Rd.adrs p l hl) q2
  have m3 := not_adr (Rd.adrs p l hl) q3
  have m4 := not_adr (Rd.adrs p l hl) q4
  have m5 := not_adr (Rd.adrs p l hl) q5
  (try dsimp only); (try k_fold)
  ((repeat' ((fail_if_success (with_reducible show wpAny _ _ (getMethod (Value.ref a.st) _ _) _ _ _)); (first | (k_unfold; (try dsimp only)) | ((with_reducible first | show wpAny _ _ (exec _ _) _ _ _ | show wpAny _ _ (execs _ _) _ _ _); k_fold) | (k_end; wrow_close) | walk1 | (dsimp only; walk1) | (leave1; (try dsimp only))))) <;> (repeat (k_unfold; (try dsimp only))))
  rename News _ _ _ _ => N1
  refine fn_getmethod (N1 (a.st, _) (by k_mem)).1 (N1 (a.std, _) (by k_mem)).1 rfl ?_
  (try dsimp only)
  refine callWith_fn ?_
  ((repeat' ((fail_if_success (with_reducible show FnAt _ _ ∧ _)); (first | (k_unfold; (try dsimp only)) | ((with_reducible first | show wpAny _ _ (exec _ _) _ _ _ | show wpAny _ _ (execs _ _) _ _ _); k_fold) | (k_end; wrow_close) | walk1 | (dsimp only; walk1) | (leave1; (try dsimp only))))) <;> (repeat (k_unfold; (try dsimp only))))
  obtain ⟨o9, fd9, hm9, hf9⟩ := Rd.fn p l hl
  refine ⟨⟨o9, fd9, (N1 (a.rd, o9) (by iterate 5 (refine List.Mem.tail _ ?_)
                                       exact hm9)).1, hf9⟩, ?_⟩
  refine use_g (Rd.read p l _ hl) (oth := lexObjs w a (.int lin lt) wsp items k) B (by assumption) X N1 T rfl rfl (fun p hp => ?_) ?_ ?_ ?_ ?_ ?_
  · iterate 5 (refine List.Mem.tail _ ?_)
    exact hp
  · exact List.forall_mem_cons.mpr ⟨by k_mem, List.forall_mem_cons.mpr ⟨by k_mem, List.forall_mem_cons.mpr ⟨by k_mem, List.forall_mem_cons.mpr ⟨by k_mem, List.forall_mem_cons.mpr ⟨by k_mem, List.forall_mem_nil _⟩⟩⟩⟩⟩
  · exact List.forall_mem_cons.mpr ⟨fun q hq e => m1 q hq e.symm, List.forall_mem_cons.mpr ⟨fun q hq e => m2 q hq e.symm, List.forall_mem_cons.mpr ⟨fun q hq e => m3 q hq e.symm, List.forall_mem_cons.mpr ⟨fun q hq e => m4 q hq e.symm, List.forall_mem_cons.mpr ⟨fun q hq e => m5 q hq e.symm, List.forall_mem_nil _⟩⟩⟩⟩⟩
  · k_room
  · k_units
  rintro v l2 h2 tk2 F2 N2 - - ⟨hl2, t2, rfl⟩
  replace N2 : News g L' h2 (lexObjs w a (.int lin lt) wsp items k ++ l2) := fun p hp => N2 p (List.mem_append.mpr (List.mem_append.mp hp).symm)
  simp only [lexObjs, List.cons_append, List.nil_append] at N2
  have m1 := not_adr (Rd.adrs _ l2 hl2) q1
  have m2 := not_adr (Rd.adrs _ l2 hl2) q2
  have m3 := not_adr (Rd.adrs _ l2 hl2) q3
  have m4 := not_adr (Rd.adrs _ l2 hl2) q4
  have m5 := not_adr (Rd.adrs _ l2 hl2) q5
  (try dsimp only); (try k_fold)
  ((repeat' (first | (k_unfold; (try dsimp only)) | ((with_reducible first | show wpAny _ _ (exec _ _) _ _ _ | show wpAny _ _ (execs _ _) _ _ _); k_fold) | (k_end; wrow_close) | walk1 | (dsimp only; walk1) | (leave1; (try dsimp only)))) <;> (repeat (k_unfold; (try dsimp only))))
  all_goals (
    (try dsimp only)
    rename Fr _ _ _ _ => F3
    rename News _ _ _ _ => N3
    refine ret _ _ _ _ F3.keep (fun p hp => ⟨(N3 p hp).1, (N3 p hp).2.2⟩) ?_
    rename ((_ == _) = _) => hb
    refine ⟨_, ?_, l2, rfl, hl2, ?_⟩
    rotate_left
    rw [hb]
    exact rfl)
theorem StrsAre.cons_inv {vs : List Value} {y : Str} {ys : List Str} (h : StrsAre vs (y :: ys)) : ∃ t vs', vs = .str y t :: vs' ∧ StrsAre vs' ys := by
  cases h with
  | cons _ _ h => exact ⟨_, _, rfl, h⟩

noncomputable def MachSt (w : World) (a : LexA) (RO : Nat → List (Addr × Obj) → Prop) (lin : Int) (wsp : Str) (ws : List Str) (p : Nat) (blk : List (Addr × Obj)) : Prop :=
  ∃ lt tw k l items, RO p l ∧ StrsAre items ws ∧ blk = lexObjs w a (.int lin lt) (.str wsp tw) items k ++ l

theorem MachSt.adrs {w : World} {a : LexA} {text : Str} {adr : List Addr} {RO : Nat → List (Addr × Obj) → Prop} {lin : Int} {wsp : Str} {ws : List Str} {p : Nat} {blk : List (Addr × Obj)}
    (M : MachSt w a RO lin wsp ws p blk) (Rd : Reader w a.rd text adr RO) : blk.map Prod.fst = [a.x, a.dx, a.pb, a.st, a.std] ++ adr := by
  obtain ⟨lt, tw, k, l, items, hl, hi, rfl⟩ := M
  simp only [lexObjs, List.map_append, List.map_cons, List.map_nil, Rd.adrs p l hl]

theorem push_token_c (w : World) (a : LexA) (text : Str) (adr : List Addr) (RO : Nat → List (Addr × Obj) → Prop) (Rd : Reader w a.rd text adr RO) (O : a.Ok adr)
    (lin : Int) (wsp : Str) (ws : List Str) (p : Nat) (blk : List (Addr × Obj)) (M : MachSt w a RO lin wsp ws p blk) (y : Str) (t : Tok) (hlen : ws.length < 10000) :
   Con w 4 40 98 [.ref a.x, .str y t] blk (fun _ v blk' => v = .none ∧ MachSt w a RO lin wsp (ws ++ [y]) p blk') := by
  obtain ⟨lt, tw, k, l, items, hl, hi, rfl⟩ := M
  have hlen2 : items.length < 10000 := hi.length ▸ hlen
  unfold Con
  k_fill
  intro dp un gd outer base g tp tl mean mg mb s R B hg hsz hsel X T hd hu ret
  refine' enter_g B hg hsz hsel X T ?k6 ?k7 ?k8 ?k9 ?kB ?_ ?c2 ?c3 ?c4 ?c5
  (case k6 => k_is); (case k7 => k_is); (case k8 => ktr_room); (case k9 => exact BindsTo.of_eq rfl); (case c5 => decide); (case kB => exact locs rfl); (case c2 => exact rfl); (case c3 => exact rfl); (case c4 => exact rfl)
  k_whole
  intro L' h' tk' F' N' l1
  simp only [lexObjs, List.cons_append, List.nil_append] at N'
  obtain ⟨n1, n2, n3, n4, n5, n6, n7, q1, q2, q3, q4, q5⟩ := O
  have m3 := not_adr (Rd.adrs p l hl) q3
  (try dsimp only); (try k_fold)
  ((repeat' (first | (k_unfold; (try dsimp only)) | ((with_reducible first | show wpAny _ _ (exec _ _) _ _ _ | show wpAny _ _ (execs _ _) _ _ _); k_fold) | (k_end; wrow_close) | walk1 | (dsimp only; walk1) | (leave1; (try dsimp only)))) <;> (repeat (k_unfold; (try dsimp only))))
  (try dsimp only)
  rename Fr _ _ _ _ => F3
  rename News _ _ _ _ => N3
  refine ret _ _ _ _ F3.keep (fun p hp => ⟨(N3 p hp).1, (N3 p hp).2.2⟩) ⟨rfl, lt, tw, k + 1, l, items ++ [.str y t], hl, kct_snoc hi, ?_⟩
  simp only [lexObjs, List.cons_append, List.nil_append, List.push_toArray]

theorem get_token_1 (w : World) (a : LexA) (text : Str) (adr : List Addr) (RO : Nat → List (Addr × Obj) → Prop) (Rd : Reader w a.rd text adr RO) (O : a.Ok adr)
    (lin : Int) (wsp : Str) (y : Str) (ws : List Str) (p : Nat) (blk : List (Addr × Obj)) (M : MachSt w a RO lin wsp (y :: ws) p blk) (hlen : ws.length < 10000) :
   Con w 4 40 91 [.ref a.x] blk (fun _ v blk' => (∃ t, v = .str y t) ∧ MachSt w a RO lin wsp ws p blk') := by
  obtain ⟨lt, tw, k, l, items, hl, hi, rfl⟩ := M
  obtain ⟨ty, items, rfl, hi2⟩ := StrsAre.cons_inv hi
  have hlen2 : items.length < 10000 := hi2.length ▸ hlen
  unfold Con
  k_fill
  intro dp un gd outer base g tp tl mean mg mb s R B hg hsz hsel X T hd hu ret
  refine' enter_g B hg hsz hsel X T ?k6 ?k7 ?k8 ?k9 ?kB ?_ ?c2 ?c3 ?c4 ?c5
  (case k6 => k_is); (case k7 => k_is); (case k8 => ktr_room); (case k9 => exact BindsTo.of_eq rfl); (case c5 => decide); (case kB => exact locs rfl); (case c2 => exact rfl); (case c3 => exact rfl); (case c4 => exact rfl)
  k_whole
  intro L' h' tk' F' N' l1
  simp only [lexObjs, List.cons_append, List.nil_append] at N'
  obtain ⟨n1, n2, n3, n4, n5, n6, n7, q1, q2, q3, q4, q5⟩ := O
  have m3 := not_adr (Rd.adrs p l hl) q3
  (try dsimp only); (try k_fold)
  ((repeat' ((fail_if_success (with_reducible show wpAny _ _ (truthy (Value.ref a.pb)) _ _ _)); (first | (k_unfold; (try dsimp only)) | ((with_reducible first | show wpAny _ _ (exec _ _) _ _ _ | show wpAny _ _ (execs _ _) _ _ _); k_fold) | (k_end; wrow_close) | walk1 | (dsimp only; walk1) | (leave1; (try dsimp only))))) <;> (repeat (k_unfold; (try dsimp only))))
  rename News _ _ _ _ => N1
  refine wpAny_truthy_list (News.isList N1 (by k_mem)) (by simp only [List.size_toArray, List.length_cons]; omega) ?_
  rw [show (!(Value.str y ty :: items).toArray.isEmpty) = true from by simp]
  ((repeat' ((fail_if_success (with_reducible show wpAny _ _ (call (Value.builtin "list.pop") _) _ _ _)); (first | (k_unfold; (try dsimp only)) | ((with_reducible first | show wpAny _ _ (exec _ _) _ _ _ | show wpAny _ _ (execs _ _) _ _ _); k_fold) | (k_end; wrow_close) | walk1 | (dsimp only; walk1) | (leave1; (try dsimp only))))) <;> (repeat (k_unfold; (try dsimp only))))
  rename Fr _ _ _ _ => F2
  rename News _ _ _ _ => N2
  refine' kl_popAt (its := (Value.str y ty :: items).toArray) (k := 0) (p := []) (q := items) (y := .str y ty) (n := k) F2 N2 ?f ?k ?e ?U ?z ?_
  (case f => rfl)
  (case k => simp [seqIndex?])
  (case e => rfl)
  (case U => k_upd)
  (case z => show (Value.str y ty :: items).length ≤ sizeLine; rw [sizeLine_eq, List.length_cons]; omega)
  intro h3 F3 N3
  (try dsimp only [List.nil_append, List.cons_append] at N3)
  clear F2 N2
  ((repeat' (first | (k_unfold; (try dsimp only)) | ((with_reducible first | show wpAny _ _ (exec _ _) _ _ _ | show wpAny _ _ (execs _ _) _ _ _); k_fold) | (k_end; wrow_close) | walk1 | (dsimp only; walk1) | (leave1; (try dsimp only)))) <;> (repeat (k_unfold; (try dsimp only))))
  (try dsimp only)
  refine ret _ _ _ _ F3.keep (fun p hp => ⟨(N3 p hp).1, (N3 p hp).2.2⟩) ⟨⟨_, rfl⟩, lt, tw, k + 1, l, items, hl, hi2, rfl⟩

theorem slot_cit_next : Slot "callable_iterator" "__next__" "callable_iterator.__next__" :=
  .of (owner := "callable_iterator") (n := "__next__") (by rw [typeLookup_type, builtinLookup_eq_fast]; kernel_rfl) (by decide +kernel) (by decide +kernel) (by decide +kernel)
    (by first | exact .inl (by decide +kernel) | exact .inr (by decide +kernel)) (by rw [isSubtype_type]; kernel_rfl)
theorem slot_cit_iter : Slot "callable_iterator" "__iter__" "callable_iterator.__iter__" :=
  .of (owner := "callable_iterator") (n := "__iter__") (by rw [typeLookup_type, builtinLookup_eq_fast]; kernel_rfl) (by decide +kernel) (by decide +kernel) (by decide +kernel)
    (by first | exact .inl (by decide +kernel) | exact .inr (by decide +kernel)) (by rw [isSubtype_type]; kernel_rfl)
theorem entry_cit_next : entryFor table "callable_iterator.__next__" = some Builtin.«callable_iterator.__next__» := entryFor_of_tree (by kernel_rfl)
theorem entry_cit_iter : entryFor table "callable_iterator.__iter__" = some Builtin.«dict_keyiterator.__iter__» :=
  entryFor_alias (id' := "dict_keyiterator.__iter__") (by kernel_rfl) rfl (by decide +kernel) (by kernel_rfl)
theorem args_cit_next (a : Value) : argsOk "callable_iterator.__next__" ⟨[a], []⟩ := by unfold argsOk; kernel_rfl
theorem args_cit_iter (a : Value) : argsOk "callable_iterator.__iter__" ⟨[a], []⟩ := by unfold argsOk; kernel_rfl
theorem kind_iter : builtinKind "iter" = none := by decide +kernel
theorem plain_iter : plainId "iter" = true := by decide +kernel
theorem entry_iter : entryFor table "iter" = some Builtin.«iter» := entryFor_of_tree (by kernel_rfl)
theorem args_iter2 (a b : Value) : argsOk "iter" ⟨[a, b], []⟩ := by unfold argsOk; kernel_rfl
theorem method_call_some : typeLookup (.type "method") "__call__" = pure (some (.builtin "method.__call__")) := by rw [typeLookup_type, builtinLookup_eq_fast]; kernel_rfl

noncomputable abbrev citObj (q : Addr) (t : Tok) : Obj := { cls := .type "callable_iterator", data := .fields #[.ref q, .str "" t, .bool false] }
noncomputable abbrev citEnd : Obj := { cls := .type "callable_iterator", data := .fields #[.none, .none, .bool true] }

section
variable {prog : Program} {w : World} {A : Around} {E : Value → Shared → Prop} {s : Shared} {h₀ : Heap} {L : Addr} {m : Str → Option Value}

theorem wpAny_callBorrowed {M : Model} {f : Value} {pos : List Value} {Q : Value → Shared → Prop}
    (hc : codeAny M A (.call f ⟨pos, []⟩) (fun r s' => match r with | .ok (.ret v) => Q v s' | .ok _ => False | .error e => E e s') s) :
    wpAny M A (callBorrowed f pos) Q E s := fun Γ p hΓ => by
  refine wpCode_mono (fun r s' h => ?_) (hc _ p rfl (hΓ.enter _ none p (by intro x; cases x)))
  cases r with
  | error e => exact h
  | ok f => cases f <;> first | exact h | exact h.elim

theorem pyIter_cit {it : Addr} {o : Obj} {Q : Value → Shared → Prop} (ho : s.heap.get? it = some o) (hc : o.cls = .type "callable_iterator") (h : Q (.ref it) s) : wpAny (model prog w) A (pyIter (.ref it)) Q E s := by
  have hT : s.TypeIs (.ref it) "callable_iterator" := ⟨o, ho, hc⟩
  refine wpAny_pyIter_slot hT slot_cit_iter (wpAny_call_entry slot_cit_iter hT entry_cit_iter ?_ (args_cit_iter _))
  show wpAny _ _ (ret (.ref it)) _ _ s
  exact wpAny_pure ⟨_, rfl, "callable_iterator", _, hT, slot_cit_next.lookup, h⟩

theorem iter2 {q f : Addr} {self : Value} {t : Tok} {news : List (Addr × Obj)} {Q : Value → Shared → Prop} (F : Fr h₀ L s.heap m) (N : News h₀ L s.heap news) (hq : (q, methodObj (.ref f) self) ∈ news)
    (h : ∀ it t' h', Fr h₀ L h' m → News h₀ L h' ((it, citObj q t') :: news) → (∀ p ∈ news, p.1 < it) → Q (.ref it) { s with heap := h' }) :
    wpAny (model prog w) A (call (.builtin "iter") [.ref q, .str "" t]) Q E s := by
  refine Calls.call_function_entry kind_iter plain_iter entry_iter (args_iter2 _ _) ?_
  have hT : s.TypeIs (.ref q) "method" := ⟨_, (N _ hq).1, rfl⟩
  show wpAny _ _ (specialOf (.ref q) "__call__" >>= _) _ _ s
  refine wpAny_bind (wpAny_specialOf hT method_call_some ?_)
  show wpAny _ _ (rule "iter.sentinel" >>= _) _ _ s
  refine wpAny_bind (wpAny_rule (wpAny_bind (wpAny_newObj_type (wpAny_pure ⟨_, rfl, ?_⟩))))
  exact h _ _ _ (F.push _) (N.push F _) fun p hp => Heap.lt_size (N p hp).1

theorem borrows_meth {q f : Addr} {self : Value} {o : Obj} {fd : FuncData} {Q : Bool → Shared → Prop} (hq : s.heap.get? q = some (methodObj (.ref f) self)) (hf : s.heap.get? f = some o) (hd : o.data = .func fd) (h : Q true s) :
    wpAny (model prog w) A (borrowsExactly (.ref q)) Q E s := by
  unfold borrowsExactly
  refine wpAny_bind (wpAny_load hq ?_)
  show wpAny _ _ (load f >>= _) _ _ _
  refine wpAny_bind (wpAny_load hf ?_)
  rw [hd]
  exact wpAny_pure h

/-- the turn of an ended one -/
theorem stop_raise {α : Type} {A : Around} (hh : A.handled = none) {Q : α → Shared → Prop} {P : Option Value → Shared → Prop}
    (hP : ∀ h', (∀ b o, s.heap.get? b = some o → h'.get? b = some o) → P none { s with heap := h' }) :
    wpAny (model prog w) A (SmallTypes.stopIteration : Sem α) Q
      (fun e s' => wpAny (model prog w) A (do if ← isInstance e (.type "StopIteration") then pure none else throw e) P E s') s := by
  show wpAny _ _ (newExc (.type "StopIteration") [] >>= _) _ _ _
  refine wpAny_bind ?_
  simp only [newExc, newTuple]
  refine wpAny_bind (wpAny_newObj_type ?_ (by size_fits))
  refine wpAny_bind (m := firstArgMember _ _) (wpAny_of_eq (a := Value.none) (by first | rfl | (simp only [firstArgMember]; rfl)) ?_)
  refine wpAny_newObj_type ?_ (by size_fits)
  simp only [raiseNew]
  refine wpAny_bind (wpAny_handled ?_)
  rw [hh]
  refine wpAny_bind (wpAny_pure (wpAny_throw ?_))
  refine wpAny_bind (wpAny_isInstance (T := "StopIteration") (b := true) ⟨_, Heap.get?_push_size _ rfl, rfl⟩ isSubtype_stop ?_)
  exact wpAny_pure (hP _ fun b o e => Heap.get?_push_of_some _ (Heap.get?_push_of_some _ e))

/-- the number of line ends ahead of place p -/
noncomputable def nlTo (x : Str) (p : Nat) : Int := ((x.cps.toList.take p).count 10 : Nat)
theorem signAt_lt {x : Str} {p : Nat} (h : p < x.cps.toList.length) : signAt x p = ⟨#[x.cps.toList[p]]⟩ := by
  unfold signAt
  congr 1
  apply Array.ext'
  simp [Array.toList_extract, List.take_one, List.head?_drop, List.getElem?_eq_getElem h]
theorem signAt_ge {x : Str} {p : Nat} (h : x.cps.toList.length ≤ p) : signAt x p = ⟨#[]⟩ := by
  unfold signAt
  congr 1
  apply Array.ext'
  simp [Array.toList_extract, List.drop_eq_nil_of_le h]
theorem len_cps (x : Str) : x.length = x.cps.toList.length := by show x.cps.size = _; simp
theorem beq_nl (c : Nat) : ((⟨#[c]⟩ : Str) == ("\n" : Str)) = (c == 10) := by
  have e : ("\n" : Str) = ⟨#[10]⟩ := by decide +kernel
  rw [e]
  by_cases h : c = 10
  · subst h; decide +kernel
  · have : (⟨#[c]⟩ : Str) ≠ ⟨#[10]⟩ := fun q => h (by injection q with q; simpa using q)
    rw [beq_eq_false_iff_ne.mpr this, beq_eq_false_iff_ne.mpr h]
theorem nlTo_succ {x : Str} {p : Nat} (h : p < x.length) : nlTo x (p + 1) = if signAt x p == "\n" then nlTo x p + 1 else nlTo x p := by
  rw [len_cps] at h
  rw [signAt_lt h, beq_nl]
  unfold nlTo
  rw [List.take_add_one, List.getElem?_eq_getElem h, List.count_append]
  simp only [Option.toList, List.count_cons, List.count_nil]
  split <;> simp_all

theorem fn84 (w : World) : ∃ oc od fd osl, (hd.heap_1 w.params).lookup 84 = some ⟨oc, od, .func fd, osl⟩ := ⟨_, _, _, _, by exact rfl⟩

section
variable {dp un : Nat} {gd : Option (List Code)} {env : Env} {outer : List Env} {A₀ : Around} {base : Heap} {tp : Program} {tl : List Str} {mean : ExcName → Option Value} {mg mb : Str → Option Value}

theorem cit_next {a : LexA} {text : Str} {adr : List Addr} {RO : Nat → List (Addr × Obj) → Prop} (Rd : Reader w a.rd text adr RO) (O : a.Ok adr) {c : Int} {wsp : Str} {ws : List Str} {p : Nat} {blk : List (Addr × Obj)}
    (M : MachSt w a RO (c + nlTo text p) wsp ws p blk) {it q : Addr} {t : Tok} (hiq : it ≠ q) (hib : ∀ r ∈ blk, r.1 ≠ it) (hqb : ∀ r ∈ blk, r.1 ≠ q)
    (B : Below A₀ base outer h₀) (F : Fr h₀ L s.heap m) (X : (hd.heap_1 w.params).In h₀) (T : Top tp tl mean mg mb h₀) (hf : env.frame = some L) (hke : env.scope.kind = .function)
    (N : News h₀ L s.heap ((it, citObj q t) :: (q, methodObj (.ref 84) (.ref a.x)) :: blk)) (hd : dp + 10 < recursionLimit) (hu : un + 100 < cLine) (hp : p ≤ text.length)
    {Q : Option Value → Shared → Prop}
    (h1 : p < text.length → ∀ h' tk' t' blk', Fr h₀ L h' m → News h₀ L h' ((it, citObj q t) :: (q, methodObj (.ref 84) (.ref a.x)) :: blk') → MachSt w a RO (c + nlTo text (p + 1)) wsp ws (p + 1) blk' →
      Q (some (.str (signAt text p) t')) { s with heap := h', toks := tk' })
    (h2 : p = text.length → ∀ h' tk' blk', Fr h₀ L h' m → News h₀ L h' ((it, citEnd) :: (q, methodObj (.ref 84) (.ref a.x)) :: blk') → MachSt w a RO (c + nlTo text p) wsp ws p blk' →
      Q none { s with heap := h', toks := tk' }) :
    wpAny (model Challenge.rw_pe0259_03.row.prog w) (Ar dp un gd (env :: outer)) (pyNext (.ref it)) Q E s := by
  have hit := (N (it, citObj q t) (.head _)).1
  have hT : s.TypeIs (.ref it) "callable_iterator" := ⟨_, hit, rfl⟩
  unfold pyNext
  refine wpAny_bind (wpAny_attempt (wpAny_callSpecial?_slot (name := Str.ofString "__next__") hT slot_cit_next
    (wpAny_call_entry slot_cit_next hT entry_cit_next ?_ (args_cit_next _))))
  show wpAny _ _ (field (.ref it) 2 >>= _) _ _ s
  refine wpAny_bind (wpAny_field hit rfl (x := .bool false) rfl ?_)
  show wpAny _ _ (field (.ref it) 0 >>= _) _ _ s
  refine wpAny_bind (wpAny_field hit rfl (x := .ref q) rfl ?_)
  refine wpAny_bind (wpAny_attempt ?_)
  unfold callOutOfASlot
  have hq := (N (q, methodObj (.ref 84) (.ref a.x)) (.tail _ (.head _))).1
  obtain ⟨oc, od, fd, osl, hK⟩ := fn84 w
  have h84 := F.keep _ _ (X _ _ hK)
  refine wpAny_bind (borrows_meth hq h84 rfl ?_)
  refine wpAny_callBorrowed (method_call hq ?_)
  have C : Con w 4 40 84 [.ref a.x] blk (fun _ v blk' => ∃ t, v = .str (signAt text p) t ∧ MachSt w a RO (if signAt text p == "\n" then c + nlTo text p + 1 else c + nlTo text p) wsp ws (min (p + 1) text.length) blk') := by
    obtain ⟨lt, tw, k, l, items, hl, hi, rfl⟩ := M
    refine Con.mono (read_char_c w a text adr RO Rd O _ lt _ items k p l hl) fun n v sel' hQ => ?_
    obtain ⟨t, lt', l', rfl, hl', rfl⟩ := hQ
    exact ⟨t, rfl, lt', tw, k, l', items, hl', hi, rfl⟩
  refine use_gc C (oth := [(it, citObj q t), (q, methodObj (.ref 84) (.ref a.x))]) B F X N T hf hke (fun r hr => .tail _ (.tail _ hr)) ?_ ?_ (by show dp + 4 < recursionLimit; omega) (by show un + 1 + 40 < cLine; omega) ?_
  · exact List.forall_mem_cons.mpr ⟨.head _, List.forall_mem_cons.mpr ⟨.tail _ (.head _), List.forall_mem_nil _⟩⟩
  · exact List.forall_mem_cons.mpr ⟨fun r hr e => hib r hr e.symm, List.forall_mem_cons.mpr ⟨fun r hr e => hqb r hr e.symm, List.forall_mem_nil _⟩⟩
  rintro v blk' h' tk' F' N' - - ⟨t', rfl, M'⟩
  have hit' := (N' (it, citObj q t) (List.mem_append_right _ (.head _))).1
  have hq' := (N' (q, methodObj (.ref 84) (.ref a.x)) (List.mem_append_right _ (.tail _ (.head _)))).1
  have h84' := F'.keep _ _ (X _ _ hK)
  replace N' : News h₀ L h' ((it, citObj q t) :: (q, methodObj (.ref 84) (.ref a.x)) :: blk') := fun r hr => by
    rcases List.mem_cons.mp hr with rfl | hr
    · exact N' _ (List.mem_append_right _ (.head _))
    · rcases List.mem_cons.mp hr with rfl | hr
      · exact N' _ (List.mem_append_right _ (.tail _ (.head _)))
      · exact N' _ (List.mem_append_left _ hr)
  show wpAny _ _ (field (.ref it) 2 >>= _) _ _ _
  refine wpAny_bind (wpAny_field hit' rfl (x := .bool false) rfl ?_)
  show wpAny _ _ (field (.ref it) 1 >>= _) _ _ _
  refine wpAny_bind (wpAny_field hit' rfl (x := .str "" t) rfl ?_)
  refine wpAny_bind (wpAny_holding (eqBool_str ?_))
  rcases Nat.lt_or_ge p text.length with hlt | hge
  · have hne : (("" : Str) == signAt text p) = false := by
      rw [signAt_lt (by rw [← len_cps]; exact hlt)]
      refine beq_eq_false_iff_ne.mpr fun q => ?_
      have e : ("" : Str) = ⟨#[]⟩ := by decide +kernel
      rw [e] at q; injection q with q; simp at q
    rw [hne]
    refine wpAny_pure ⟨_, rfl, ?_⟩
    refine wpAny_pure (h1 hlt h' tk' t' blk' F' N' ?_)
    rw [nlTo_succ hlt]
    rw [Nat.min_eq_left hlt] at M'
    cases hb : signAt text p == "\n" <;> rw [hb] at M' <;> simpa [Int.add_assoc] using M'
  · have e0 : ("" : Str) = ⟨#[]⟩ := by decide +kernel
    have es : signAt text p = "" := by rw [signAt_ge (by rw [← len_cps]; exact hge), e0]
    have hpe : p = text.length := Nat.le_antisymm hp hge
    rw [es]
    rw [show (("" : Str) == ("" : Str)) = true from by decide +kernel]
    show wpAny _ _ (rule _ >>= _) _ _ _
    refine wpAny_bind (wpAny_rule (wpAny_bind ?_))
    show wpAny _ _ (field (.ref it) 0 >>= _) _ _ _
    refine wpAny_bind (wpAny_field hit' rfl (x := .ref q) rfl ?_)
    refine wpAny_bind ?_
    show wpAny _ _ (borrowsExactly (.ref q) >>= _) _ _ _
    refine wpAny_bind (borrows_meth hq' h84' rfl ?_)
    refine wpAny_pure ?_
    have M2 : MachSt w a RO (c + nlTo text p) wsp ws p blk' := by
      rw [es, show (("" : Str) == ("\n" : Str)) = false from by decide +kernel, Nat.min_eq_right (by omega)] at M'
      rw [← hpe] at M'
      exact M'
    have hib' : ∀ r ∈ (q, methodObj (.ref 84) (.ref a.x)) :: blk', r.1 ≠ it := by
      refine List.forall_mem_cons.mpr ⟨Ne.symm hiq, fun r hr e => ?_⟩
      have := MachSt.adrs M2 Rd
      rw [← MachSt.adrs M Rd] at this
      have hm : r.1 ∈ blk.map Prod.fst := this ▸ List.mem_map_of_mem hr
      obtain ⟨r', hr', e'⟩ := List.mem_map.mp hm
      exact hib r' hr' (e'.trans e)
    obtain ⟨F1, N1⟩ := news_upd (pre := []) (d := it) (f := Obj.mapFields (·.setIfInBounds 0 Value.none)) F' N' (fun _ h => nomatch h) hib' rfl rfl
    refine wpAny_bind (wpAny_setField hit' rfl (by simp) ?_)
    have hit1 := (N1 (it, _) (.head _)).1
    obtain ⟨F2, N2⟩ := news_upd (pre := []) (d := it) (f := Obj.mapFields (·.setIfInBounds 1 Value.none)) F1 N1 (fun _ h => nomatch h) hib' rfl rfl
    refine wpAny_bind (wpAny_setField hit1 rfl (by simp) ?_)
    have hit2 := (N2 (it, _) (.head _)).1
    obtain ⟨F3, N3⟩ := news_upd (pre := []) (d := it) (f := Obj.mapFields (·.setIfInBounds 2 (Value.bool true))) F2 N2 (fun _ h => nomatch h) hib' rfl rfl
    refine wpAny_setField hit2 rfl (by simp) ?_
    refine wpAny_mono (stop_raise (Q := fun v s' => False) (P := Q) (E := E) rfl fun h'' hk => ?_) (fun fin s' z => z.elim) (fun e s' z => ?_)
    · refine h2 hpe h'' _ blk' ⟨?_, fun b o e => hk b o (F3.keep b o e), F3.above⟩ (fun r hr => ⟨hk _ _ (N3 r hr).1, (N3 r hr).2⟩) M2
      obtain ⟨oL, es, ep, hL, r⟩ := F3.ns
      exact ⟨oL, es, ep, hk _ _ hL, r⟩
    · exact wpAny_of_in1 z

theorem keep_all {h h' : Heap} {news : List (Addr × Obj)} (F : Fr h₀ L h m) (N : News h₀ L h news) (hk : ∀ b o, h.get? b = some o → h'.get? b = some o) : Fr h₀ L h' m ∧ News h₀ L h' news := by
  obtain ⟨oL, es, ep, hL, r⟩ := F.ns
  exact ⟨⟨⟨oL, es, ep, hk _ _ hL, r⟩, fun b o e => hk b o (F.keep b o e), F.above⟩, fun r hr => ⟨hk _ _ (N r hr).1, (N r hr).2⟩⟩

theorem cit_ended {it : Addr} {news : List (Addr × Obj)} (F : Fr h₀ L s.heap m) (N : News h₀ L s.heap ((it, citEnd) :: news)) {Q : Option Value → Shared → Prop} {A : Around} (hh : A.handled = none)
    (h : ∀ h', Fr h₀ L h' m → News h₀ L h' ((it, citEnd) :: news) → Q none { s with heap := h' }) :
    wpAny (model prog w) A (pyNext (.ref it)) Q E s := by
  have hit := (N (it, citEnd) (.head _)).1
  have hT : s.TypeIs (.ref it) "callable_iterator" := ⟨_, hit, rfl⟩
  unfold pyNext
  refine wpAny_bind (wpAny_attempt (wpAny_callSpecial?_slot (name := Str.ofString "__next__") hT slot_cit_next
    (wpAny_call_entry slot_cit_next hT entry_cit_next ?_ (args_cit_next _))))
  show wpAny _ _ (field (.ref it) 2 >>= _) _ _ s
  refine wpAny_bind (wpAny_field hit rfl (x := .bool true) rfl ?_)
  show wpAny _ _ (rule _ >>= _) _ _ s
  refine wpAny_bind (wpAny_rule ?_)
  refine wpAny_bind ?_
  refine wpAny_mono (stop_raise (A := A.in1) (Q := fun v s' => False) (P := Q) (E := E) hh fun h' hk => ?_) (fun fin s' z => z.elim) (fun e s' z => ?_)
  · obtain ⟨F', N'⟩ := keep_all F N hk
    exact h h' F' N'
  · exact wpAny_of_in1 z

theorem call_read {a : LexA} {text : Str} {adr : List Addr} {RO : Nat → List (Addr × Obj) → Prop} (Rd : Reader w a.rd text adr RO) (O : a.Ok adr) {c : Int} {wsp : Str} {ws : List Str} {p : Nat} {blk : List (Addr × Obj)}
    (M : MachSt w a RO (c + nlTo text p) wsp ws p blk) {it q : Addr} {o1 o2 : Obj} (hib : it ∉ [a.x, a.dx, a.pb, a.st, a.std] ++ adr) (hqb : q ∉ [a.x, a.dx, a.pb, a.st, a.std] ++ adr)
    (B : Below A₀ base outer h₀) (F : Fr h₀ L s.heap m) (X : (hd.heap_1 w.params).In h₀) (T : Top tp tl mean mg mb h₀) (hf : env.frame = some L) (hke : env.scope.kind = .function)
    (N : News h₀ L s.heap ((it, o1) :: (q, o2) :: blk)) (hd : dp + 10 < recursionLimit) (hu : un + 100 < cLine) (hp : p ≤ text.length)
    {Q : Value → Shared → Prop}
    (h : ∀ h' tk' t' blk' p', p' = min (p + 1) text.length → Fr h₀ L h' m → News h₀ L h' ((it, o1) :: (q, o2) :: blk') → MachSt w a RO (c + nlTo text p') wsp ws p' blk' →
      Q (.str (signAt text p) t') { s with heap := h', toks := tk' }) :
    wpAny (model Challenge.rw_pe0259_03.row.prog w) (Ar dp un gd (env :: outer)) (call (.ref 84) [.ref a.x]) Q E s := by
  have had := M.adrs Rd
  have hib' : ∀ r ∈ blk, r.1 ≠ it := fun r hr e => hib (had ▸ e ▸ List.mem_map_of_mem hr)
  have hqb' : ∀ r ∈ blk, r.1 ≠ q := fun r hr e => hqb (had ▸ e ▸ List.mem_map_of_mem hr)
  have C : Con w 4 40 84 [.ref a.x] blk (fun _ v blk' => ∃ t, v = .str (signAt text p) t ∧ MachSt w a RO (if signAt text p == "\n" then c + nlTo text p + 1 else c + nlTo text p) wsp ws (min (p + 1) text.length) blk') := by
    obtain ⟨lt, tw, k, l, items, hl, hi, rfl⟩ := M
    refine Con.mono (read_char_c w a text adr RO Rd O _ lt _ items k p l hl) fun n v sel' hQ => ?_
    obtain ⟨t, lt', l', rfl, hl', rfl⟩ := hQ
    exact ⟨t, rfl, lt', tw, k, l', items, hl', hi, rfl⟩
  refine use_g C (oth := [(it, o1), (q, o2)]) B F X N T hf hke (fun r hr => .tail _ (.tail _ hr)) ?_ ?_ (by omega) (by omega) ?_
  · exact List.forall_mem_cons.mpr ⟨.head _, List.forall_mem_cons.mpr ⟨.tail _ (.head _), List.forall_mem_nil _⟩⟩
  · exact List.forall_mem_cons.mpr ⟨fun r hr e => hib' r hr e.symm, List.forall_mem_cons.mpr ⟨fun r hr e => hqb' r hr e.symm, List.forall_mem_nil _⟩⟩
  rintro v blk' h' tk' F' N' - - ⟨t', rfl, M'⟩
  refine h h' tk' t' blk' _ rfl F' (fun r hr => ?_) ?_
  · rcases List.mem_cons.mp hr with rfl | hr
    · exact N' _ (List.mem_append_right _ (.head _))
    · rcases List.mem_cons.mp hr with rfl | hr
      · exact N' _ (List.mem_append_right _ (.tail _ (.head _)))
      · exact N' _ (List.mem_append_left _ hr)
  · rcases Nat.lt_or_ge p text.length with hlt | hge
    · rw [Nat.min_eq_left hlt] at M' ⊢
      rw [nlTo_succ hlt]
      cases hb : signAt text p == "\n" <;> rw [hb] at M' <;> simpa [Int.add_assoc] using M'
    · have hpe : p = text.length := Nat.le_antisymm hp hge
      have e0 : ("" : Str) = ⟨#[]⟩ := by decide +kernel
      rw [show signAt text p = "" from by rw [signAt_ge (by rw [← len_cps]; exact hge), e0], show (("" : Str) == ("\n" : Str)) = false from by decide +kernel, Nat.min_eq_right (by omega)] at M'
      rw [Nat.min_eq_right (by omega)]
      rw [hpe] at M'
      exact M'

/-- what a turn leaves to be shown: the walk stops ahead of it -/
noncomputable def Left (P : Prop) : Prop := P
/-- the state between two turns of a loop over the signs -/
noncomputable def CS (w : World) (a : LexA) (RO : Nat → List (Addr × Obj) → Prop) (text : Str) (c : Int) (wsp : Str) (it q : Addr) (t : Tok) (h₀ : Heap) (L : Addr) (s₀ : Shared) (exh : Bool) (p : Nat) (m : Str → Option Value) (s : Shared) : Prop :=
  ∃ h tk blk, s = { s₀ with heap := h, toks := tk } ∧ Fr h₀ L h m ∧ News h₀ L h ((it, if exh then citEnd else citObj q t) :: (q, methodObj (.ref 84) (.ref a.x)) :: blk) ∧ MachSt w a RO (c + nlTo text p) wsp [] p blk

theorem for_cit {a : LexA} {text : Str} {adr : List Addr} {RO : Nat → List (Addr × Obj) → Prop} (Rd : Reader w a.rd text adr RO) (O : a.Ok adr) {c : Int} {wsp : Str} {it q : Addr} {t : Tok}
    (hiq : it ≠ q) (hib : it ∉ [a.x, a.dx, a.pb, a.st, a.std] ++ adr) (hqb : q ∉ [a.x, a.dx, a.pb, a.st, a.std] ++ adr)
    (B : Below A₀ base outer h₀) (X : (hd.heap_1 w.params).In h₀) (T : Top tp tl mean mg mb h₀) (hf : env.frame = some L) (hke : env.scope.kind = .function) (hel : env.locals = L) (hkd : env.kindOf "ch" = some .local)
    (hd : dp + 10 < recursionLimit) (hu : un + 100 < cLine)
    {body : List Stmt} {cpos : Pos} {R : Result → Shared → Prop} (J : Bool → Nat → (Str → Option Value) → Prop)
    (turn : ∀ p m t' s', p < text.length → J false p m → CS w a RO text c wsp it q t h₀ L s false (p + 1) (fun y => if y = "ch" then some (.str (signAt text p) t') else m y) s' →
      wpAny (model Challenge.rw_pe0259_03.row.prog w) (Ar dp un gd (env :: outer)) (execs body env) (fun f s₂ => match f with
        | .next | .cont => Left (∃ exh p' m', p < p' ∧ p' ≤ text.length ∧ J exh p' m' ∧ CS w a RO text c wsp it q t h₀ L s exh p' m' s₂)
        | .brk => R (.ok .next) s₂
        | .ret v => R (.ok (.ret v)) s₂) (fun _ _ => False) s')
    (done : ∀ exh p m s', p ≤ text.length → J exh p m → (exh = true ∨ p = text.length) → CS w a RO text c wsp it q t h₀ L s true p m s' → R (.ok .next) s')
    {exh : Bool} {p : Nat} {m : Str → Option Value} {s' : Shared} (hp : p ≤ text.length) (hj : J exh p m) (hs : CS w a RO text c wsp it q t h₀ L s exh p m s') :
    codeAny (model Challenge.rw_pe0259_03.row.prog w) (Ar dp un gd (env :: outer)) (.forLoop (.Name "ch" cpos) (.ref it) body [] env) R s' := by
  refine codeAny_forLoop (fun n s' => ∃ exh p m, p ≤ text.length ∧ n = text.length - p ∧ J exh p m ∧ CS w a RO text c wsp it q t h₀ L s exh p m s') ?_ (text.length - p) ⟨exh, p, m, hp, rfl, hj, hs⟩
  rintro n s₁ ⟨exh, p, m, hp, rfl, hj, h, tk, blk, rfl, F, N, M⟩
  have had := M.adrs Rd
  have hib' : ∀ r ∈ blk, r.1 ≠ it := fun r hr e => hib (had ▸ e ▸ List.mem_map_of_mem hr)
  have hqb' : ∀ r ∈ blk, r.1 ≠ q := fun r hr e => hqb (had ▸ e ▸ List.mem_map_of_mem hr)
  cases exh with
  | true =>
    refine cit_ended (news := (q, methodObj (.ref 84) (.ref a.x)) :: blk) F N rfl fun h' F' N' => ?_
    refine wpAny_execs_nil ?_
    exact done true p m _ hp hj (.inl rfl) ⟨h', tk, blk, rfl, F', N', M⟩
  | false =>
    refine cit_next Rd O M hiq hib' hqb' B F X T hf hke N hd hu hp ?_ ?_
    · intro hlt h' tk' t' blk' F' N' M'
      refine wpAny_assign_Name ?_
      refine wpAny_storeName_local (by rw [hkd]) (by rw [hel]; exact F'.ns) (fun h'' hn hs => ?_) ?_
      · rw [hel] at hs hn
        refine wpAny_mono (turn p m t' _ hlt hj ⟨h'', _, blk', rfl, F'.set hn hs, N'.set hs, M'⟩) (fun f s₂ z => ?_) (fun _ _ z => z.elim)
        cases f with
        | next => obtain ⟨e, p', m', z1, z2, z3, z4⟩ := z; exact ⟨_, Nat.sub_lt_sub_left hlt z1, e, p', m', z2, rfl, z3, z4⟩
        | cont => obtain ⟨e, p', m', z1, z2, z3, z4⟩ := z; exact ⟨_, Nat.sub_lt_sub_left hlt z1, e, p', m', z2, rfl, z3, z4⟩
        | brk => exact z
        | ret v => exact z
      · rw [hke]; rfl
    · intro hpe h' tk' blk' F' N' M'
      refine wpAny_execs_nil ?_
      exact done false p m _ hp hj (.inr hpe) ⟨h', tk', blk', rfl, F', N', M'⟩
end
end
section
local macro_rules | `(tactic| size_fits) => `(tactic| (rw [Str.length_append, sizeLine_eq]; omega))

/-- the locals of get_token -/
noncomputable def gm (x it : Addr) (tok : Str) (tt : Tok) (chv : Option Value) : Str → Option Value :=
  fun y => if y = "ch" then chv else if y = "fiter" then some (.ref it) else if y = "token" then some (.str tok tt) else if y = "self" then some (.ref x) else none

theorem Fr.congr {h₀ h : Heap} {L : Addr} {m m' : Str → Option Value} (F : Fr h₀ L h m) (e : ∀ y, m y = m' y) : Fr h₀ L h m' := funext e ▸ F
theorem gm_ch {x it : Addr} {tok : Str} {tt : Tok} {chv v : Option Value} {m : Str → Option Value} (hm : ∀ y, m y = gm x it tok tt chv y) (y : Str) : (if y = "ch" then v else m y) = gm x it tok tt v y := by
  rw [hm]
  unfold gm
  split <;> rfl
theorem gm_tok {x it : Addr} {tok tok' : Str} {tt tt' : Tok} {chv : Option Value} {m : Str → Option Value} (hm : ∀ y, m y = gm x it tok tt chv y) (y : Str) : (if y = "token" then some (.str tok' tt') else m y) = gm x it tok' tt' chv y := by
  rw [hm]
  unfold gm
  by_cases h1 : y = "token"
  · subst h1; rfl
  · simp only [if_neg h1]
theorem gm_start {x it : Addr} {tok : Str} {tt : Tok} (y : Str) : (if y = "fiter" then some (.ref it) else if y = "token" then some (.str tok tt) else List.lookup y [(Str.ofString "self", Value.ref x)]) = gm x it tok tt none y := by
  unfold gm
  by_cases h1 : y = "ch"
  · subst h1; rfl
  · simp only [if_neg h1]
    by_cases h2 : y = "self"
    · subst h2; rfl
    · simp only [if_neg h2, List.lookup, beq_eq_false_iff_ne.mpr h2]
theorem gm_tt {x it : Addr} {tok tok' : Str} {tt tt' : Tok} {chv : Option Value} (y : Str) :
    (if y = "token" then some (.str tok' tt') else if y = "ch" then chv else if y = "fiter" then some (.ref it) else if y = "token" then some (.str tok tt) else if y = "self" then some (.ref x) else none) = gm x it tok' tt' chv y := by
  unfold gm
  by_cases h1 : y = "token"
  · subst h1; rfl
  · simp only [if_neg h1]
theorem gm_tct {x it : Addr} {tok tok' : Str} {tt tt' : Tok} {chv chv' : Option Value} (y : Str) :
    (if y = "token" then some (.str tok' tt') else if y = "ch" then chv' else if y = "ch" then chv else if y = "fiter" then some (.ref it) else if y = "token" then some (.str tok tt) else if y = "self" then some (.ref x) else none) = gm x it tok' tt' chv' y := by
  unfold gm
  by_cases h1 : y = "token"
  · subst h1; rfl
  · by_cases h2 : y = "ch"
    · subst h2; rfl
    · simp only [if_neg h1, if_neg h2]
theorem allLt_mem {d : Nat} {l : List (Addr × Obj)} (h : AllLt d l) : ∀ p ∈ l, p.1 < d := by
  induction l with
  | nil => intro p hp; cases hp
  | cons x l ih =>
    obtain ⟨h1, h2⟩ := h
    exact List.forall_mem_cons.mpr ⟨h1, ih h2⟩
theorem not_mem_lex {w : World} {a : LexA} {lin wsp : Value} {items : List Value} {k : Nat} {l : List (Addr × Obj)} {adr : List Addr} {d : Addr} (hl : l.map Prod.fst = adr) (h : ∀ r ∈ lexObjs w a lin wsp items k ++ l, r.1 < d) :
    d ∉ [a.x, a.dx, a.pb, a.st, a.std] ++ adr := fun hm => by
  have e : (lexObjs w a lin wsp items k ++ l).map Prod.fst = [a.x, a.dx, a.pb, a.st, a.std] ++ adr := by
    rw [List.map_append, hl]; rfl
  rw [← e] at hm
  obtain ⟨r, hr, e⟩ := List.mem_map.mp hm
  have := h r hr
  rw [e] at this
  exact Nat.lt_irrefl _ this
theorem gm_self (x it : Addr) (tok : Str) (tt : Tok) (chv : Option Value) : gm x it tok tt chv "self" = some (.ref x) := rfl

/-- the signs' numbers from place p on -/
noncomputable abbrev codes (x : Str) (p : Nat) : List Nat := x.cps.toList.drop p
theorem codes_lt {x : Str} {p : Nat} (h : p < x.length) : ∃ c, signAt x p = ⟨#[c]⟩ ∧ codes x p = c :: codes x (p + 1) := by
  rw [len_cps] at h
  exact ⟨_, signAt_lt h, List.drop_eq_getElem_cons h⟩
theorem codes_ge {x : Str} {p : Nat} (h : x.length ≤ p) : codes x p = [] := by
  rw [len_cps] at h
  exact List.drop_eq_nil_of_le h

theorem one_beq (c k : Nat) : ((⟨#[c]⟩ : Str) == ⟨#[k]⟩) = (c == k) := by
  by_cases h : c = k
  · subst h; simp
  · have : (⟨#[c]⟩ : Str) ≠ ⟨#[k]⟩ := fun q => h (by injection q with q; simpa using q)
    rw [beq_eq_false_iff_ne.mpr this, beq_eq_false_iff_ne.mpr h]
theorem q_lit : ("\"" : Str) = ⟨#[34]⟩ := by decide +kernel
theorem b_lit : ("\\" : Str) = ⟨#[92]⟩ := by decide +kernel
theorem app_nil (x : Str) : x ++ (⟨#[]⟩ : Str) = x := by
  apply Str.ext'
  rw [Str.cps_append]; simp
theorem one_len (c : Nat) : (⟨#[c]⟩ : Str).length = 1 := rfl

/-- is the sign one of these white ones -/
noncomputable def inWs (ws : Str) (c : Nat) : Bool := !(Str.occurrences ws ⟨#[c]⟩ 0 ws.length 1).isEmpty
noncomputable def lexQ : List Nat → Str → Str × List Nat
  | [], tok => (tok, [])
  | c :: cs, tok => if c = 34 then (tok, cs) else if c = 92 then (match cs with | [] => (tok, []) | d :: cs' => lexQ cs' (tok ++ ⟨#[d]⟩)) else lexQ cs (tok ++ ⟨#[c]⟩)
noncomputable def lexW (ws : Str) : List Nat → Str → Str × List Nat
  | [], tok => (tok, [])
  | c :: cs, tok => if inWs ws c then (tok, cs) else if c = 92 then (match cs with | [] => (tok, []) | d :: cs' => lexW ws cs' (tok ++ ⟨#[d]⟩)) else lexW ws cs (tok ++ ⟨#[c]⟩)
noncomputable def lex0 (ws : Str) : List Nat → Str × List Nat
  | [] => ("", [])
  | c :: cs => if inWs ws c then lex0 ws cs else if c = 34 then lexQ cs "" else if c = 92 then (match cs with | [] => ("", []) | d :: cs' => lexW ws cs' ("" ++ ⟨#[d]⟩)) else lexW ws cs ("" ++ ⟨#[c]⟩)

theorem lexQ_cons (c : Nat) (cs : List Nat) (tok : Str) : lexQ (c :: cs) tok = if c = 34 then (tok, cs) else if c = 92 then (match cs with | [] => (tok, []) | d :: cs' => lexQ cs' (tok ++ ⟨#[d]⟩)) else lexQ cs (tok ++ ⟨#[c]⟩) := by
  rw [lexQ.eq_def]
theorem lexW_cons (ws : Str) (c : Nat) (cs : List Nat) (tok : Str) : lexW ws (c :: cs) tok = if inWs ws c then (tok, cs) else if c = 92 then (match cs with | [] => (tok, []) | d :: cs' => lexW ws cs' (tok ++ ⟨#[d]⟩)) else lexW ws cs (tok ++ ⟨#[c]⟩) := by
  rw [lexW.eq_def]
theorem lex0_cons (ws : Str) (c : Nat) (cs : List Nat) : lex0 ws (c :: cs) = if inWs ws c then lex0 ws cs else if c = 34 then lexQ cs "" else if c = 92 then (match cs with | [] => ("", []) | d :: cs' => lexW ws cs' ("" ++ ⟨#[d]⟩)) else lexW ws cs ("" ++ ⟨#[c]⟩) := by
  rw [lex0.eq_def]
theorem sign_len (x : Str) (p : Nat) : (signAt x p).length ≤ 1 := by
  rcases Nat.lt_or_ge p x.length with h | h
  · rw [signAt_lt (by rw [← len_cps]; exact h)]; exact Nat.le_refl _
  · rw [signAt_ge (by rw [← len_cps]; exact h)]; exact Nat.zero_le _
theorem lexW_esc {ws text tok : Str} {p c p' : Nat} (hcs : codes text p = c :: codes text (p + 1)) (hw : inWs ws c = false) (h92 : c = 92) (hp' : p' = min (p + 1 + 1) text.length) : lexW ws (codes text p') (tok ++ signAt text (p + 1)) = lexW ws (codes text p) tok := by
  rw [hcs, lexW_cons, hw, h92]
  rcases Nat.lt_or_ge (p + 1) text.length with h | h
  · obtain ⟨d, e1, e2⟩ := codes_lt h
    rw [e2, e1, hp', Nat.min_eq_left h]; simp
  · rw [codes_ge h, signAt_ge (by rw [← len_cps]; exact h), hp', Nat.min_eq_right (by omega), codes_ge (Nat.le_refl _), app_nil]; simp [lexW]
theorem lexQ_esc {text tok : Str} {p c p' : Nat} (hcs : codes text p = c :: codes text (p + 1)) (h92 : c = 92) (hp' : p' = min (p + 1 + 1) text.length) : lexQ (codes text p') (tok ++ signAt text (p + 1)) = lexQ (codes text p) tok := by
  rw [hcs, lexQ_cons, h92]
  rcases Nat.lt_or_ge (p + 1) text.length with h | h
  · obtain ⟨d, e1, e2⟩ := codes_lt h
    rw [e2, e1, hp', Nat.min_eq_left h]; simp
  · rw [codes_ge h, signAt_ge (by rw [← len_cps]; exact h), hp', Nat.min_eq_right (by omega), codes_ge (Nat.le_refl _), app_nil]; simp [lexQ]
theorem lex0_esc {ws text : Str} {p c p' : Nat} (hcs : codes text p = c :: codes text (p + 1)) (hw : inWs ws c = false) (h92 : c = 92) (hp' : p' = min (p + 1 + 1) text.length) : lexW ws (codes text p') ("" ++ signAt text (p + 1)) = lex0 ws (codes text p) := by
  rw [hcs, lex0_cons, hw, h92]
  rcases Nat.lt_or_ge (p + 1) text.length with h | h
  · obtain ⟨d, e1, e2⟩ := codes_lt h
    rw [e2, e1, hp', Nat.min_eq_left h]; simp
  · rw [codes_ge h, signAt_ge (by rw [← len_cps]; exact h), hp', Nat.min_eq_right (by omega), codes_ge (Nat.le_refl _), app_nil]; simp [lexW]

theorem get_token_0 (w : World) (a : LexA) (text : Str) (adr : List Addr) (RO : Nat → List (Addr × Obj) → Prop) (Rd : Reader w a.rd text adr RO) (O : a.Ok adr)
    (c : Int) (wsp : Str) (p : Nat) (blk : List (Addr × Obj)) (M : MachSt w a RO (c + nlTo text p) wsp [] p blk) (hp : p ≤ text.length) (hlen : text.length < 100000) :
   Con w 20 200 91 [.ref a.x] blk (fun _ v blk' => ∃ t p', v = .str (lex0 wsp (codes text p)).1 t ∧ p' ≤ text.length ∧ codes text p' = (lex0 wsp (codes text p)).2 ∧ MachSt w a RO (c + nlTo text p') wsp [] p' blk') := by
  obtain ⟨lt, tw, k, l, items, hl, hi, rfl⟩ := M
  cases hi
  unfold Con
  k_fill
  intro dp un gd outer base g tp tl mean mg mb s R B hg hsz hsel X T hd hu ret
  refine' enter_g B hg hsz hsel X T ?k6 ?k7 ?k8 ?k9 ?kB ?_ ?c2 ?c3 ?c4 ?c5
  (case k6 => k_is); (case k7 => k_is); (case k8 => ktr_room); (case k9 => exact BindsTo.of_eq rfl); (case c5 => decide); (case kB => exact locs rfl); (case c2 => exact rfl); (case c3 => exact rfl); (case c4 => exact rfl)
  k_whole
  intro L' h' tk' F' N' l1
  simp only [lexObjs, List.cons_append, List.nil_append] at N'
  obtain ⟨n1, n2, n3, n4, n5, n6, n7, q1, q2, q3, q4, q5⟩ := id O
  have m3 := not_adr (Rd.adrs p l hl) q3
  (try dsimp only); (try k_fold)
  ((repeat' ((fail_if_success (with_reducible show wpAny _ _ (truthy (Value.ref a.pb)) _ _ _)); (first | (k_unfold; (try dsimp only)) | ((with_reducible first | show wpAny _ _ (exec _ _) _ _ _ | show wpAny _ _ (execs _ _) _ _ _); k_fold) | (k_end; wrow_close) | walk1 | (dsimp only; walk1) | (leave1; (try dsimp only))))) <;> (repeat (k_unfold; (try dsimp only))))
  rename News _ _ _ _ => N1
  refine wpAny_truthy_list (News.isList N1 (by k_mem)) (by decide) ?_
  rw [show (!([] : List Value).toArray.isEmpty) = false from by decide]
  ((repeat' ((fail_if_success (with_reducible show wpAny _ _ (call (Value.builtin "iter") _) _ _ _)); (first | (k_unfold; (try dsimp only)) | ((with_reducible first | show wpAny _ _ (exec _ _) _ _ _ | show wpAny _ _ (execs _ _) _ _ _); k_fold) | (k_end; wrow_close) | walk1 | (dsimp only; walk1) | (leave1; (try dsimp only))))) <;> (repeat (k_unfold; (try dsimp only))))
  rename Addr => q
  rename Fr _ _ _ _ => F2
  rename News _ _ _ _ => N2
  refine iter2 F2 N2 (by k_mem) ?_
  intro it t3 h3 F3 N3 l3
  clear F2 N2
  (try dsimp only)
  ((repeat' ((fail_if_success (with_reducible show wpAny _ _ (exec (Stmt.For _ _ _ _ _) _) _ _ _)); (first | (k_unfold; (try dsimp only)) | ((with_reducible first | show wpAny _ _ (exec _ _) _ _ _ | show wpAny _ _ (execs _ _) _ _ _); k_fold) | (k_end; wrow_close) | walk1 | (dsimp only; walk1) | (leave1; (try dsimp only))))) <;> (repeat (k_unfold; (try dsimp only))))
  rename Fr _ _ _ _ => F4
  rename News _ _ _ _ => N4
  refine wpAny_For ?_
  ((repeat' ((fail_if_success (with_reducible show wpAny _ _ (pyIter _) _ _ _)); (first | (k_unfold; (try dsimp only)) | ((with_reducible first | show wpAny _ _ (exec _ _) _ _ _ | show wpAny _ _ (execs _ _) _ _ _); k_fold) | (k_end; wrow_close) | walk1 | (dsimp only; walk1) | (leave1; (try dsimp only))))) <;> (repeat (k_unfold; (try dsimp only))))
  refine pyIter_cit (N4 (it, _) (.head _)).1 rfl ?_
  (try dsimp only)
  obtain ⟨tt0, F4⟩ : ∃ tt, Fr g L' _ (gm a.x it "" tt none) := ⟨_, Fr.congr F4 gm_start⟩
  have hit0 : it ∉ [a.x, a.dx, a.pb, a.st, a.std] ++ adr := not_mem_lex (w := w) (lin := .int (c + nlTo text p) lt) (wsp := .str wsp tw) (items := []) (k := k) (Rd.adrs p l hl) (fun r hr => l3 r (.tail _ hr))
  have hq0 : q ∉ [a.x, a.dx, a.pb, a.st, a.std] ++ adr := by
    rename (_ < q ∧ _) => hl9
    obtain ⟨e1, e2, e3, e4, e5, e6⟩ := hl9
    refine not_mem_lex (w := w) (lin := .int (c + nlTo text p) lt) (wsp := .str wsp tw) (items := []) (k := k) (Rd.adrs p l hl) ?_
    exact List.forall_mem_cons.mpr ⟨e1, List.forall_mem_cons.mpr ⟨e2, List.forall_mem_cons.mpr ⟨e3, List.forall_mem_cons.mpr ⟨e4, List.forall_mem_cons.mpr ⟨e5, allLt_mem e6⟩⟩⟩⟩⟩
  have hiq : it ≠ q := Nat.ne_of_gt (l3 (q, _) (.head _))
  generalize hres : lex0 wsp (codes text p) = res at ret
  refine' for_cit (env := envOf _ _ L' 91 _) (s := s) (c := c) (wsp := wsp) (exh := false) (q := q) (t := t3) (m := gm a.x it "" tt0 none) Rd O hiq hit0 hq0 B X T rfl rfl rfl rfl ?hd1 ?hu1
    (fun exh p m => ∃ tok tt chv, (∀ y, m y = gm a.x it tok tt chv y) ∧ tok.length ≤ p ∧ (if exh then (tok, codes text p) = res else tok = "" ∧ lex0 wsp (codes text p) = res)) ?turn ?done hp ?hj ?hs
  case hd1 => show dp + 1 + 10 < _; omega
  case hu1 => show un + 3 + 100 < _; omega
  case hj => exact ⟨_, _, _, fun _ => rfl, Nat.zero_le _, rfl, hres⟩
  case hs => exact ⟨_, _, _, rfl, F4, N4, lt, tw, k, l, [], hl, .nil, rfl⟩
  case done =>
    rintro exh p2 m2 s2 hp2 ⟨tok2, tt2, chv2, hm2, htl2, hre2⟩ hend ⟨h7, tk7, blk7, rfl, F7, N7, M7⟩
    have hre3 : (tok2, codes text p2) = res := by
      cases exh with
      | true => exact hre2
      | false =>
        have hpe : p2 = text.length := hend.resolve_left (by decide)
        obtain ⟨e1, e2⟩ := hre2
        have hc := codes_ge (x := text) (p := p2) (by omega)
        rw [hc] at e2 ⊢
        rw [e1, ← e2]; rfl
    clear F4 N4
    replace F7 : Fr g L' h7 (gm a.x it tok2 tt2 chv2) := Fr.congr F7 hm2
    unfold gm at F7
    (try dsimp only)
    ((repeat' (first | (k_unfold; (try dsimp only)) | ((with_reducible first | show wpAny _ _ (exec _ _) _ _ _ | show wpAny _ _ (execs _ _) _ _ _); k_fold) | (k_end; wrow_close) | walk1 | (dsimp only; walk1) | (leave1; (try dsimp only)))) <;> (repeat (k_unfold; (try dsimp only))))
    (try dsimp only)
    rename Fr _ _ _ _ => F9
    rename News _ _ _ _ => N9
    subst hre3
    exact ret _ _ _ _ F9.keep (fun r hr => ⟨(N9 r (.tail _ (.tail _ hr))).1, (N9 r (.tail _ (.tail _ hr))).2.2⟩) ⟨_, p2, rfl, hp2, rfl, M7⟩
  case turn =>
    rintro p m t' s' hlt ⟨tok, tt, chv, hm, htl, htok, hre⟩ ⟨h5, tk5, blk5, rfl, F5, N5, M5⟩
    subst htok
    clear F4 N4
    replace F5 : Fr g L' h5 (gm a.x it "" tt (some (.str (signAt text p) t'))) := Fr.congr F5 (gm_ch hm)
    obtain ⟨lt5, tw5, k5, l5, items5, hl5, hi5, rfl⟩ := M5
    cases hi5
    replace N5 : News g L' h5 ((it, citObj q t3) :: (q, methodObj (.ref 84) (.ref a.x)) :: (lexObjs w a (.int (c + nlTo text (p + 1)) lt5) (.str wsp tw5) [] k5 ++ l5)) := N5
    simp only [lexObjs, List.cons_append, List.nil_append, if_false, Bool.false_eq_true] at N5
    unfold gm at F5
    obtain ⟨cc, hsg, hcs⟩ := codes_lt hlt
    rw [hsg] at F5
    have hone := one_len cc
    (try dsimp only); (try k_fold)
    ((repeat' ((fail_if_success (with_reducible show wpAny _ _ (exec (Stmt.For _ _ _ _ _) _) _ _ _)); (fail_if_success (with_reducible show wpAny _ _ (call (Value.ref 84) _) _ _ _)); (fail_if_success (with_reducible show Left _)); (first | (k_unfold; (try dsimp only)) | ((with_reducible first | show wpAny _ _ (exec _ _) _ _ _ | show wpAny _ _ (execs _ _) _ _ _); k_fold) | (k_end; wrow_close) | walk1 | (dsimp only; walk1) | (leave1; (try dsimp only))))) <;> (repeat (k_unfold; (try dsimp only))))
    · rename ((_ == _) = true) => hb
      rename ((Str.occurrences _ _ _ _ _).isEmpty = true) => hw
      rename Fr _ _ _ _ => F6
      rename News _ _ _ _ => N6
      rw [q_lit, one_beq] at hb
      have hb : cc = 34 := eq_of_beq hb
      have hw : inWs wsp cc = false := by unfold inWs; rw [hw]; rfl
      obtain ⟨p1, hp1e⟩ : ∃ p1, p1 = p + 1 := ⟨_, rfl⟩
      rw [← hp1e] at N6 hcs hl5
      obtain ⟨tok1, tt1, chv1, F6, htl1, hre1⟩ : ∃ tok tt chv, Fr g L' _ (gm a.x it tok tt chv) ∧ tok.length ≤ p1 ∧ lexQ (codes text p1) tok = res := ⟨"", _, _, F6, Nat.zero_le _, by rw [← hre, hcs, lex0_cons, hw, hb]; rfl⟩
      have M6 : MachSt w a RO (c + nlTo text p1) wsp [] p1 _ := ⟨lt5, tw5, k5, l5, [], hl5, .nil, rfl⟩
      have hp1 : p1 ≤ text.length := by omega
      refine wpAny_For ?_
      ((repeat' ((fail_if_success (with_reducible show wpAny _ _ (pyIter _) _ _ _)); (first | (k_unfold; (try dsimp only)) | ((with_reducible first | show wpAny _ _ (exec _ _) _ _ _ | show wpAny _ _ (execs _ _) _ _ _); k_fold) | (k_end; wrow_close) | walk1 | (dsimp only; walk1) | (leave1; (try dsimp only))))) <;> (repeat (k_unfold; (try dsimp only))))
      refine pyIter_cit (N6 (it, _) (.head _)).1 rfl ?_
      (try dsimp only)
      refine' for_cit (env := envOf _ _ L' 91 _) (s := s) (c := c) (wsp := wsp) (exh := false) (q := q) (t := t3) (m := gm a.x it tok1 tt1 chv1) Rd O hiq hit0 hq0 B X T rfl rfl rfl rfl ?hd1 ?hu1
        (fun exh p m => exh = false ∧ ∃ tok tt chv, (∀ y, m y = gm a.x it tok tt chv y) ∧ tok.length ≤ p ∧ lexQ (codes text p) tok = res) ?turn ?done hp1 ?hj ?hs
      case hd1 => omega
      case hu1 => omega
      case hj => exact ⟨rfl, _, _, _, fun _ => rfl, htl1, hre1⟩
      case hs => exact ⟨_, _, _, rfl, F6, N6, M6⟩
      case done =>
        rintro exh p2 m2 s2 hp2 ⟨rfl, tok2, tt2, chv2, hm2, htl2, hre2⟩ hend ⟨h7, tk7, blk7, rfl, F7, N7, M7⟩
        have hpe : p2 = text.length := hend.resolve_left (by decide)
        have hp12 : p < text.length := hlt
        rw [codes_ge (by omega)] at hre2
        (try dsimp only)
        ((repeat' ((fail_if_success (with_reducible show Left _)); (first | (k_unfold; (try dsimp only)) | ((with_reducible first | show wpAny _ _ (exec _ _) _ _ _ | show wpAny _ _ (execs _ _) _ _ _); k_fold) | (k_end; wrow_close) | walk1 | (dsimp only; walk1) | (leave1; (try dsimp only))))) <;> (repeat (k_unfold; (try dsimp only))))
        exact ⟨true, p2, m2, by omega, by omega, ⟨tok2, tt2, chv2, hm2, htl2, by rw [codes_ge (by omega)]; exact hre2⟩, _, _, _, rfl, F7, N7, M7⟩
      case turn =>
        rintro p2 m2 t2 s2 hlt2 ⟨-, tok2, tt2, chv2, hm2, htl2, hre2⟩ ⟨h7, tk7, blk7, rfl, F7, N7, M7⟩
        clear F6 N6
        replace F7 : Fr g L' h7 (gm a.x it tok2 tt2 (some (.str (signAt text p2) t2))) := Fr.congr F7 (gm_ch hm2)
        obtain ⟨lt7, tw7, k7, l7, items7, hl7, hi7, rfl⟩ := M7
        cases hi7
        replace N7 : News g L' h7 ((it, citObj q t3) :: (q, methodObj (.ref 84) (.ref a.x)) :: (lexObjs w a (.int (c + nlTo text (p2 + 1)) lt7) (.str wsp tw7) [] k7 ++ l7)) := N7
        simp only [lexObjs, List.cons_append, List.nil_append, if_false, Bool.false_eq_true] at N7
        unfold gm at F7
        obtain ⟨cd, hsg2, hcs2⟩ := codes_lt hlt2
        rw [hsg2] at F7
        have hone2 := one_len cd
        have hsl2 := sign_len text (p2 + 1)
        (try dsimp only); (try k_fold)
        ((repeat' ((fail_if_success (with_reducible show wpAny _ _ (call (Value.ref 84) _) _ _ _)); (fail_if_success (with_reducible show Left _)); (first | (k_unfold; (try dsimp only)) | ((with_reducible first | show wpAny _ _ (exec _ _) _ _ _ | show wpAny _ _ (execs _ _) _ _ _); k_fold) | (k_end; wrow_close) | walk1 | (dsimp only; walk1) | (leave1; (try dsimp only))))) <;> (repeat (k_unfold; (try dsimp only))))
        · rename ((_ == _) = true) => hb; rw [q_lit, one_beq] at hb; have hb : cd = 34 := eq_of_beq hb; rw [hcs2, lexQ_cons, if_pos hb] at hre2; subst hre2
          (try dsimp only)
          rename Fr _ _ _ _ => F9
          rename News _ _ _ _ => N9
          exact ret _ _ _ _ F9.keep (fun r hr => ⟨(N9 r (.tail _ (.tail _ hr))).1, (N9 r (.tail _ (.tail _ hr))).2.2⟩) ⟨_, p2 + 1, rfl, hlt2, rfl, lt7, tw7, k7, l7, [], hl7, .nil, rfl⟩
        · rename ((_ == _) = true) => hb
          rw [b_lit, one_beq] at hb
          have hb : cd = 92 := eq_of_beq hb
          refine call_read (blk := lexObjs w a (.int (c + nlTo text (p2 + 1)) lt7) (.str wsp tw7) [] k7 ++ l7) (o1 := citObj q t3) (o2 := methodObj (.ref 84) (.ref a.x)) Rd O ⟨lt7, tw7, k7, l7, [], hl7, .nil, rfl⟩ hit0 hq0 B (by assumption) X T rfl rfl (by assumption) (by omega) (by omega) (by omega) ?_
          intro h8 tk8 t8 blk8 p8 hp8 F8 N8 M8
          clear F7 N7
          (try dsimp only)
          ((repeat' ((fail_if_success (with_reducible show Left _)); (first | (k_unfold; (try dsimp only)) | ((with_reducible first | show wpAny _ _ (exec _ _) _ _ _ | show wpAny _ _ (execs _ _) _ _ _); k_fold) | (k_end; wrow_close) | walk1 | (dsimp only; walk1) | (leave1; (try dsimp only))))) <;> (repeat (k_unfold; (try dsimp only))))
          (try dsimp only)
          unfold Left
          rename Fr _ _ _ _ => F9
          rename News _ _ _ _ => N9
          exact ⟨false, p8, _, by omega, by omega, ⟨rfl, tok2 ++ signAt text (p2 + 1), _, _, gm_tct, by rw [Str.length_append]; omega, (lexQ_esc hcs2 hb hp8).trans hre2⟩, _, _, blk8, rfl, F9, N9, M8⟩
        · have hb : cd ≠ 92 := by
            rename ((_ == Str.ofString "\\") = false) => hb
            rw [b_lit, one_beq] at hb
            exact fun e => by rw [e] at hb; cases hb
          have hb2 : cd ≠ 34 := by
            rename ((_ == Str.ofString "\"") = false) => hb9
            rw [q_lit, one_beq] at hb9
            exact fun e => by rw [e] at hb9; cases hb9
          (try dsimp only)
          unfold Left
          rename Fr _ _ _ _ => F9
          rename News _ _ _ _ => N9
          refine ⟨false, p2 + 1, _, by omega, by omega, ⟨rfl, tok2 ++ ⟨#[cd]⟩, _, _, gm_tt, by rw [Str.length_append]; omega, ?_⟩, _, _, _, rfl, F9, N9, lt7, tw7, k7, l7, [], hl7, .nil, rfl⟩
          rw [← hre2, hcs2, lexQ_cons, if_neg hb2, if_neg hb]
    · rename ((_ == _) = true) => hb
      rename ((Str.occurrences _ _ _ _ _).isEmpty = true) => hw
      rw [b_lit, one_beq] at hb
      have hb : cc = 92 := eq_of_beq hb
      have hw : inWs wsp cc = false := by unfold inWs; rw [hw]; rfl
      have hsl := sign_len text (p + 1)
      refine call_read (blk := lexObjs w a (.int (c + nlTo text (p + 1)) lt5) (.str wsp tw5) [] k5 ++ l5) (o1 := citObj q t3) (o2 := methodObj (.ref 84) (.ref a.x)) Rd O ⟨lt5, tw5, k5, l5, [], hl5, .nil, rfl⟩ hit0 hq0 B (by assumption) X T rfl rfl (by assumption) (by omega) (by omega) (by omega) ?_
      intro h8 tk8 t8 blk8 p8 hp8 F8 N8 M8
      clear F5 N5
      (try dsimp only)
      ((repeat' ((fail_if_success (with_reducible show wpAny _ _ (exec (Stmt.For _ _ _ _ _) _) _ _ _)); (fail_if_success (with_reducible show Left _)); (first | (k_unfold; (try dsimp only)) | ((with_reducible first | show wpAny _ _ (exec _ _) _ _ _ | show wpAny _ _ (execs _ _) _ _ _); k_fold) | (k_end; wrow_close) | walk1 | (dsimp only; walk1) | (leave1; (try dsimp only))))) <;> (repeat (k_unfold; (try dsimp only))))
      rename Fr _ _ _ _ => F6
      rename News _ _ _ _ => N6
      obtain ⟨tok1, tt1, chv1, F6, htl1, hre1⟩ : ∃ tok tt chv, Fr g L' _ (gm a.x it tok tt chv) ∧ tok.length ≤ p8 ∧ lexW wsp (codes text p8) tok = res := ⟨"" ++ signAt text (p + 1), _, _, Fr.congr F6 gm_tct, by rw [Str.length_append, show ("" : Str).length = 0 from rfl]; omega, (lex0_esc hcs hw hb hp8).trans hre⟩
      have M6 := M8
      have hp1 : p8 ≤ text.length := by omega
      have hp1e : p + 1 ≤ p8 := by omega
      refine wpAny_For ?_
      ((repeat' ((fail_if_success (with_reducible show wpAny _ _ (pyIter _) _ _ _)); (first | (k_unfold; (try dsimp only)) | ((with_reducible first | show wpAny _ _ (exec _ _) _ _ _ | show wpAny _ _ (execs _ _) _ _ _); k_fold) | (k_end; wrow_close) | walk1 | (dsimp only; walk1) | (leave1; (try dsimp only))))) <;> (repeat (k_unfold; (try dsimp only))))
      refine pyIter_cit (N6 (it, _) (.head _)).1 rfl ?_
      (try dsimp only)
      refine' for_cit (env := envOf _ _ L' 91 _) (s := s) (c := c) (wsp := wsp) (exh := false) (q := q) (t := t3) (m := gm a.x it tok1 tt1 chv1) Rd O hiq hit0 hq0 B X T rfl rfl rfl rfl ?hd1 ?hu1
        (fun exh p m => exh = false ∧ ∃ tok tt chv, (∀ y, m y = gm a.x it tok tt chv y) ∧ tok.length ≤ p ∧ lexW wsp (codes text p) tok = res) ?turn ?done hp1 ?hj ?hs
      case hd1 => omega
      case hu1 => omega
      case hj => exact ⟨rfl, _, _, _, fun _ => rfl, htl1, hre1⟩
      case hs => exact ⟨_, _, _, rfl, F6, N6, M6⟩
      case done =>
        rintro exh p2 m2 s2 hp2 ⟨rfl, tok2, tt2, chv2, hm2, htl2, hre2⟩ hend ⟨h7, tk7, blk7, rfl, F7, N7, M7⟩
        have hpe : p2 = text.length := hend.resolve_left (by decide)
        have hp12 : p < text.length := hlt
        rw [codes_ge (by omega)] at hre2
        (try dsimp only)
        ((repeat' ((fail_if_success (with_reducible show Left _)); (first | (k_unfold; (try dsimp only)) | ((with_reducible first | show wpAny _ _ (exec _ _) _ _ _ | show wpAny _ _ (execs _ _) _ _ _); k_fold) | (k_end; wrow_close) | walk1 | (dsimp only; walk1) | (leave1; (try dsimp only))))) <;> (repeat (k_unfold; (try dsimp only))))
        exact ⟨true, p2, m2, by omega, by omega, ⟨tok2, tt2, chv2, hm2, htl2, by rw [codes_ge (by omega)]; exact hre2⟩, _, _, _, rfl, F7, N7, M7⟩
      case turn =>
        rintro p2 m2 t2 s2 hlt2 ⟨-, tok2, tt2, chv2, hm2, htl2, hre2⟩ ⟨h7, tk7, blk7, rfl, F7, N7, M7⟩
        clear F6 N6
        replace F7 : Fr g L' h7 (gm a.x it tok2 tt2 (some (.str (signAt text p2) t2))) := Fr.congr F7 (gm_ch hm2)
        obtain ⟨lt7, tw7, k7, l7, items7, hl7, hi7, rfl⟩ := M7
        cases hi7
        replace N7 : News g L' h7 ((it, citObj q t3) :: (q, methodObj (.ref 84) (.ref a.x)) :: (lexObjs w a (.int (c + nlTo text (p2 + 1)) lt7) (.str wsp tw7) [] k7 ++ l7)) := N7
        simp only [lexObjs, List.cons_append, List.nil_append, if_false, Bool.false_eq_true] at N7
        unfold gm at F7
        obtain ⟨cd, hsg2, hcs2⟩ := codes_lt hlt2
        rw [hsg2] at F7
        have hone2 := one_len cd
        have hsl2 := sign_len text (p2 + 1)
        (try dsimp only); (try k_fold)
        ((repeat' ((fail_if_success (with_reducible show wpAny _ _ (call (Value.ref 84) _) _ _ _)); (fail_if_success (with_reducible show Left _)); (first | (k_unfold; (try dsimp only)) | ((with_reducible first | show wpAny _ _ (exec _ _) _ _ _ | show wpAny _ _ (execs _ _) _ _ _); k_fold) | (k_end; wrow_close) | walk1 | (dsimp only; walk1) | (leave1; (try dsimp only))))) <;> (repeat (k_unfold; (try dsimp only))))
        · rename ((_ == _) = true) => hb
          rw [b_lit, one_beq] at hb
          have hb : cd = 92 := eq_of_beq hb
          rename ((Str.occurrences _ _ _ _ _).isEmpty = true) => hw
          have hw : inWs wsp cd = false := by unfold inWs; rw [hw]; rfl
          refine call_read (blk := lexObjs w a (.int (c + nlTo text (p2 + 1)) lt7) (.str wsp tw7) [] k7 ++ l7) (o1 := citObj q t3) (o2 := methodObj (.ref 84) (.ref a.x)) Rd O ⟨lt7, tw7, k7, l7, [], hl7, .nil, rfl⟩ hit0 hq0 B (by assumption) X T rfl rfl (by assumption) (by omega) (by omega) (by omega) ?_
          intro h8 tk8 t8 blk8 p8 hp8 F8 N8 M8
          clear F7 N7
          (try dsimp only)
          ((repeat' ((fail_if_success (with_reducible show Left _)); (first | (k_unfold; (try dsimp only)) | ((with_reducible first | show wpAny _ _ (exec _ _) _ _ _ | show wpAny _ _ (execs _ _) _ _ _); k_fold) | (k_end; wrow_close) | walk1 | (dsimp only; walk1) | (leave1; (try dsimp only))))) <;> (repeat (k_unfold; (try dsimp only))))
          (try dsimp only)
          unfold Left
          rename Fr _ _ _ _ => F9
          rename News _ _ _ _ => N9
          exact ⟨false, p8, _, by omega, by omega, ⟨rfl, tok2 ++ signAt text (p2 + 1), _, _, gm_tct, by rw [Str.length_append]; omega, (lexW_esc hcs2 hw hb hp8).trans hre2⟩, _, _, blk8, rfl, F9, N9, M8⟩
        · have hb : cd ≠ 92 := by
            rename ((_ == Str.ofString "\\") = false) => hb
            rw [b_lit, one_beq] at hb
            exact fun e => by rw [e] at hb; cases hb
          rename ((Str.occurrences _ _ _ _ _).isEmpty = true) => hw
          have hw : inWs wsp cd = false := by unfold inWs; rw [hw]; rfl
          (try dsimp only)
          unfold Left
          rename Fr _ _ _ _ => F9
          rename News _ _ _ _ => N9
          refine ⟨false, p2 + 1, _, by omega, by omega, ⟨rfl, tok2 ++ ⟨#[cd]⟩, _, _, gm_tt, by rw [Str.length_append]; omega, ?_⟩, _, _, _, rfl, F9, N9, lt7, tw7, k7, l7, [], hl7, .nil, rfl⟩
          rw [← hre2, hcs2, lexW_cons, hw, if_neg (by decide), if_neg hb]
        · rename ((Str.occurrences _ _ _ _ _).isEmpty = false) => hw; have hw : inWs wsp cd = true := by (unfold inWs; rw [hw]; rfl)
          rw [hcs2, lexW_cons, if_pos hw] at hre2; subst hre2
          (try dsimp only)
          rename Fr _ _ _ _ => F9
          rename News _ _ _ _ => N9
          exact ret _ _ _ _ F9.keep (fun r hr => ⟨(N9 r (.tail _ (.tail _ hr))).1, (N9 r (.tail _ (.tail _ hr))).2.2⟩) ⟨_, p2 + 1, rfl, hlt2, rfl, lt7, tw7, k7, l7, [], hl7, .nil, rfl⟩
    · have hb : cc ≠ 92 := by
        rename ((_ == Str.ofString "\\") = false) => hb9
        rw [b_lit, one_beq] at hb9
        exact fun e => by rw [e] at hb9; cases hb9
      have hb2 : cc ≠ 34 := by
        rename ((_ == Str.ofString "\"") = false) => hb9
        rw [q_lit, one_beq] at hb9
        exact fun e => by rw [e] at hb9; cases hb9
      rename ((Str.occurrences _ _ _ _ _).isEmpty = true) => hw
      have hw : inWs wsp cc = false := by unfold inWs; rw [hw]; rfl
      rename Fr _ _ _ _ => F6
      rename News _ _ _ _ => N6
      obtain ⟨p1, hp1e⟩ : ∃ p1, p1 = p + 1 := ⟨_, rfl⟩
      rw [← hp1e] at N6 hcs hl5
      obtain ⟨tok1, tt1, chv1, F6, htl1, hre1⟩ : ∃ tok tt chv, Fr g L' _ (gm a.x it tok tt chv) ∧ tok.length ≤ p1 ∧ lexW wsp (codes text p1) tok = res := ⟨"" ++ ⟨#[cc]⟩, _, _, Fr.congr F6 gm_tt, by rw [Str.length_append, show ("" : Str).length = 0 from rfl]; omega, by rw [← hre, hcs, lex0_cons, hw, if_neg (by decide), if_neg hb2, if_neg hb]⟩
      have M6 : MachSt w a RO (c + nlTo text p1) wsp [] p1 _ := ⟨lt5, tw5, k5, l5, [], hl5, .nil, rfl⟩
      have hp1 : p1 ≤ text.length := by omega
      refine wpAny_For ?_
      ((repeat' ((fail_if_success (with_reducible show wpAny _ _ (pyIter _) _ _ _)); (first | (k_unfold; (try dsimp only)) | ((with_reducible first | show wpAny _ _ (exec _ _) _ _ _ | show wpAny _ _ (execs _ _) _ _ _); k_fold) | (k_end; wrow_close) | walk1 | (dsimp only; walk1) | (leave1; (try dsimp only))))) <;> (repeat (k_unfold; (try dsimp only))))
      refine pyIter_cit (N6 (it, _) (.head _)).1 rfl ?_
      (try dsimp only)
      refine' for_cit (env := envOf _ _ L' 91 _) (s := s) (c := c) (wsp := wsp) (exh := false) (q := q) (t := t3) (m := gm a.x it tok1 tt1 chv1) Rd O hiq hit0 hq0 B X T rfl rfl rfl rfl ?hd1 ?hu1
        (fun exh p m => exh = false ∧ ∃ tok tt chv, (∀ y, m y = gm a.x it tok tt chv y) ∧ tok.length ≤ p ∧ lexW wsp (codes text p) tok = res) ?turn ?done hp1 ?hj ?hs
      case hd1 => omega
      case hu1 => omega
      case hj => exact ⟨rfl, _, _, _, fun _ => rfl, htl1, hre1⟩
      case hs => exact ⟨_, _, _, rfl, F6, N6, M6⟩
      case done =>
        rintro exh p2 m2 s2 hp2 ⟨rfl, tok2, tt2, chv2, hm2, htl2, hre2⟩ hend ⟨h7, tk7, blk7, rfl, F7, N7, M7⟩
        have hpe : p2 = text.length := hend.resolve_left (by decide)
        have hp12 : p < text.length := hlt
        rw [codes_ge (by omega)] at hre2
        (try dsimp only)
        ((repeat' ((fail_if_success (with_reducible show Left _)); (first | (k_unfold; (try dsimp only)) | ((with_reducible first | show wpAny _ _ (exec _ _) _ _ _ | show wpAny _ _ (execs _ _) _ _ _); k_fold) | (k_end; wrow_close) | walk1 | (dsimp only; walk1) | (leave1; (try dsimp only))))) <;> (repeat (k_unfold; (try dsimp only))))
        exact ⟨true, p2, m2, by omega, by omega, ⟨tok2, tt2, chv2, hm2, htl2, by rw [codes_ge (by omega)]; exact hre2⟩, _, _, _, rfl, F7, N7, M7⟩
      case turn =>
        rintro p2 m2 t2 s2 hlt2 ⟨-, tok2, tt2, chv2, hm2, htl2, hre2⟩ ⟨h7, tk7, blk7, rfl, F7, N7, M7⟩
        clear F6 N6
        replace F7 : Fr g L' h7 (gm a.x it tok2 tt2 (some (.str (signAt text p2) t2))) := Fr.congr F7 (gm_ch hm2)
        obtain ⟨lt7, tw7, k7, l7, items7, hl7, hi7, rfl⟩ := M7
        cases hi7
        replace N7 : News g L' h7 ((it, citObj q t3) :: (q, methodObj (.ref 84) (.ref a.x)) :: (lexObjs w a (.int (c + nlTo text (p2 + 1)) lt7) (.str wsp tw7) [] k7 ++ l7)) := N7
        simp only [lexObjs, List.cons_append, List.nil_append, if_false, Bool.false_eq_true] at N7
        unfold gm at F7
        obtain ⟨cd, hsg2, hcs2⟩ := codes_lt hlt2
        rw [hsg2] at F7
        have hone2 := one_len cd
        have hsl2 := sign_len text (p2 + 1)
        (try dsimp only); (try k_fold)
        ((repeat' ((fail_if_success (with_reducible show wpAny _ _ (call (Value.ref 84) _) _ _ _)); (fail_if_success (with_reducible show Left _)); (first | (k_unfold; (try dsimp only)) | ((with_reducible first | show wpAny _ _ (exec _ _) _ _ _ | show wpAny _ _ (execs _ _) _ _ _); k_fold) | (k_end; wrow_close) | walk1 | (dsimp only; walk1) | (leave1; (try dsimp only))))) <;> (repeat (k_unfold; (try dsimp only))))
        · rename ((_ == _) = true) => hb
          rw [b_lit, one_beq] at hb
          have hb : cd = 92 := eq_of_beq hb
          rename ((Str.occurrences _ _ _ _ _).isEmpty = true) => hw
          have hw : inWs wsp cd = false := by unfold inWs; rw [hw]; rfl
          refine call_read (blk := lexObjs w a (.int (c + nlTo text (p2 + 1)) lt7) (.str wsp tw7) [] k7 ++ l7) (o1 := citObj q t3) (o2 := methodObj (.ref 84) (.ref a.x)) Rd O ⟨lt7, tw7, k7, l7, [], hl7, .nil, rfl⟩ hit0 hq0 B (by assumption) X T rfl rfl (by assumption) (by omega) (by omega) (by omega) ?_
          intro h8 tk8 t8 blk8 p8 hp8 F8 N8 M8
          clear F7 N7
          (try dsimp only)
          ((repeat' ((fail_if_success (with_reducible show Left _)); (first | (k_unfold; (try dsimp only)) | ((with_reducible first | show wpAny _ _ (exec _ _) _ _ _ | show wpAny _ _ (execs _ _) _ _ _); k_fold) | (k_end; wrow_close) | walk1 | (dsimp only; walk1) | (leave1; (try dsimp only))))) <;> (repeat (k_unfold; (try dsimp only))))
          (try dsimp only)
          unfold Left
          rename Fr _ _ _ _ => F9
          rename News _ _ _ _ => N9
          exact ⟨false, p8, _, by omega, by omega, ⟨rfl, tok2 ++ signAt text (p2 + 1), _, _, gm_tct, by rw [Str.length_append]; omega, (lexW_esc hcs2 hw hb hp8).trans hre2⟩, _, _, blk8, rfl, F9, N9, M8⟩
        · have hb : cd ≠ 92 := by
            rename ((_ == Str.ofString "\\") = false) => hb
            rw [b_lit, one_beq] at hb
            exact fun e => by rw [e] at hb; cases hb
          rename ((Str.occurrences _ _ _ _ _).isEmpty = true) => hw
          have hw : inWs wsp cd = false := by unfold inWs; rw [hw]; rfl
          (try dsimp only)
          unfold Left
          rename Fr _ _ _ _ => F9
          rename News _ _ _ _ => N9
          refine ⟨false, p2 + 1, _, by omega, by omega, ⟨rfl, tok2 ++ ⟨#[cd]⟩, _, _, gm_tt, by rw [Str.length_append]; omega, ?_⟩, _, _, _, rfl, F9, N9, lt7, tw7, k7, l7, [], hl7, .nil, rfl⟩
          rw [← hre2, hcs2, lexW_cons, hw, if_neg (by decide), if_neg hb]
        · rename ((Str.occurrences _ _ _ _ _).isEmpty = false) => hw; have hw : inWs wsp cd = true := by (unfold inWs; rw [hw]; rfl)
          rw [hcs2, lexW_cons, if_pos hw] at hre2; subst hre2
          (try dsimp only)
          rename Fr _ _ _ _ => F9
          rename News _ _ _ _ => N9
          exact ret _ _ _ _ F9.keep (fun r hr => ⟨(N9 r (.tail _ (.tail _ hr))).1, (N9 r (.tail _ (.tail _ hr))).2.2⟩) ⟨_, p2 + 1, rfl, hlt2, rfl, lt7, tw7, k7, l7, [], hl7, .nil, rfl⟩
    · rename ((Str.occurrences _ _ _ _ _).isEmpty = false) => hw
      have hw : inWs wsp cc = true := by unfold inWs; rw [hw]; rfl
      (try dsimp only)
      unfold Left
      rename Fr _ _ _ _ => F9
      rename News _ _ _ _ => N9
      exact ⟨false, p + 1, _, by omega, by omega, ⟨"", _, _, fun _ => rfl, Nat.zero_le _, rfl, by rw [← hre, hcs, lex0_cons, hw]; rfl⟩, _, _, _, rfl, F9, N9, lt5, tw5, k5, l5, [], hl5, .nil, rfl⟩
end

theorem slice_sign {x : Str} {p : Nat} (h : p ≤ x.length) : Txt.slice x (some (p : Int)) (some ((p : Int) + 1)) = signAt x p := by
  rcases Nat.lt_or_ge p x.length with hlt | hge
  · have e := beq_iff_eq.mp (slice_closesL (x := x) (i := (p : Int)) (j := (p : Int) + 1) (by omega) (by omega) (by omega))
    rw [e, signAt_lt (by rw [← len_cps]; exact hlt)]
    have h2 : p < x.cps.toList.length := by rw [← len_cps]; exact hlt
    have e1 : ((p : Int) + 1 - (p : Int)).toNat = 1 := by omega
    simp [e1, List.take_one, List.head?_drop, List.getElem?_eq_getElem h2]
  · have hpe : p = x.length := Nat.le_antisymm h hge
    rw [signAt_ge (by rw [← len_cps]; exact hge)]
    have e : Builtin.Str.strSliceIndices (some (p : Int)) (some ((p : Int) + 1)) 1 x.length = [] := by
      unfold Builtin.Str.strSliceIndices
      subst hpe
      simp [sliceRange]
      omega
    unfold Txt.slice
    rw [e]
    split
    · rename_i h9
      have h0 : 0 = x.length := by simpa using h9
      have h1 : x.cps = #[] := Array.size_eq_zero_iff.mp h0.symm
      cases x; cases h1; rfl
    · rfl
theorem reader_of (w : World) (text : Str) (rd c atl cA cT : Addr) (oc oA oT : Obj) (name qual : Str) (params : Arguments) (body : List Stmt) (scope : Scope) (doc pm ct : Value) (vs : Array Value) (tq tt : Tok)
    (hdef : nestedDef ((hd.heap_1 w.params).lookup 178) 1 = some (params, body, scope)) (hcd : oc.data = .fields vs) (hvs : vs[1]? = some (.str qual tq)) (hA : oA.data = .cell (some (.ref atl))) (hT : oT.data = .cell (some (.str text tt)))
    (n1 : atl ≠ rd) (n2 : atl ≠ c) (n3 : atl ≠ cA) (n4 : atl ≠ cT) (hlen : text.length < 100000) :
    Reader w rd text [rd, c, atl, cA, cT] (fun p l => p ≤ text.length ∧ ∃ tk k, l = [(rd, { cls := .type "function", data := .func (fnX name qual params body scope [("text", cT), ("at", cA)] .none .none doc pm none (.ref c) ct) }), (c, oc), (atl, listOf #[.int p tk] k), (cA, oA), (cT, oT)]) := by
  refine ⟨?_, ?_, ?_⟩
  · rintro p l ⟨-, tk, k, rfl⟩; rfl
  · rintro p l ⟨-, tk, k, rfl⟩; exact ⟨_, _, .head _, rfl⟩
  rintro p l t ⟨hp, tk, k, rfl⟩
  revert hdef
  unfold Con
  k_fill
  intro hdef dp un gd outer base g tp tl mean mg mb s R B hg hsz hsel X T hd hu ret
  refine' nested_out ?hl hdef ?_
  (case hl => k_is)
  clear hdef
  intro hdef
  cases hdef
  refine' enter_m hg hsz hsel T (.head _) rfl (.tail _ (.head _)) hcd hvs ?k8 ?k9 ?kB ?_ ?c2 ?c3 ?c4 ?c5
  (case k8 => k_room); (case k9 => exact BindsTo.of_eq rfl); (case c5 => decide); (case kB => exact locs rfl); (case c2 => exact rfl); (case c3 => exact rfl); (case c4 => exact rfl)
  intro L' h' tk' F' N' l1
  (try dsimp only); (try k_fold)
  ((repeat' (first | ((with_reducible show wpAny _ _ (eval (Expr.Name (Str.ofString "text") _) _) _ _ _); refine nameX_F (x := "text") (by assumption) rfl (by k_mem) hT ?_) | ((with_reducible show wpAny _ _ (eval (Expr.Name (Str.ofString "at") _) _) _ _ _); refine nameX_F (x := "at") (by assumption) rfl (by k_mem) hA ?_) | (k_unfold; (try dsimp only)) | ((with_reducible first | show wpAny _ _ (exec _ _) _ _ _ | show wpAny _ _ (execs _ _) _ _ _); k_fold) | (k_end; wrow_close) | walk1 | (dsimp only; walk1) | (leave1; (try dsimp only)))) <;> (repeat (k_unfold; (try dsimp only))))
  have e0 : ([(p : Int)].getD (Int.toNat 0) 0) = (p : Int) := rfl
  rw [e0, slice_sign hp]
  rename Fr _ _ _ _ => F9
  rename News _ _ _ _ => N9
  rw [e0, slice_sign hp] at N9
  have e1 : ((p : Int) + ((signAt text p).length : Nat)) = ((min (p + 1) text.length : Nat) : Int) := by
    rcases Nat.lt_or_ge p text.length with hlt | hge
    · rw [signAt_lt (by rw [← len_cps]; exact hlt), Nat.min_eq_left hlt]; rfl
    · rw [signAt_ge (by rw [← len_cps]; exact hge), Nat.min_eq_right (by omega), Nat.le_antisymm hp hge]; simp [Str.length]
  rw [e1] at N9
  refine ret _ _ _ _ F9.keep (fun r hr => ⟨(N9 r hr).1, (N9 r hr).2.2⟩) ⟨⟨Nat.min_le_right _ _, ?_, k, ?_⟩, _, rfl⟩
  rotate_left
  exact rfl
theorem mach_end {w : World} {x : Str} {g h : Heap} {L : Addr} {news : List (Addr × Obj)} {x' dx pb st std rd c atl cA cT : Addr} {t1 t2 t3 t4 td tw lt tk tq tt : Tok} {k k2 : Nat} {fd : FuncData} {sl : Array (Option Value)} {oc oA oT : Obj}
    {name qual : Str} {params : Arguments} {body : List Stmt} {scope : Scope} {doc pm ct : Value} {vs tab : Array Value} (N : News g L h news)
    (m1 : (x', instObj 101 dx) ∈ news)
    (m2 : (dx, dictOf [⟨PyData.keyHash w.params "lineno", .str "lineno" t1, .int 1 lt⟩, ⟨PyData.keyHash w.params "instream", .str "instream" t2, .ref st⟩, ⟨PyData.keyHash w.params "whitespace", .str "whitespace" t3, .str "\n\t\r " tw⟩, ⟨PyData.keyHash w.params "pushback", .str "pushback" t4, .ref pb⟩] 4) ∈ news)
    (m3 : (pb, listOf #[] k) ∈ news) (m4 : (st, ⟨.type "function", some std, .func fd, sl⟩) ∈ news) (m5 : (std, dictOf [⟨PyData.keyHash w.params "read", .str "read" td, .ref rd⟩] 1) ∈ news)
    (m6 : (rd, { cls := .type "function", data := .func (fnX name qual params body scope [("text", cT), ("at", cA)] .none .none doc pm none (.ref c) ct) }) ∈ news) (m7 : (c, oc) ∈ news) (m8 : (atl, listOf #[.int 0 tk] k2) ∈ news) (m9 : (cA, oA) ∈ news) (m10 : (cT, oT) ∈ news) (m11 : (173, tabObj tab) ∈ news)
    (hdef : nestedDef ((hd.heap_1 w.params).lookup 178) 1 = some (params, body, scope)) (hcd : oc.data = .fields vs) (hvs : vs[1]? = some (.str qual tq)) (hA : oA.data = .cell (some (.ref atl))) (hT : oT.data = .cell (some (.str x tt))) (hx : x.length < 100000)
    (o1 : (173 : Nat) < cT) (o2 : cT < cA) (o3 : cA < atl) (o4 : atl < c) (o5 : c < rd) (o6 : rd < st) (o7 : st < std) (o8 : std < dx) (o9 : dx < x') (o10 : x' < pb) :
    ∃ sel', (∀ p ∈ sel', h.get? p.1 = some p.2 ∧ g.get? p.1 = none) ∧ ∃ a adr RO blk tab, Reader w a.rd x adr RO ∧ LexA.Ok a adr ∧ Value.ref x' = .ref a.x ∧ MachSt w a RO 1 "\n\t\r " [] 0 blk ∧ sel' = blk ++ [(173, tabObj tab)] ∧ 173 ∉ [a.x, a.dx, a.pb, a.st, a.std] ++ adr := by
  have q1 := neN (Nat.ne_of_gt o4)
  refine ⟨_, ?_, ⟨x', dx, pb, st, std, rd, t1, t2, t3, t4, td, fd, sl⟩, [rd, c, atl, cA, cT], _, _, tab,
    reader_of w x rd c atl cA cT oc oA oT name qual params body scope doc pm ct vs tq tt hdef hcd hvs hA hT (Nat.ne_of_lt (Nat.lt_trans o4 o5)) (Nat.ne_of_lt o4) (Nat.ne_of_gt o3) (Nat.ne_of_gt (Nat.lt_trans o2 o3)) hx,
    ?_, rfl, ⟨lt, tw, k, _, [], ⟨Nat.zero_le _, tk, k2, rfl⟩, .nil, rfl⟩, rfl, ?_⟩
  · have hm : ∀ p ∈ _, p ∈ news := List.forall_mem_cons.mpr ⟨m1, List.forall_mem_cons.mpr ⟨m2, List.forall_mem_cons.mpr ⟨m3, List.forall_mem_cons.mpr ⟨m4, List.forall_mem_cons.mpr ⟨m5, List.forall_mem_cons.mpr ⟨m6, List.forall_mem_cons.mpr ⟨m7, List.forall_mem_cons.mpr ⟨m8, List.forall_mem_cons.mpr ⟨m9, List.forall_mem_cons.mpr ⟨m10, List.forall_mem_cons.mpr ⟨m11, List.forall_mem_nil _⟩⟩⟩⟩⟩⟩⟩⟩⟩⟩⟩
    exact fun p hp => ⟨(N p (hm p hp)).1, (N p (hm p hp)).2.2⟩
  · have a1 : (173 : Nat) < cT := o1
    have a2 : @LT.lt Nat _ cT cA := o2
    have a3 : @LT.lt Nat _ cA atl := o3
    have a4 : @LT.lt Nat _ atl c := o4
    have a5 : @LT.lt Nat _ c rd := o5
    have a6 : @LT.lt Nat _ rd st := o6
    have a7 : @LT.lt Nat _ st std := o7
    have a8 : @LT.lt Nat _ std dx := o8
    have a9 : @LT.lt Nat _ dx x' := o9
    have a10 : @LT.lt Nat _ x' pb := o10
    refine ⟨neN ?_, neN ?_, neN ?_, neN ?_, neN ?_, neN ?_, neN ?_, ?_, ?_, ?_, ?_, ?_⟩
    all_goals first | ((try dsimp only); omega) | (simp only [List.mem_cons, List.not_mem_nil, or_false, not_or]; exact ⟨(by first | (refine neN (Nat.ne_of_gt ?_); with_reducible ((repeat (first | assumption | exact And.left (by assumption) | exact And.left (And.right (by assumption)) | exact And.right (And.right (by assumption)) | exact And.right (by assumption) | exact And.left (And.right (And.right (by assumption))) | exact And.right (And.right (And.right (by assumption))) | exact And.left (And.right (And.right (And.right (by assumption)))) | exact And.left (And.right (And.right (And.right (And.right (by assumption))))) | refine Nat.lt_trans ?_ (by assumption))); done)) | (refine neN (Nat.ne_of_lt ?_); with_reducible ((repeat (first | assumption | exact And.left (by assumption) | exact And.left (And.right (by assumption)) | exact And.right (And.right (by assumption)) | exact And.right (by assumption) | exact And.left (And.right (And.right (by assumption))) | exact And.right (And.right (And.right (by assumption))) | exact And.left (And.right (And.right (And.right (by assumption)))) | exact And.left (And.right (And.right (And.right (And.right (by assumption))))) | refine Nat.lt_trans ?_ (by assumption))); done)) | omega), (by first | (refine neN (Nat.ne_of_gt ?_); with_reducible ((repeat (first | assumption | exact And.left (by assumption) | exact And.left (And.right (by assumption)) | exact And.right (And.right (by assumption)) | exact And.right (by assumption) | exact And.left (And.right (And.right (by assumption))) | exact And.right (And.right (And.right (by assumption))) | exact And.left (And.right (And.right (And.right (by assumption)))) | exact And.left (And.right (And.right (And.right (And.right (by assumption))))) | refine Nat.lt_trans ?_ (by assumption))); done)) | (refine neN (Nat.ne_of_lt ?_); with_reducible ((repeat (first | assumption | exact And.left (by assumption) | exact And.left (And.right (by assumption)) | exact And.right (And.right (by assumption)) | exact And.right (by assumption) | exact And.left (And.right (And.right (by assumption))) | exact And.right (And.right (And.right (by assumption))) | exact And.left (And.right (And.right (And.right (by assumption)))) | exact And.left (And.right (And.right (And.right (And.right (by assumption))))) | refine Nat.lt_trans ?_ (by assumption))); done)) | omega), (by first | (refine neN (Nat.ne_of_gt ?_); with_reducible ((repeat (first | assumption | exact And.left (by assumption) | exact And.left (And.right (by assumption)) | exact And.right (And.right (by assumption)) | exact And.right (by assumption) | exact And.left (And.right (And.right (by assumption))) | exact And.right (And.right (And.right (by assumption))) | exact And.left (And.right (And.right (And.right (by assumption)))) | exact And.left (And.right (And.right (And.right (And.right (by assumption))))) | refine Nat.lt_trans ?_ (by assumption))); done)) | (refine neN (Nat.ne_of_lt ?_); with_reducible ((repeat (first | assumption | exact And.left (by assumption) | exact And.left (And.right (by assumption)) | exact And.right (And.right (by assumption)) | exact And.right (by assumption) | exact And.left (And.right (And.right (by assumption))) | exact And.right (And.right (And.right (by assumption))) | exact And.left (And.right (And.right (And.right (by assumption)))) | exact And.left (And.right (And.right (And.right (And.right (by assumption))))) | refine Nat.lt_trans ?_ (by assumption))); done)) | omega), (by first | (refine neN (Nat.ne_of_gt ?_); with_reducible ((repeat (first | assumption | exact And.left (by assumption) | exact And.left (And.right (by assumption)) | exact And.right (And.right (by assumption)) | exact And.right (by assumption) | exact And.left (And.right (And.right (by assumption))) | exact And.right (And.right (And.right (by assumption))) | exact And.left (And.right (And.right (And.right (by assumption)))) | exact And.left (And.right (And.right (And.right (And.right (by assumption))))) | refine Nat.lt_trans ?_ (by assumption))); done)) | (refine neN (Nat.ne_of_lt ?_); with_reducible ((repeat (first | assumption | exact And.left (by assumption) | exact And.left (And.right (by assumption)) | exact And.right (And.right (by assumption)) | exact And.right (by assumption) | exact And.left (And.right (And.right (by assumption))) | exact And.right (And.right (And.right (by assumption))) | exact And.left (And.right (And.right (And.right (by assumption)))) | exact And.left (And.right (And.right (And.right (And.right (by assumption))))) | refine Nat.lt_trans ?_ (by assumption))); done)) | omega), (by first | (refine neN (Nat.ne_of_gt ?_); with_reducible ((repeat (first | assumption | exact And.left (by assumption) | exact And.left (And.right (by assumption)) | exact And.right (And.right (by assumption)) | exact And.right (by assumption) | exact And.left (And.right (And.right (by assumption))) | exact And.right (And.right (And.right (by assumption))) | exact And.left (And.right (And.right (And.right (by assumption)))) | exact And.left (And.right (And.right (And.right (And.right (by assumption))))) | refine Nat.lt_trans ?_ (by assumption))); done)) | (refine neN (Nat.ne_of_lt ?_); with_reducible ((repeat (first | assumption | exact And.left (by assumption) | exact And.left (And.right (by assumption)) | exact And.right (And.right (by assumption)) | exact And.right (by assumption) | exact And.left (And.right (And.right (by assumption))) | exact And.right (And.right (And.right (by assumption))) | exact And.left (And.right (And.right (And.right (by assumption)))) | exact And.left (And.right (And.right (And.right (And.right (by assumption))))) | refine Nat.lt_trans ?_ (by assumption))); done)) | omega)⟩)
  · have a1 : (173 : Nat) < cT := o1
    have a2 : @LT.lt Nat _ cT cA := o2
    have a3 : @LT.lt Nat _ cA atl := o3
    have a4 : @LT.lt Nat _ atl c := o4
    have a5 : @LT.lt Nat _ c rd := o5
    have a6 : @LT.lt Nat _ rd st := o6
    have a7 : @LT.lt Nat _ st std := o7
    have a8 : @LT.lt Nat _ std dx := o8
    have a9 : @LT.lt Nat _ dx x' := o9
    have a10 : @LT.lt Nat _ x' pb := o10
    simp only [List.cons_append, List.nil_append, List.mem_cons, List.not_mem_nil, or_false, not_or]
    exact ⟨(by first | (refine neN (Nat.ne_of_gt ?_); with_reducible ((repeat (first | assumption | exact And.left (by assumption) | exact And.left (And.right (by assumption)) | exact And.right (And.right (by assumption)) | exact And.right (by assumption) | exact And.left (And.right (And.right (by assumption))) | exact And.right (And.right (And.right (by assumption))) | exact And.left (And.right (And.right (And.right (by assumption)))) | exact And.left (And.right (And.right (And.right (And.right (by assumption))))) | refine Nat.lt_trans ?_ (by assumption))); done)) | (refine neN (Nat.ne_of_lt ?_); with_reducible ((repeat (first | assumption | exact And.left (by assumption) | exact And.left (And.right (by assumption)) | exact And.right (And.right (by assumption)) | exact And.right (by assumption) | exact And.left (And.right (And.right (by assumption))) | exact And.right (And.right (And.right (by assumption))) | exact And.left (And.right (And.right (And.right (by assumption)))) | exact And.left (And.right (And.right (And.right (And.right (by assumption))))) | refine Nat.lt_trans ?_ (by assumption))); done)) | omega), (by first | (refine neN (Nat.ne_of_gt ?_); with_reducible ((repeat (first | assumption | exact And.left (by assumption) | exact And.left (And.right (by assumption)) | exact And.right (And.right (by assumption)) | exact And.right (by assumption) | exact And.left (And.right (And.right (by assumption))) | exact And.right (And.right (And.right (by assumption))) | exact And.left (And.right (And.right (And.right (by assumption)))) | exact And.left (And.right (And.right (And.right (And.right (by assumption))))) | refine Nat.lt_trans ?_ (by assumption))); done)) | (refine neN (Nat.ne_of_lt ?_); with_reducible ((repeat (first | assumption | exact And.left (by assumption) | exact And.left (And.right (by assumption)) | exact And.right (And.right (by assumption)) | exact And.right (by assumption) | exact And.left (And.right (And.right (by assumption))) | exact And.right (And.right (And.right (by assumption))) | exact And.left (And.right (And.right (And.right (by assumption)))) | exact And.left (And.right (And.right (And.right (And.right (by assumption))))) | refine Nat.lt_trans ?_ (by assumption))); done)) | omega), (by first | (refine neN (Nat.ne_of_gt ?_); with_reducible ((repeat (first | assumption | exact And.left (by assumption) | exact And.left (And.right (by assumption)) | exact And.right (And.right (by assumption)) | exact And.right (by assumption) | exact And.left (And.right (And.right (by assumption))) | exact And.right (And.right (And.right (by assumption))) | exact And.left (And.right (And.right (And.right (by assumption)))) | exact And.left (And.right (And.right (And.right (And.right (by assumption))))) | refine Nat.lt_trans ?_ (by assumption))); done)) | (refine neN (Nat.ne_of_lt ?_); with_reducible ((repeat (first | assumption | exact And.left (by assumption) | exact And.left (And.right (by assumption)) | exact And.right (And.right (by assumption)) | exact And.right (by assumption) | exact And.left (And.right (And.right (by assumption))) | exact And.right (And.right (And.right (by assumption))) | exact And.left (And.right (And.right (And.right (by assumption)))) | exact And.left (And.right (And.right (And.right (And.right (by assumption))))) | refine Nat.lt_trans ?_ (by assumption))); done)) | omega), (by first | (refine neN (Nat.ne_of_gt ?_); with_reducible ((repeat (first | assumption | exact And.left (by assumption) | exact And.left (And.right (by assumption)) | exact And.right (And.right (by assumption)) | exact And.right (by assumption) | exact And.left (And.right (And.right (by assumption))) | exact And.right (And.right (And.right (by assumption))) | exact And.left (And.right (And.right (And.right (by assumption)))) | exact And.left (And.right (And.right (And.right (And.right (by assumption))))) | refine Nat.lt_trans ?_ (by assumption))); done)) | (refine neN (Nat.ne_of_lt ?_); with_reducible ((repeat (first | assumption | exact And.left (by assumption) | exact And.left (And.right (by assumption)) | exact And.right (And.right (by assumption)) | exact And.right (by assumption) | exact And.left (And.right (And.right (by assumption))) | exact And.right (And.right (And.right (by assumption))) | exact And.left (And.right (And.right (And.right (by assumption)))) | exact And.left (And.right (And.right (And.right (And.right (by assumption))))) | refine Nat.lt_trans ?_ (by assumption))); done)) | omega), (by first | (refine neN (Nat.ne_of_gt ?_); with_reducible ((repeat (first | assumption | exact And.left (by assumption) | exact And.left (And.right (by assumption)) | exact And.right (And.right (by assumption)) | exact And.right (by assumption) | exact And.left (And.right (And.right (by assumption))) | exact And.right (And.right (And.right (by assumption))) | exact And.left (And.right (And.right (And.right (by assumption)))) | exact And.left (And.right (And.right (And.right (And.right (by assumption))))) | refine Nat.lt_trans ?_ (by assumption))); done)) | (refine neN (Nat.ne_of_lt ?_); with_reducible ((repeat (first | assumption | exact And.left (by assumption) | exact And.left (And.right (by assumption)) | exact And.right (And.right (by assumption)) | exact And.right (by assumption) | exact And.left (And.right (And.right (by assumption))) | exact And.right (And.right (And.right (by assumption))) | exact And.left (And.right (And.right (And.right (by assumption)))) | exact And.left (And.right (And.right (And.right (And.right (by assumption))))) | refine Nat.lt_trans ?_ (by assumption))); done)) | omega), (by first | (refine neN (Nat.ne_of_gt ?_); with_reducible ((repeat (first | assumption | exact And.left (by assumption) | exact And.left (And.right (by assumption)) | exact And.right (And.right (by assumption)) | exact And.right (by assumption) | exact And.left (And.right (And.right (by assumption))) | exact And.right (And.right (And.right (by assumption))) | exact And.left (And.right (And.right (And.right (by assumption)))) | exact And.left (And.right (And.right (And.right (And.right (by assumption))))) | refine Nat.lt_trans ?_ (by assumption))); done)) | (refine neN (Nat.ne_of_lt ?_); with_reducible ((repeat (first | assumption | exact And.left (by assumption) | exact And.left (And.right (by assumption)) | exact And.right (And.right (by assumption)) | exact And.right (by assumption) | exact And.left (And.right (And.right (by assumption))) | exact And.right (And.right (And.right (by assumption))) | exact And.left (And.right (And.right (And.right (by assumption)))) | exact And.left (And.right (And.right (And.right (And.right (by assumption))))) | refine Nat.lt_trans ?_ (by assumption))); done)) | omega), (by first | (refine neN (Nat.ne_of_gt ?_); with_reducible ((repeat (first | assumption | exact And.left (by assumption) | exact And.left (And.right (by assumption)) | exact And.right (And.right (by assumption)) | exact And.right (by assumption) | exact And.left (And.right (And.right (by assumption))) | exact And.right (And.right (And.right (by assumption))) | exact And.left (And.right (And.right (And.right (by assumption)))) | exact And.left (And.right (And.right (And.right (And.right (by assumption))))) | refine Nat.lt_trans ?_ (by assumption))); done)) | (refine neN (Nat.ne_of_lt ?_); with_reducible ((repeat (first | assumption | exact And.left (by assumption) | exact And.left (And.right (by assumption)) | exact And.right (And.right (by assumption)) | exact And.right (by assumption) | exact And.left (And.right (And.right (by assumption))) | exact And.right (And.right (And.right (by assumption))) | exact And.left (And.right (And.right (And.right (by assumption)))) | exact And.left (And.right (And.right (And.right (And.right (by assumption))))) | refine Nat.lt_trans ?_ (by assumption))); done)) | omega), (by first | (refine neN (Nat.ne_of_gt ?_); with_reducible ((repeat (first | assumption | exact And.left (by assumption) | exact And.left (And.right (by assumption)) | exact And.right (And.right (by assumption)) | exact And.right (by assumption) | exact And.left (And.right (And.right (by assumption))) | exact And.right (And.right (And.right (by assumption))) | exact And.left (And.right (And.right (And.right (by assumption)))) | exact And.left (And.right (And.right (And.right (And.right (by assumption))))) | refine Nat.lt_trans ?_ (by assumption))); done)) | (refine neN (Nat.ne_of_lt ?_); with_reducible ((repeat (first | assumption | exact And.left (by assumption) | exact And.left (And.right (by assumption)) | exact And.right (And.right (by assumption)) | exact And.right (by assumption) | exact And.left (And.right (And.right (by assumption))) | exact And.right (And.right (And.right (by assumption))) | exact And.left (And.right (And.right (And.right (by assumption)))) | exact And.left (And.right (And.right (And.right (And.right (by assumption))))) | refine Nat.lt_trans ?_ (by assumption))); done)) | omega), (by first | (refine neN (Nat.ne_of_gt ?_); with_reducible ((repeat (first | assumption | exact And.left (by assumption) | exact And.left (And.right (by assumption)) | exact And.right (And.right (by assumption)) | exact And.right (by assumption) | exact And.left (And.right (And.right (by assumption))) | exact And.right (And.right (And.right (by assumption))) | exact And.left (And.right (And.right (And.right (by assumption)))) | exact And.left (And.right (And.right (And.right (And.right (by assumption))))) | refine Nat.lt_trans ?_ (by assumption))); done)) | (refine neN (Nat.ne_of_lt ?_); with_reducible ((repeat (first | assumption | exact And.left (by assumption) | exact And.left (And.right (by assumption)) | exact And.right (And.right (by assumption)) | exact And.right (by assumption) | exact And.left (And.right (And.right (by assumption))) | exact And.right (And.right (And.right (by assumption))) | exact And.left (And.right (And.right (And.right (by assumption)))) | exact And.left (And.right (And.right (And.right (And.right (by assumption))))) | refine Nat.lt_trans ?_ (by assumption))); done)) | omega), (by first | (refine neN (Nat.ne_of_gt ?_); with_reducible ((repeat (first | assumption | exact And.left (by assumption) | exact And.left (And.right (by assumption)) | exact And.right (And.right (by assumption)) | exact And.right (by assumption) | exact And.left (And.right (And.right (by assumption))) | exact And.right (And.right (And.right (by assumption))) | exact And.left (And.right (And.right (And.right (by assumption)))) | exact And.left (And.right (And.right (And.right (And.right (by assumption))))) | refine Nat.lt_trans ?_ (by assumption))); done)) | (refine neN (Nat.ne_of_lt ?_); with_reducible ((repeat (first | assumption | exact And.left (by assumption) | exact And.left (And.right (by assumption)) | exact And.right (And.right (by assumption)) | exact And.right (by assumption) | exact And.left (And.right (And.right (by assumption))) | exact And.right (And.right (And.right (by assumption))) | exact And.left (And.right (And.right (And.right (by assumption)))) | exact And.left (And.right (And.right (And.right (And.right (by assumption))))) | refine Nat.lt_trans ?_ (by assumption))); done)) | omega)⟩

theorem machine_c (w : World) (x : Str) (t : Tok) (hx : x.length < 100000) :
   Con w 10 100 178 [.str x t] [(173, tabObj #[])]
     (fun _ v sel' => ∃ a adr RO blk tab, Reader w a.rd x adr RO ∧ LexA.Ok a adr ∧ v = .ref a.x ∧ MachSt w a RO 1 "\n\t\r " [] 0 blk ∧ sel' = blk ++ [(173, tabObj tab)] ∧ 173 ∉ [a.x, a.dx, a.pb, a.st, a.std] ++ adr) := by
  unfold Con
  k_fill
  intro dp un gd outer base g tp tl mean mg mb s R B hg hsz hsel X T hd hu ret
  refine' enter_gc hg hsz hsel X T ?k6 ?k7 ?k8 ?k9 ?kB ?kD ?_ ?c2 ?c3 ?c4
  (case k6 => k_is); (case k7 => k_is); (case k8 => ktr_room); (case k9 => exact BindsTo.of_eq rfl); (case kB => exact rfl); (case kD => decide +kernel); (case c2 => exact rfl); (case c3 => exact rfl); (case c4 => exact rfl)
  k_whole
  intro L' h' tk' cells' F' N' Y' l1
  (try k_lt l1); k_cells Y'; (try simp only [List.cons_append, List.nil_append] at N')
  have codeHd := codeHd_of_K (c := 177) (P := 173) X (by kernel_rfl)
  (try dsimp only); (try k_fold)
  ((repeat' ((fail_if_success (with_reducible show wpAny _ _ (setAttr _ _ _) _ _ _)); (first | (k_unfold; (try dsimp only)) | ((with_reducible first | show wpAny _ _ (exec _ _) _ _ _ | show wpAny _ _ (execs _ _) _ _ _); k_fold) | (k_end; wrow_close) | walk1 | (dsimp only; walk1) | (leave1; (try dsimp only))))) <;> (repeat (k_unfold; (try dsimp only))))
  rename Fr _ _ _ _ => F1
  rename News _ _ _ _ => N1
  refine fn_setattr (pre := []) F1 N1 (fun _ h => nomatch h) (by k_all) ?_
  intro d9 h9 tk9 F9 N9 l9
  simp only [List.nil_append] at N9 l9
  k_lt l9
  clear F1 N1
  (try dsimp only); (try k_fold)
  ((repeat' (first | (k_unfold; (try dsimp only)) | ((with_reducible first | show wpAny _ _ (exec _ _) _ _ _ | show wpAny _ _ (execs _ _) _ _ _); k_fold) | (k_end; wrow_close) | walk1 | (dsimp only; walk1) | (leave1; (try dsimp only)))) <;> (repeat (k_unfold; (try dsimp only))))
  (try dsimp only)
  rename Fr _ _ _ _ => F3
  rename News _ _ _ _ => N3
  refine' (mach_end N3 ?m1 ?m2 ?m3 ?m4 ?m5 ?m6 ?m7 ?m8 ?m9 ?m10 ?m11 ?hdef ?hcd ?hvs ?hA ?hT hx ?o1 ?o2 ?o3 ?o4 ?o5 ?o6 ?o7 ?o8 ?o9 ?o10).elim (fun sel9 H9 => ret _ sel9 _ _ F3.keep H9.1 H9.2)
  (case m1 => k_mem); (case m2 => k_mem); (case m3 => k_mem); (case m4 => k_mem); (case m5 => k_mem); (case m6 => k_mem); (case m7 => k_mem); (case m8 => k_mem); (case m9 => k_mem); (case m10 => k_mem); (case m11 => k_mem)
  (case hcd => assumption)
  (case hvs => assumption)
  (case hA => assumption)
  (case hT => assumption)
  (case hdef => exact rfl)
  all_goals (refine ltN ?_; omega)

section
variable {prog : Program} {w : World} {A : Around} {s : Shared} {env : Env} {h₀ : Heap} {L : Addr}

/-- the end of a turn -/
noncomputable def TurnEnd (h₀ : Heap) (L : Addr) (J : (Str → Option Value) → List (Addr × Obj) → Prop) (own : List (Addr × Obj)) (wr : List Addr) (s s₂ : Shared) : Prop :=
  Left (∃ h' tk m' nx news', s₂ = { s with heap := h', toks := tk } ∧ Fr h₀ L h' m' ∧ News h₀ L h' news' ∧ (∀ p ∈ own, p ∈ news') ∧ (∀ p ∈ nx, p ∈ news') ∧ (∀ p ∈ nx, p.1 ∉ wr) ∧ J m' nx)

theorem for_W {R : Result → Shared → Prop} {x : Str} {px : Pos} {body : List Stmt} {I : Addr} {fp wr : List Addr} {n : Nat} {P : Nat → Value → Prop} {St : Nat → Heap → Prop} {m : Str → Option Value}
    {news : List (Addr × Obj)} (W : Walks prog w A I fp wr n P St) (hx : env.kindOf x = some .local) (hk : env.scope.kind = .function) (hL : env.locals = L)
    (hLf : L ∉ fp) (hwr : ∀ b ∈ wr, h₀.get? b = none) (hnw : ∀ p ∈ news, p.1 ∉ wr)
    (hst : St 0 s.heap) (F : Fr h₀ L s.heap m) (N : News h₀ L s.heap news)
    (J : Nat → (Str → Option Value) → List (Addr × Obj) → Prop) (h0 : J 0 m news)
    (turn : ∀ i v m₁ news₁ h tk own, i < n → P i v → J i m₁ news₁ → (∀ p ∈ news₁, p.1 ∉ wr) → (∀ p ∈ own, p.1 ∈ fp) → (∀ p ∈ own, h.get? p.1 = some p.2) → (∀ b ∈ fp, h₀.get? b = none → ∀ o, h.get? b = some o → (b, o) ∈ own) → St (i + 1) h → Fr h₀ L h (fun y => if y = x then some v else m₁ y) → News h₀ L h (news₁ ++ own) →
      wpAny (model prog w) A (execs body env) (fun f s₂ => match f with
        | .next | .cont => TurnEnd h₀ L (J (i + 1)) own wr s s₂
        | .brk => R (.ok .next) s₂
        | .ret v => R (.ok (.ret v)) s₂) (fun _ _ => False) { s with heap := h, toks := tk })
    (done : ∀ m' news' h' tk, J n m' news' → Fr h₀ L h' m' → News h₀ L h' news' → R (.ok .next) { s with heap := h', toks := tk }) :
    codeAny (model prog w) A (.forLoop (.Name x px) (.ref I) body [] env) R s := by
  subst hL
  refine codeAny_forLoop_frV W hx (by rw [hk]; rfl) hLf hwr hnw hst F N J h0 ?_ (fun h' tk m' news' F' N' _ hJ => done m' news' h' tk hJ F' N')
  rintro i v m₁ news₁ s₁ own ⟨h, tk, rfl⟩ hi hP hJ hn ho ho2 ho3 hS F₁ N₁
  refine wpAny_mono (turn i v m₁ news₁ h tk own hi hP hJ hn ho ho2 ho3 hS F₁ fun p hp => N₁ p (List.mem_append.mpr (List.mem_append.mp hp).symm)) (fun f s₂ z => ?_) (fun _ _ z => z.elim)
  have key : TurnEnd h₀ env.locals (J (i + 1)) own wr s s₂ → LoopStepU h₀ env.locals wr own (J (i + 1)) { s with heap := h, toks := tk } .next s₂ := by
    rintro ⟨h', tk', m', nx, news', rfl, F', N', k1, k2, k3, k4⟩
    exact ⟨rfl, h', tk', m', nx, rfl, F', fun p hp => N' p ((List.mem_append.mp hp).elim (k1 p) (k2 p)), k3, k4⟩
  cases f with
  | next => exact .next (key z)
  | cont => exact .cont (key z)
  | brk => exact .brk z
  | ret v => exact .ret z

theorem new_none {h : Heap} {m : Str → Option Value} (F : Fr h₀ L h m) : h₀.get? h.objs.size = none := by
  cases q : h₀.get? h.objs.size with
  | none => rfl
  | some o => exact absurd (Heap.lt_size (F.keep _ _ q)) (Nat.lt_irrefl _)

theorem pyIter_str {E : Value → Shared → Prop} {x : Str} {t : Tok} {Q : Value → Shared → Prop}
    (hQ : ∀ (o : Obj) (St : Nat → Heap → Prop), (∀ A' : Around, A'.handled = none → Walks prog w A' s.heap.objs.size [s.heap.objs.size] [s.heap.objs.size] x.cps.size (SignAt x) St) → (∀ i h, St i h → ∃ o, h.get? s.heap.objs.size = some o) → St 0 (s.heap.push o) →
      Q (.ref s.heap.objs.size) { s with heap := s.heap.push o }) : wpAny (model prog w) A (pyIter (.str x t)) Q E s := by
  cases ha : x.cps.all (· < 128)
  · exact wpAny_pyIter_wide ha (hQ _ _ (fun A' hA => Walks.strWide hA _ x t) (fun _ _ z => let ⟨o, e, _⟩ := z; ⟨o, e⟩) ⟨_, Heap.get?_push_size _ rfl, rfl, rfl⟩)
  · exact wpAny_pyIter_ascii ha (hQ _ _ (fun A' hA => Walks.strAscii hA _ x t) (fun _ _ z => let ⟨o, e, _⟩ := z; ⟨o, e⟩) ⟨_, Heap.get?_push_size _ rfl, rfl, rfl⟩)

/-- a for over a text's signs -/
theorem for_str {R : Result → Shared → Prop} {E : Value → Shared → Prop} {x y : Str} {t : Tok} {px : Pos} {body : List Stmt} {m : Str → Option Value} {news : List (Addr × Obj)} (hh : A.handled = none)
    (hx : env.kindOf y = some .local) (hk : env.scope.kind = .function) (hL : env.locals = L) (F : Fr h₀ L s.heap m) (N : News h₀ L s.heap news)
    (J : Nat → (Str → Option Value) → List (Addr × Obj) → Prop) (h0 : J 0 m news)
    (turn : ∀ i c u m₁ news₁ h tk I oI, x.cps[i]? = some c → J i m₁ news₁ → (∀ p ∈ news₁, p.1 ≠ I) → Fr h₀ L h (fun z => if z = y then some (.str ⟨#[c]⟩ u) else m₁ z) → News h₀ L h (news₁ ++ [(I, oI)]) →
      wpAny (model prog w) A (execs body env) (fun f s₂ => match f with
        | .next | .cont => Left (∃ h' tk m' nx, s₂ = { s with heap := h', toks := tk } ∧ Fr h₀ L h' m' ∧ News h₀ L h' (nx ++ [(I, oI)]) ∧ (∀ p ∈ nx, p.1 ≠ I) ∧ J (i + 1) m' nx)
        | .brk => R (.ok .next) s₂
        | .ret v => R (.ok (.ret v)) s₂) (fun _ _ => False) { s with heap := h, toks := tk })
    (done : ∀ m' news' h' tk, J x.cps.size m' news' → Fr h₀ L h' m' → News h₀ L h' news' → R (.ok .next) { s with heap := h', toks := tk }) :
    wpAny (model prog w) A (pyIter (.str x t)) (fun it s₂ => codeAny (model prog w) A (.forLoop (.Name y px) it body [] env) R s₂) E s := by
  refine pyIter_str fun o St W hSt hst => ?_
  have hLn : L < s.heap.objs.size := F.ns.lt
  have hn0 := new_none F
  refine for_W (s := { s with heap := s.heap.push o }) (W A hh) hx hk hL (by simpa using Nat.ne_of_lt hLn) (by simpa using hn0) (fun p hp => by simpa using Nat.ne_of_lt (Heap.lt_size (N p hp).1)) hst (F.push o)
    (fun p hp => ⟨Heap.get?_push_of_some _ (N p hp).1, (N p hp).2⟩) J h0 ?_ (fun m' news' h' tk hJ F' N' => done m' news' h' tk hJ F' N')
  intro i v m₁ news₁ h tk own hi hP hJ hnw ho ho2 ho3 hS F₁ N₁
  obtain ⟨c, u, hc, rfl⟩ := hP
  obtain ⟨oI, hoI⟩ := hSt _ _ hS
  have hIo : (s.heap.objs.size, oI) ∈ own := ho3 _ (.head _) hn0 _ hoI
  refine wpAny_mono (turn i c u m₁ news₁ h tk s.heap.objs.size oI hc hJ (fun p hp => by simpa using hnw p hp) F₁ ?_) (fun f s₂ z => ?_) (fun _ _ z => z)
  · intro p hp
    rcases List.mem_append.mp hp with hp | hp
    · exact N₁ p (List.mem_append_left _ hp)
    · rw [List.mem_singleton.mp hp]; exact N₁ _ (List.mem_append_right _ hIo)
  have key : (∃ h' tk m' nx, s₂ = { s with heap := h', toks := tk } ∧ Fr h₀ L h' m' ∧ News h₀ L h' (nx ++ [(s.heap.objs.size, oI)]) ∧ (∀ p ∈ nx, p.1 ≠ s.heap.objs.size) ∧ J (i + 1) m' nx) → TurnEnd h₀ L (J (i + 1)) own [s.heap.objs.size] { s with heap := s.heap.push o } s₂ := by
    rintro ⟨h', tk', m', nx, rfl, F', N', k1, k2⟩
    refine ⟨h', tk', m', nx, _, rfl, F', N', fun p hp => ?_, fun p hp => List.mem_append_left _ hp, fun p hp => by simpa using k1 p hp, k2⟩
    have e1 : p.1 = s.heap.objs.size := by simpa using ho p hp
    have e2 := ho2 p hp
    rw [e1, hoI] at e2
    refine List.mem_append_right _ (List.mem_singleton.mpr ?_)
    obtain ⟨p1, p2⟩ := p
    simp only at e1 e2
    rw [e1, Option.some.inj e2]
  cases f with
  | next => exact key z
  | cont => exact key z
  | brk => exact z
  | ret v => exact z
end
section
theorem news_ne {h₀ h : Heap} {L : Addr} {news : List (Addr × Obj)} {a b : Addr} {o1 o2 : Obj} (N : News h₀ L h news) (h1 : (a, o1) ∈ news) (h2 : (b, o2) ∈ news) (ho : o1.cls ≠ o2.cls) : a ≠ b := fun e => by
  have e1 := (N _ h1).1
  have e2 := (N _ h2).1
  simp only at e1 e2
  rw [e, e2] at e1
  exact ho (by rw [Option.some.inj e1])
local macro_rules | `(tactic| k_ne) => `(tactic| first | assumption | (refine Ne.symm ?_; assumption) | (refine neN ?_; (try dsimp only); omega) | (refine news_ne (by assumption) (by k_mem) (by k_mem) ?_; first | (intro e; exact absurd (Value.type.inj e) (by decide)) | (intro e; cases e; done)))

/-- the locals of Whitespace.__init__ -/
noncomputable def wm (x cl : Addr) (text : Str) (t ts tt : Tok) (b n nt : Int) (tb tn tnt : Tok) (chv : Option Value) : Str → Option Value :=
  fun y => if y = "ch" then chv else if y = "nt" then some (.int nt tnt) else if y = "n" then some (.int n tn) else if y = "b" then some (.int b tb) else if y = "count" then some (.ref cl)
    else if y = "T" then some (.str "\t" tt) else if y = "S" then some (.str " " ts) else if y = "ws" then some (.str text t) else if y = "self" then some (.ref x) else none

/-- what __init__ counts: the runs, the blanks at the end, the signs, the tabs -/
structure WsSt where
  count : List Int
  b : Nat
  n : Nat
  nt : Nat
noncomputable def grow (c : List Int) (b : Nat) : List Int := if b ≥ c.length then c ++ List.replicate (b - c.length + 1) 0 else c
noncomputable def wsStep (s : WsSt) (c : Nat) : WsSt :=
  if c = 32 then ⟨s.count, s.b + 1, s.n + 1, s.nt⟩ else ⟨(grow s.count s.b).set s.b ((grow s.count s.b).getD s.b 0 + 1), 0, s.n + 1, s.nt + 1⟩
noncomputable def wsOf (cs : List Nat) : WsSt := cs.foldl wsStep ⟨[], 0, 0, 0⟩

noncomputable def WJ (w : World) (x dx : Addr) (text : Str) (t : Tok) (i : Nat) (m : Str → Option Value) (news : List (Addr × Obj)) : Prop :=
  ∃ cl k tr ts tt tb tn tnt chv vs, (∀ p ∈ [(cl, listOf vs.toArray k), (x, instObj 167 dx), (dx, dictOf [⟨PyData.keyHash w.params "raw", .str "raw" tr, .str text t⟩] 1)], p ∈ news) ∧ IntsAre vs (wsOf (text.cps.toList.take i)).count ∧ (wsOf (text.cps.toList.take i)).b ≤ i ∧ (wsOf (text.cps.toList.take i)).count.length ≤ i ∧ cl ≠ x ∧ cl ≠ dx ∧
    (∀ y, m y = wm x cl text t ts tt (wsOf (text.cps.toList.take i)).b (wsOf (text.cps.toList.take i)).n (wsOf (text.cps.toList.take i)).nt tb tn tnt chv y)

theorem wm_ch {x cl : Addr} {text : Str} {t ts tt : Tok} {b n nt : Int} {tb tn tnt : Tok} {chv v : Option Value} {m : Str → Option Value} (hm : ∀ y, m y = wm x cl text t ts tt b n nt tb tn tnt chv y) (y : Str) :
    (if y = "ch" then v else m y) = wm x cl text t ts tt b n nt tb tn tnt v y := by
  rw [hm]
  unfold wm
  split <;> rfl

/-- a Whitespace of these counts at x -/
noncomputable def WsAt (w : World) (x : Addr) (S : WsSt) (blk : List (Addr × Obj)) : Prop :=
  ∃ dx nrm ct rv tr tn0 tn tt0 tnt to ti tb vs, IntsAre vs S.count ∧ blk = [(x, instObj 167 dx), (dx, dictOf [⟨PyData.keyHash w.params "raw", .str "raw" tr, rv⟩, ⟨PyData.keyHash w.params "n", .str "n" tn0, .int S.n tn⟩, ⟨PyData.keyHash w.params "nt", .str "nt" tt0, .int S.nt tnt⟩, ⟨PyData.keyHash w.params "norm", .str "norm" to, .ref nrm⟩,
    ⟨PyData.keyHash w.params "is_simple", .str "is_simple" ti, .bool (decide ((S.count.length : Int) ≤ 1))⟩] 5), (nrm, { cls := .type "tuple", data := .seq #[.ref ct, .int S.b tb] }), (ct, { cls := .type "tuple", data := .seq vs.toArray })]

theorem ws_end {w : World} {g h : Heap} {L : Addr} {news : List (Addr × Obj)} {S : WsSt} {x dx nrm ct : Addr} {rv : Value} {tr tn0 tn tt0 tnt to ti tb : Tok} {vs : List Value} (N : News g L h news) (hvs : IntsAre vs S.count) (m1 : (x, instObj 167 dx) ∈ news)
    (m2 : (dx, dictOf [⟨PyData.keyHash w.params "raw", .str "raw" tr, rv⟩, ⟨PyData.keyHash w.params "n", .str "n" tn0, .int S.n tn⟩, ⟨PyData.keyHash w.params "nt", .str "nt" tt0, .int S.nt tnt⟩, ⟨PyData.keyHash w.params "norm", .str "norm" to, .ref nrm⟩,
      ⟨PyData.keyHash w.params "is_simple", .str "is_simple" ti, .bool (decide ((S.count.length : Int) ≤ 1))⟩] 5) ∈ news) (m3 : (nrm, { cls := .type "tuple", data := .seq #[.ref ct, .int S.b tb] }) ∈ news) (m4 : (ct, { cls := .type "tuple", data := .seq vs.toArray }) ∈ news) :
    ∃ sel', (∀ p ∈ sel', h.get? p.1 = some p.2 ∧ g.get? p.1 = none) ∧ WsAt w x S sel' := by
  refine ⟨_, ?_, dx, nrm, ct, rv, tr, tn0, tn, tt0, tnt, to, ti, tb, vs, hvs, rfl⟩
  have hm : ∀ p ∈ _, p ∈ news := List.forall_mem_cons.mpr ⟨m1, List.forall_mem_cons.mpr ⟨m2, List.forall_mem_cons.mpr ⟨m3, List.forall_mem_cons.mpr ⟨m4, List.forall_mem_nil _⟩⟩⟩⟩
  exact fun p hp => ⟨(N p (hm p hp)).1, (N p (hm p hp)).2.2⟩

theorem ws_init (w : World) (x dx : Addr) (text : Str) (t : Tok) (hne : x ≠ dx) (hlen : text.length < 10000) (hws : ∀ c ∈ text.cps.toList, c = 32 ∨ c = 9) :
   Con w 10 100 122 [.ref x, .str text t] [(x, instObj 167 dx), (dx, dictOf [] 0)] (fun _ v sel' => v = .none ∧ WsAt w x (wsOf text.cps.toList) sel') := by
  unfold Con
  k_fill
  intro dp un gd outer base g tp tl mean mg mb s R B hg hsz hsel X T hd hu ret
  refine' enter_g B hg hsz hsel X T ?k6 ?k7 ?k8 ?k9 ?kB ?_ ?c2 ?c3 ?c4 ?c5
  (case k6 => k_is); (case k7 => k_is); (case k8 => ktr_room); (case k9 => exact BindsTo.of_eq rfl); (case c5 => decide); (case kB => exact locs rfl); (case c2 => exact rfl); (case c3 => exact rfl); (case c4 => exact rfl)
  k_whole
  intro L' h' tk' F' N' l1
  k_lt l1
  (try dsimp only); (try k_fold)
  ((repeat' ((fail_if_success (with_reducible show wpAny _ _ (exec (Stmt.For _ _ _ _ _) _) _ _ _)); (first | (k_unfold; (try dsimp only)) | ((with_reducible first | show wpAny _ _ (exec _ _) _ _ _ | show wpAny _ _ (execs _ _) _ _ _); k_fold) | (k_end; wrow_close) | walk1 | (dsimp only; walk1) | (leave1; (try dsimp only))))) <;> (repeat (k_unfold; (try dsimp only))))
  rename Fr _ _ _ _ => F4
  rename News _ _ _ _ => N4
  refine wpAny_For ?_
  ((repeat' ((fail_if_success (with_reducible show wpAny _ _ (pyIter _) _ _ _)); (first | (k_unfold; (try dsimp only)) | ((with_reducible first | show wpAny _ _ (exec _ _) _ _ _ | show wpAny _ _ (execs _ _) _ _ _); k_fold) | (k_end; wrow_close) | walk1 | (dsimp only; walk1) | (leave1; (try dsimp only))))) <;> (repeat (k_unfold; (try dsimp only))))
  refine' for_str (env := envOf _ _ L' 122 _) rfl rfl rfl rfl F4 N4 (WJ w x dx text t) ?h0 ?turn ?done
  case h0 =>
    refine' ⟨_, _, _, _, _, _, _, _, _, [], ?sub, .nil, Nat.zero_le _, Nat.zero_le _, ?n1, ?n2, ?meq⟩
    case sub => exact List.forall_mem_cons.mpr ⟨by k_mem, List.forall_mem_cons.mpr ⟨by k_mem, List.forall_mem_cons.mpr ⟨by k_mem, List.forall_mem_nil _⟩⟩⟩
    case meq => (intro y; unfold wm; (rcases Classical.em (y = "ch") with rfl | h0); exact rfl; (rcases Classical.em (y = "nt") with rfl | h1); exact rfl; (rcases Classical.em (y = "n") with rfl | h2); exact rfl; (rcases Classical.em (y = "b") with rfl | h3); exact rfl; (rcases Classical.em (y = "count") with rfl | h4); exact rfl; (rcases Classical.em (y = "T") with rfl | h5); exact rfl; (rcases Classical.em (y = "S") with rfl | h6); exact rfl; (rcases Classical.em (y = "ws") with rfl | h7); exact rfl; (rcases Classical.em (y = "self") with rfl | h8); exact rfl; (try simp only [if_neg h0, if_neg h1, if_neg h2, if_neg h3, if_neg h4, if_neg h5, if_neg h6, if_neg h7, if_neg h8]); (first | done | exact rfl | (show List.lookup y (_ :: _) = none; simp only [List.lookup, beq_eq_false_iff_ne.mpr h0, beq_eq_false_iff_ne.mpr h1, beq_eq_false_iff_ne.mpr h2, beq_eq_false_iff_ne.mpr h3, beq_eq_false_iff_ne.mpr h4, beq_eq_false_iff_ne.mpr h5, beq_eq_false_iff_ne.mpr h6, beq_eq_false_iff_ne.mpr h7, beq_eq_false_iff_ne.mpr h8]) | (simp only [List.lookup, beq_eq_false_iff_ne.mpr h0, beq_eq_false_iff_ne.mpr h1, beq_eq_false_iff_ne.mpr h2, beq_eq_false_iff_ne.mpr h3, beq_eq_false_iff_ne.mpr h4, beq_eq_false_iff_ne.mpr h5, beq_eq_false_iff_ne.mpr h6, beq_eq_false_iff_ne.mpr h7, beq_eq_false_iff_ne.mpr h8]; done)))
    case n1 => exact neN (by omega)
    case n2 => exact neN (by omega)
  case turn =>
    intro i c u m₁ news₁ h5 tk5 I oI hc hJ hI F5 N5
    obtain ⟨cl, k, tr, ts, tt, tb, tn, tnt, chv, vs, hsub, hvs, hb, hcl, n1, n2, hm⟩ := hJ
    obtain ⟨S, hS⟩ : ∃ S, S = wsOf (text.cps.toList.take i) := ⟨_, rfl⟩
    rw [← hS] at hvs hb hcl hm
    replace F5 := Fr.congr F5 (wm_ch hm)
    have hin : i < text.length := by
      rw [len_cps]
      exact (List.getElem?_eq_some_iff.mp (by simpa using hc)).1
    have hstep : wsOf (text.cps.toList.take (i + 1)) = wsStep S c := by
      rw [hS, wsOf, List.take_add_one, show text.cps.toList[i]? = some c from by simpa using hc]
      simp [wsOf]
    have hcc : c = 32 ∨ c = 9 := hws c (List.mem_of_getElem? (i := i) (by simpa using hc))
    have hl5 := hvs.length
    replace N5 : News g L' h5 [(cl, listOf vs.toArray k), (x, instObj 167 dx), (dx, dictOf [⟨PyData.keyHash w.params "raw", .str "raw" tr, .str text t⟩] 1), (I, oI)] := fun p hp => by
      rcases List.mem_append.mp (show p ∈ [(cl, listOf vs.toArray k), (x, instObj 167 dx), (dx, dictOf [⟨PyData.keyHash w.params "raw", .str "raw" tr, .str text t⟩] 1)] ++ [(I, oI)] from hp) with hp | hp
      · exact N5 p (List.mem_append_left _ (hsub p hp))
      · exact N5 p (List.mem_append_right _ hp)
    have i1 : cl ≠ I := hI (cl, _) (hsub _ (.head _))
    have i2 : x ≠ I := hI (x, _) (hsub _ (.tail _ (.head _)))
    have i3 : dx ≠ I := hI (dx, _) (hsub _ (.tail _ (.tail _ (.head _))))
    clear hm hsub F4 N4
    unfold wm at F5
    (try dsimp only); (try k_fold)
    rcases hcc with rfl | rfl
    · ((repeat' ((fail_if_success (with_reducible show Left _)); (first | (k_unfold; (try dsimp only)) | ((with_reducible first | show wpAny _ _ (exec _ _) _ _ _ | show wpAny _ _ (execs _ _) _ _ _); k_fold) | (k_end; wrow_close) | walk1 | (dsimp only; walk1) | (leave1; (try dsimp only))))) <;> (repeat (k_unfold; (try dsimp only))))
      (try dsimp only)
      unfold Left
      rename Fr _ _ _ _ => F9
      rename News _ _ _ _ => N9
      have e : wsStep S 32 = ⟨S.count, S.b + 1, S.n + 1, S.nt⟩ := rfl
      refine ⟨_, _, _, [(cl, listOf vs.toArray k), (x, instObj 167 dx), (dx, dictOf [⟨PyData.keyHash w.params "raw", .str "raw" tr, .str text t⟩] 1)], rfl, F9, N9, ?_, ?_⟩
      · exact List.forall_mem_cons.mpr ⟨i1, List.forall_mem_cons.mpr ⟨i2, List.forall_mem_cons.mpr ⟨i3, List.forall_mem_nil _⟩⟩⟩
      · unfold WJ
        rw [hstep, e]
        refine' ⟨cl, k, tr, ts, tt, _, _, _, _, vs, fun p hp => hp, hvs, Nat.succ_le_succ hb, Nat.le_succ_of_le hcl, n1, n2, ?meq⟩
        case meq => (intro y; unfold wm; (rcases Classical.em (y = "ch") with rfl | h0); exact rfl; (rcases Classical.em (y = "nt") with rfl | h1); exact rfl; (rcases Classical.em (y = "n") with rfl | h2); exact rfl; (rcases Classical.em (y = "b") with rfl | h3); exact rfl; (rcases Classical.em (y = "count") with rfl | h4); exact rfl; (rcases Classical.em (y = "T") with rfl | h5); exact rfl; (rcases Classical.em (y = "S") with rfl | h6); exact rfl; (rcases Classical.em (y = "ws") with rfl | h7); exact rfl; (rcases Classical.em (y = "self") with rfl | h8); exact rfl; (try simp only [if_neg h0, if_neg h1, if_neg h2, if_neg h3, if_neg h4, if_neg h5, if_neg h6, if_neg h7, if_neg h8]); (first | done | exact rfl | (show List.lookup y (_ :: _) = none; simp only [List.lookup, beq_eq_false_iff_ne.mpr h0, beq_eq_false_iff_ne.mpr h1, beq_eq_false_iff_ne.mpr h2, beq_eq_false_iff_ne.mpr h3, beq_eq_false_iff_ne.mpr h4, beq_eq_false_iff_ne.mpr h5, beq_eq_false_iff_ne.mpr h6, beq_eq_false_iff_ne.mpr h7, beq_eq_false_iff_ne.mpr h8]) | (simp only [List.lookup, beq_eq_false_iff_ne.mpr h0, beq_eq_false_iff_ne.mpr h1, beq_eq_false_iff_ne.mpr h2, beq_eq_false_iff_ne.mpr h3, beq_eq_false_iff_ne.mpr h4, beq_eq_false_iff_ne.mpr h5, beq_eq_false_iff_ne.mpr h6, beq_eq_false_iff_ne.mpr h7, beq_eq_false_iff_ne.mpr h8]; done)))
    · have hbn : S.b ≤ i := hb
      have e : wsStep S 9 = ⟨(grow S.count S.b).set S.b ((grow S.count S.b).getD S.b 0 + 1), 0, S.n + 1, S.nt + 1⟩ := rfl
      ((repeat' ((fail_if_success (with_reducible show Left _)); (first | (k_unfold; (try dsimp only)) | ((with_reducible first | show wpAny _ _ (exec _ _) _ _ _ | show wpAny _ _ (execs _ _) _ _ _); k_fold) | (k_end; wrow_close) | walk1 | (dsimp only; walk1) | (leave1; (try dsimp only))))) <;> (repeat (k_unfold; (try dsimp only))))
      · (try dsimp only)
        unfold Left
        rename Fr _ _ _ _ => F9
        rename News _ _ _ _ => N9
        rename ((S.count.length : Int) ≤ (S.b : Int)) => hle
        have hg : grow S.count S.b = S.count ++ (List.replicate ((S.b : Int) - (S.count.length : Int) + 1).toNat [(0 : Int)]).flatten := by
          unfold grow
          rw [if_pos (Int.ofNat_le.mp hle), show ((S.b : Int) - (S.count.length : Int) + 1).toNat = S.b - S.count.length + 1 from toNat_sub1 (Int.ofNat_le.mp hle)]
          congr 1
          generalize S.b - S.count.length + 1 = q
          induction q with
          | zero => rfl
          | succ q ih => rw [List.replicate_succ, List.replicate_succ, List.flatten_cons, ← ih]; rfl
        refine' ⟨_, _, _, [(?D, listOf (List.toArray ?vs) ?k), (x, instObj 167 dx), (dx, dictOf [⟨PyData.keyHash w.params "raw", .str "raw" tr, .str text t⟩] 1)], rfl, F9, cb_drop N9 ?hs, ?hI, ?hJ⟩
        case hs => exact List.forall_mem_cons.mpr ⟨by k_mem, List.forall_mem_cons.mpr ⟨by k_mem, List.forall_mem_cons.mpr ⟨by k_mem, List.forall_mem_cons.mpr ⟨by k_mem, List.forall_mem_nil _⟩⟩⟩⟩
        case hI => exact List.forall_mem_cons.mpr ⟨neN (by omega), List.forall_mem_cons.mpr ⟨i2, List.forall_mem_cons.mpr ⟨i3, List.forall_mem_nil _⟩⟩⟩
        case hJ =>
          unfold WJ
          rw [hstep, e, hg]
          refine' ⟨_, _, tr, ts, tt, _, _, _, _, _, fun p hp => hp, by assumption, Nat.zero_le _, ?len, neN (by omega), neN (by omega), ?meq⟩
          case len => simp only [List.length_set]; rw [← hg]; unfold grow; rw [if_pos (by omega)]; simp only [List.length_append, List.length_replicate]; omega
          case meq => (intro y; unfold wm; (rcases Classical.em (y = "ch") with rfl | h0); exact rfl; (rcases Classical.em (y = "nt") with rfl | h1); exact rfl; (rcases Classical.em (y = "n") with rfl | h2); exact rfl; (rcases Classical.em (y = "b") with rfl | h3); exact rfl; (rcases Classical.em (y = "count") with rfl | h4); exact rfl; (rcases Classical.em (y = "T") with rfl | h5); exact rfl; (rcases Classical.em (y = "S") with rfl | h6); exact rfl; (rcases Classical.em (y = "ws") with rfl | h7); exact rfl; (rcases Classical.em (y = "self") with rfl | h8); exact rfl; (try simp only [if_neg h0, if_neg h1, if_neg h2, if_neg h3, if_neg h4, if_neg h5, if_neg h6, if_neg h7, if_neg h8]); (first | done | exact rfl | (show List.lookup y (_ :: _) = none; simp only [List.lookup, beq_eq_false_iff_ne.mpr h0, beq_eq_false_iff_ne.mpr h1, beq_eq_false_iff_ne.mpr h2, beq_eq_false_iff_ne.mpr h3, beq_eq_false_iff_ne.mpr h4, beq_eq_false_iff_ne.mpr h5, beq_eq_false_iff_ne.mpr h6, beq_eq_false_iff_ne.mpr h7, beq_eq_false_iff_ne.mpr h8]) | (simp only [List.lookup, beq_eq_false_iff_ne.mpr h0, beq_eq_false_iff_ne.mpr h1, beq_eq_false_iff_ne.mpr h2, beq_eq_false_iff_ne.mpr h3, beq_eq_false_iff_ne.mpr h4, beq_eq_false_iff_ne.mpr h5, beq_eq_false_iff_ne.mpr h6, beq_eq_false_iff_ne.mpr h7, beq_eq_false_iff_ne.mpr h8]; done)))
      · (try dsimp only)
        unfold Left
        rename Fr _ _ _ _ => F9
        rename News _ _ _ _ => N9
        rename (¬ (S.count.length : Int) ≤ (S.b : Int)) => hle
        have hg : grow S.count S.b = S.count := by
          unfold grow
          rw [if_neg (by omega)]
        refine' ⟨_, _, _, [(cl, listOf (List.toArray ?vs2) ?k2), (x, instObj 167 dx), (dx, dictOf [⟨PyData.keyHash w.params "raw", .str "raw" tr, .str text t⟩] 1)], rfl, F9, cb_drop N9 ?hs, ?hI, ?hJ⟩
        case hs => exact List.forall_mem_cons.mpr ⟨by k_mem, List.forall_mem_cons.mpr ⟨by k_mem, List.forall_mem_cons.mpr ⟨by k_mem, List.forall_mem_cons.mpr ⟨by k_mem, List.forall_mem_nil _⟩⟩⟩⟩
        case hI => exact List.forall_mem_cons.mpr ⟨i1, List.forall_mem_cons.mpr ⟨i2, List.forall_mem_cons.mpr ⟨i3, List.forall_mem_nil _⟩⟩⟩
        case hJ =>
          unfold WJ
          rw [hstep, e, hg]
          refine' ⟨cl, _, tr, ts, tt, _, _, _, _, _, fun p hp => hp, by assumption, Nat.zero_le _, ?len, n1, n2, ?meq⟩
          case len => simp only [List.length_set]; omega
          case meq => (intro y; unfold wm; (rcases Classical.em (y = "ch") with rfl | h0); exact rfl; (rcases Classical.em (y = "nt") with rfl | h1); exact rfl; (rcases Classical.em (y = "n") with rfl | h2); exact rfl; (rcases Classical.em (y = "b") with rfl | h3); exact rfl; (rcases Classical.em (y = "count") with rfl | h4); exact rfl; (rcases Classical.em (y = "T") with rfl | h5); exact rfl; (rcases Classical.em (y = "S") with rfl | h6); exact rfl; (rcases Classical.em (y = "ws") with rfl | h7); exact rfl; (rcases Classical.em (y = "self") with rfl | h8); exact rfl; (try simp only [if_neg h0, if_neg h1, if_neg h2, if_neg h3, if_neg h4, if_neg h5, if_neg h6, if_neg h7, if_neg h8]); (first | done | exact rfl | (show List.lookup y (_ :: _) = none; simp only [List.lookup, beq_eq_false_iff_ne.mpr h0, beq_eq_false_iff_ne.mpr h1, beq_eq_false_iff_ne.mpr h2, beq_eq_false_iff_ne.mpr h3, beq_eq_false_iff_ne.mpr h4, beq_eq_false_iff_ne.mpr h5, beq_eq_false_iff_ne.mpr h6, beq_eq_false_iff_ne.mpr h7, beq_eq_false_iff_ne.mpr h8]) | (simp only [List.lookup, beq_eq_false_iff_ne.mpr h0, beq_eq_false_iff_ne.mpr h1, beq_eq_false_iff_ne.mpr h2, beq_eq_false_iff_ne.mpr h3, beq_eq_false_iff_ne.mpr h4, beq_eq_false_iff_ne.mpr h5, beq_eq_false_iff_ne.mpr h6, beq_eq_false_iff_ne.mpr h7, beq_eq_false_iff_ne.mpr h8]; done)))
  case done =>
    intro m₁ news₁ h5 tk5 hJ F5 N5
    obtain ⟨cl, k, tr, ts, tt, tb, tn, tnt, chv, vs, hsub, hvs, hb, hcl, n1, n2, hm⟩ := hJ
    obtain ⟨S, hS⟩ : ∃ S, S = wsOf (text.cps.toList.take text.cps.size) := ⟨_, rfl⟩
    rw [← hS] at hvs hb hcl hm
    replace F5 := Fr.congr F5 hm
    have hl5 := hvs.length
    have hszt : text.cps.size < 10000 := hlen
    replace N5 := cb_drop N5 hsub
    clear hm hsub F4 N4
    unfold wm at F5
    (try dsimp only)
    ((repeat' (first | (k_unfold; (try dsimp only)) | ((with_reducible first | show wpAny _ _ (exec _ _) _ _ _ | show wpAny _ _ (execs _ _) _ _ _); k_fold) | (k_end; wrow_close) | walk1 | (dsimp only; walk1) | (leave1; (try dsimp only)))) <;> (repeat (k_unfold; (try dsimp only))))
    (try dsimp only)
    rename Fr _ _ _ _ => F9
    rename News _ _ _ _ => N9
    have hS2 : wsOf text.cps.toList = S := by rw [hS, List.take_of_length_le (by simp)]
    refine' (ws_end N9 hvs ?m1 ?m2 ?m3 ?m4).elim (fun sel9 H9 => ret _ sel9 _ _ F9.keep H9.1 ⟨rfl, hS2 ▸ H9.2⟩)
    (case m1 => k_mem); (case m2 => k_mem); (case m3 => k_mem); (case m4 => k_mem)
end
theorem make_g {prog : Program} {w : World} {A : Around} {K : Frag} {C : Addr} {s : Shared} {R : Result → Shared → Prop} {rest : List Value} {fI : Addr} (X : K.In s.heap) (hm : makesIn K C = true)
    (hi : findIn K (.ref C) "__init__" = some (some (.ref fI))) (hf : typeIn K (.ref fI) = some (.type "function"))
    (h : codeAny (model prog w) (A.under (.builtin "type.__call__" ⟨.ref C :: rest, []⟩)) (.call (.ref fI) ⟨.ref (s.heap.objs.size + 1) :: rest, []⟩) (InitBack (s.heap.objs.size + 1) R) { s with heap := (s.heap.push emptyDict).push (instObj C s.heap.objs.size) }) :
    codeAny (model prog w) A (.call (.ref C) ⟨rest, []⟩) R s := by
  obtain ⟨hh, g, d, t, os⟩ := s
  exact make_core (makes_of X hm) (looks_findIn X hi) (fun self => bind_fn X self hf) (.inl rfl) h

theorem ws_new (w : World) (text : Str) (t : Tok) (hlen : text.length < 10000) (hws : ∀ c ∈ text.cps.toList, c = 32 ∨ c = 9) :
    Con w 12 120 167 [.str text t] [] (fun _ v blk => ∃ x, v = .ref x ∧ WsAt w x (wsOf text.cps.toList) blk) := by
  unfold Con
  k_fill
  intro dp un gd outer base g tp tl mean mg mb s R B hg hsz hsel X T hd hu ret
  refine make_g (fI := 122) (X.keeps hg) (by k_is) (by k_is) (by k_is) ?_
  have C := ws_init w (s.heap.objs.size + 1) s.heap.objs.size text t (Nat.ne_of_gt (Nat.lt_succ_self _)) hlen hws
  refine' C _ _ gd outer base g tp tl mean mg mb _ _ ?hB ?hg ?hsz ?hsel X T ?hd ?hu ?ret
  case hB => exact ⟨rfl, B.stays, B.frames⟩
  case hg => exact fun b o e => Heap.get?_push_of_some _ (Heap.get?_push_of_some _ (hg b o e))
  case hsz => exact Nat.le_trans hsz (by rw [Heap.size_push, Heap.size_push]; omega)
  case hsel =>
    have hno : ∀ b, g.objs.size ≤ b → g.get? b = none := fun b hb => by
      cases q : g.get? b with
      | none => rfl
      | some o => exact absurd (Heap.lt_size q) (Nat.not_lt.mpr hb)
    refine List.forall_mem_cons.mpr ⟨⟨?_, hno _ (Nat.le_succ_of_le hsz)⟩, List.forall_mem_cons.mpr ⟨⟨?_, hno _ hsz⟩, List.forall_mem_nil _⟩⟩
    · have := Heap.get?_push_size (s.heap.push emptyDict) (o := instObj 167 s.heap.objs.size) rfl
      rwa [Heap.size_push] at this
    · exact Heap.get?_push_of_some _ (Heap.get?_push_size _ rfl)
  case hd => show dp + 1 + 10 < _; omega
  case hu => show un + 1 + 100 < _; omega
  case ret =>
    rintro v sel' h' tk' k1 k2 ⟨rfl, hW⟩
    exact ⟨rfl, ret _ sel' h' tk' k1 k2 ⟨_, rfl, hW⟩⟩
theorem News.sub_app {h₀ h : Heap} {L : Addr} {l news₁ own : List (Addr × Obj)} (N : News h₀ L h (news₁ ++ own)) (hsub : ∀ p ∈ l, p ∈ news₁) : News h₀ L h (l ++ own) := fun p hp => by
  rcases List.mem_append.mp hp with hp | hp
  · exact N p (List.mem_append_left _ (hsub p hp))
  · exact N p (List.mem_append_right _ hp)
theorem News.swap {h₀ h : Heap} {L : Addr} {a b : List (Addr × Obj)} (N : News h₀ L h (a ++ b)) : News h₀ L h (b ++ a) := fun p hp => N p (List.mem_append.mpr (List.mem_append.mp hp).symm)
section
variable {prog : Program} {w : World} {A : Around} {s : Shared} {env : Env} {h₀ : Heap} {L : Addr}
/-- a for over an iterator that touches itself alone; its cell stands at the ledger's end -/
theorem for_one {R : Result → Shared → Prop} {y : Str} {px : Pos} {body : List Stmt} {m : Str → Option Value} {news : List (Addr × Obj)} {I : Addr} {n : Nat} {P : Nat → Value → Prop} {St : Nat → Heap → Prop}
    (W : Walks prog w A I [I] [I] n P St) (hSt : ∀ i h, St i h → ∃ o, h.get? I = some o) (hIn : h₀.get? I = none) (hLI : L ≠ I) (hnI : ∀ p ∈ news, p.1 ≠ I)
    (hx : env.kindOf y = some .local) (hk : env.scope.kind = .function) (hL : env.locals = L) (hst : St 0 s.heap) (F : Fr h₀ L s.heap m) (N : News h₀ L s.heap news)
    (J : Nat → (Str → Option Value) → List (Addr × Obj) → Prop) (h0 : J 0 m news)
    (turn : ∀ i v m₁ news₁ h tk oI, i < n → P i v → J i m₁ news₁ → (∀ p ∈ news₁, p.1 ≠ I) → Fr h₀ L h (fun z => if z = y then some v else m₁ z) → News h₀ L h (news₁ ++ [(I, oI)]) →
      wpAny (model prog w) A (execs body env) (fun f s₂ => match f with
        | .next | .cont => Left (∃ h' tk m' nx, s₂ = { s with heap := h', toks := tk } ∧ Fr h₀ L h' m' ∧ News h₀ L h' (nx ++ [(I, oI)]) ∧ (∀ p ∈ nx, p.1 ≠ I) ∧ J (i + 1) m' nx)
        | .brk => R (.ok .next) s₂
        | .ret v => R (.ok (.ret v)) s₂) (fun _ _ => False) { s with heap := h, toks := tk })
    (done : ∀ m' news' h' tk, J n m' news' → Fr h₀ L h' m' → News h₀ L h' news' → R (.ok .next) { s with heap := h', toks := tk }) :
    codeAny (model prog w) A (.forLoop (.Name y px) (.ref I) body [] env) R s := by
  refine for_W W hx hk hL (by simpa using hLI) (by simpa using hIn) (fun p hp => by simpa using hnI p hp) hst F N J h0 ?_ done
  intro i v m₁ news₁ h tk own hi hP hJ hnw ho ho2 ho3 hS F₁ N₁
  obtain ⟨oI, hoI⟩ := hSt _ _ hS
  have hIo : (I, oI) ∈ own := ho3 _ (.head _) hIn _ hoI
  refine wpAny_mono (turn i v m₁ news₁ h tk oI hi hP hJ (fun p hp => by simpa using hnw p hp) F₁ ?_) (fun f s₂ z => ?_) (fun _ _ z => z)
  · intro p hp
    rcases List.mem_append.mp hp with hp | hp
    · exact N₁ p (List.mem_append_left _ hp)
    · rw [List.mem_singleton.mp hp]; exact N₁ _ (List.mem_append_right _ hIo)
  have key : (∃ h' tk m' nx, s₂ = { s with heap := h', toks := tk } ∧ Fr h₀ L h' m' ∧ News h₀ L h' (nx ++ [(I, oI)]) ∧ (∀ p ∈ nx, p.1 ≠ I) ∧ J (i + 1) m' nx) → TurnEnd h₀ L (J (i + 1)) own [I] s s₂ := by
    rintro ⟨h', tk', m', nx, rfl, F', N', k1, k2⟩
    refine ⟨h', tk', m', nx, _, rfl, F', N', fun p hp => ?_, fun p hp => List.mem_append_left _ hp, fun p hp => by simpa using k1 p hp, k2⟩
    have e1 : p.1 = I := by simpa using ho p hp
    have e2 := ho2 p hp
    rw [e1, hoI] at e2
    refine List.mem_append_right _ (List.mem_singleton.mpr ?_)
    obtain ⟨p1, p2⟩ := p
    simp only at e1 e2
    rw [e1, Option.some.inj e2]
  cases f with
  | next => exact key z
  | cont => exact key z
  | brk => exact z
  | ret v => exact z

/-- a for over range(a, b) -/
theorem for_range {R : Result → Shared → Prop} {E : Value → Shared → Prop} {r : Addr} {a b : Int} {t₀ u₀ v₀ : Tok} {n : Nat} {y : Str} {px : Pos} {body : List Stmt} {m : Str → Option Value} {news : List (Addr × Obj)} (hh : A.handled = none)
    (hr : IsRange s.heap r a b 1 t₀ u₀ v₀) (hsmall : Builtin.Range.small a b 1 = true) (hn : Builtin.Range.rangeSize a b 1 = (n : Int))
    (hx : env.kindOf y = some .local) (hk : env.scope.kind = .function) (hL : env.locals = L) (F : Fr h₀ L s.heap m) (N : News h₀ L s.heap news)
    (J : Nat → (Str → Option Value) → List (Addr × Obj) → Prop) (h0 : J 0 m news)
    (turn : ∀ i t m₁ news₁ h tk I oI, i < n → J i m₁ news₁ → (∀ p ∈ news₁, p.1 ≠ I) → Fr h₀ L h (fun z => if z = y then some (.int (a + i) t) else m₁ z) → News h₀ L h (news₁ ++ [(I, oI)]) →
      wpAny (model prog w) A (execs body env) (fun f s₂ => match f with
        | .next | .cont => Left (∃ h' tk m' nx, s₂ = { s with heap := h', toks := tk } ∧ Fr h₀ L h' m' ∧ News h₀ L h' (nx ++ [(I, oI)]) ∧ (∀ p ∈ nx, p.1 ≠ I) ∧ J (i + 1) m' nx)
        | .brk => R (.ok .next) s₂
        | .ret v => R (.ok (.ret v)) s₂) (fun _ _ => False) { s with heap := h, toks := tk })
    (done : ∀ m' news' h' tk, J n m' news' → Fr h₀ L h' m' → News h₀ L h' news' → R (.ok .next) { s with heap := h', toks := tk }) :
    wpAny (model prog w) A (pyIter (.ref r)) (fun it s₂ => codeAny (model prog w) A (.forLoop (.Name y px) it body [] env) R s₂) E s := by
  refine wpAny_pyIter_range hr hsmall ?_
  rw [hn]
  have hLn : L < s.heap.objs.size := F.ns.lt
  refine for_one (s := { s with heap := s.heap.push _ }) (Walks.range hh s.heap.objs.size a 1 n) (fun i h z => ⟨_, z⟩) (new_none F) (Nat.ne_of_lt hLn) (fun p hp => Nat.ne_of_lt (Heap.lt_size (N p hp).1)) hx hk hL ?_ (F.push _)
    (fun p hp => ⟨Heap.get?_push_of_some _ (N p hp).1, (N p hp).2⟩) J h0 ?_ done
  · show Heap.get? _ _ = some _
    rw [Heap.get?_push_size _ rfl]
    simp [rawInt]
  · rintro i v m₁ news₁ h tk oI hi ⟨t, rfl⟩ hJ hI F₁ N₁
    rw [Int.mul_one] at F₁
    exact turn i t m₁ news₁ h tk _ oI hi hJ hI F₁ N₁
end
/-- the locals of indent_level -/
noncomputable def im (x ct : Addr) (ts b il : Int) (t tb til : Tok) (iv : Option Value) : Str → Option Value :=
  fun y => if y = "i" then iv else if y = "il" then some (.int il til) else if y = "trailing" then some (.int b tb) else if y = "count" then some (.ref ct) else if y = "tabsize" then some (.int ts t) else if y = "self" then some (.ref x) else none
theorem im_i {x ct : Addr} {ts b il : Int} {t tb til : Tok} {iv v : Option Value} {m : Str → Option Value} (hm : ∀ y, m y = im x ct ts b il t tb til iv y) (y : Str) : (if y = "i" then v else m y) = im x ct ts b il t tb til v y := by
  rw [hm]
  unfold im
  split <;> rfl
noncomputable def ilTo (count : List Int) (ts : Int) : Nat → Int
  | 0 => 0
  | k + 1 => ilTo count ts k + Int.fdiv (ts + k) ts * count.getD (ts + k).toNat 0

theorem indent_c (w : World) (x : Addr) (S : WsSt) (blk : List (Addr × Obj)) (W : WsAt w x S blk) (ts : Int) (t : Tok) (h1 : 1 ≤ ts) (h2 : ts < 100000) (hlen : S.count.length < 10000) :
    Con w 10 100 136 [.ref x, .int ts t] blk (fun _ v blk' => (∃ t, v = .int (S.b + ts * (ilTo S.count ts (S.count.length - ts.toNat) + S.nt)) t) ∧ blk' = blk) := by
  obtain ⟨dx, nrm, ct, rv, tr, tn0, tn, tt0, tnt, to, ti, tb, vs, hvs, rfl⟩ := W
  have hl5 := hvs.length
  unfold Con
  k_fill
  intro dp un gd outer base g tp tl mean mg mb s R B hg hsz hsel X T hd hu ret
  refine' enter_g B hg hsz hsel X T ?k6 ?k7 ?k8 ?k9 ?kB ?_ ?c2 ?c3 ?c4 ?c5
  (case k6 => k_is); (case k7 => k_is); (case k8 => ktr_room); (case k9 => exact BindsTo.of_eq rfl); (case c5 => decide); (case kB => exact locs rfl); (case c2 => exact rfl); (case c3 => exact rfl); (case c4 => exact rfl)
  k_whole
  intro L' h' tk' F' N' l1
  (try dsimp only); (try k_fold)
  ((repeat' ((fail_if_success (with_reducible show wpAny _ _ (exec (Stmt.For _ _ _ _ _) _) _ _ _)); (first | (k_unfold; (try dsimp only)) | ((with_reducible first | show wpAny _ _ (exec _ _) _ _ _ | show wpAny _ _ (execs _ _) _ _ _); k_fold) | (k_end; wrow_close) | walk1 | (dsimp only; walk1) | (leave1; (try dsimp only))))) <;> (repeat (k_unfold; (try dsimp only))))
  rename Fr _ _ _ _ => F4
  rename News _ _ _ _ => N4
  refine wpAny_For ?_
  ((repeat' ((fail_if_success (with_reducible show wpAny _ _ (pyIter _) _ _ _)); (first | ((with_reducible show wpAny _ _ (call (Value.builtin "len") [Value.ref ct]) _ _ _); refine len_tuple (items := vs.toArray) ⟨_, (N4 (ct, _) (by k_mem)).1, rfl, 0, rfl⟩ (by simp only [List.size_toArray]; omega) ?_) | (k_unfold; (try dsimp only)) | ((with_reducible first | show wpAny _ _ (exec _ _) _ _ _ | show wpAny _ _ (execs _ _) _ _ _); k_fold) | (k_end; wrow_close) | walk1 | (dsimp only; walk1) | (leave1; (try dsimp only))))) <;> (repeat (k_unfold; (try dsimp only))))
  rename Fr _ _ _ _ => F5
  rename News _ _ _ _ => N5
  rename IsRange _ _ _ _ _ _ _ _ => R5
  refine' for_range (env := envOf _ _ L' 136 _) (n := S.count.length - ts.toNat) rfl R5 ?hsm ?hn rfl rfl rfl F5 N5
    (fun i m news => ∃ til iv, (∀ p ∈ [(x, instObj 167 dx), (dx, dictOf [⟨PyData.keyHash w.params "raw", .str "raw" tr, rv⟩, ⟨PyData.keyHash w.params "n", .str "n" tn0, .int S.n tn⟩, ⟨PyData.keyHash w.params "nt", .str "nt" tt0, .int S.nt tnt⟩, ⟨PyData.keyHash w.params "norm", .str "norm" to, .ref nrm⟩,
    ⟨PyData.keyHash w.params "is_simple", .str "is_simple" ti, .bool (decide ((S.count.length : Int) ≤ 1))⟩] 5), (nrm, { cls := .type "tuple", data := .seq #[.ref ct, .int S.b tb] }), (ct, { cls := .type "tuple", data := .seq vs.toArray })], p ∈ news) ∧ ∀ y, m y = im x ct ts S.b (ilTo S.count ts i) t tb til iv y) ?h0 ?turn ?done
  case hsm => exact small_one (by omega) (by omega) (by omega) (by omega)
  case hn => rw [rangeSize_nat]; exact congrArg _ (toNat_sub' (Int.le_trans (by decide) h1))
  case h0 =>
    refine' ⟨_, _, ?sub, ?meq⟩
    case sub => exact List.forall_mem_cons.mpr ⟨by k_mem, List.forall_mem_cons.mpr ⟨by k_mem, List.forall_mem_cons.mpr ⟨by k_mem, List.forall_mem_cons.mpr ⟨by k_mem, List.forall_mem_nil _⟩⟩⟩⟩
    case meq => (intro y; unfold im; (rcases Classical.em (y = "i") with rfl | h0); exact rfl; (rcases Classical.em (y = "il") with rfl | h1); exact rfl; (rcases Classical.em (y = "trailing") with rfl | h2); exact rfl; (rcases Classical.em (y = "count") with rfl | h3); exact rfl; (rcases Classical.em (y = "tabsize") with rfl | h4); exact rfl; (rcases Classical.em (y = "self") with rfl | h5); exact rfl; (try simp only [if_neg h0, if_neg h1, if_neg h2, if_neg h3, if_neg h4, if_neg h5]); (first | done | exact rfl | (show List.lookup y (_ :: _) = none; simp only [List.lookup, beq_eq_false_iff_ne.mpr h0, beq_eq_false_iff_ne.mpr h1, beq_eq_false_iff_ne.mpr h2, beq_eq_false_iff_ne.mpr h3, beq_eq_false_iff_ne.mpr h4, beq_eq_false_iff_ne.mpr h5]) | (simp only [List.lookup, beq_eq_false_iff_ne.mpr h0, beq_eq_false_iff_ne.mpr h1, beq_eq_false_iff_ne.mpr h2, beq_eq_false_iff_ne.mpr h3, beq_eq_false_iff_ne.mpr h4, beq_eq_false_iff_ne.mpr h5]; done)))
  case turn =>
    intro i t2 m₁ news₁ h6 tk6 I oI hi hJ hI F6 N6
    obtain ⟨til, iv, hsub, hm⟩ := hJ
    replace F6 := Fr.congr F6 (im_i hm)
    have N7 := News.sub_app N6 hsub
    simp only [List.cons_append, List.nil_append] at N7
    try clear F5 N5 N6
    unfold im at F6
    (try dsimp only); (try k_fold)
    have hf1 : 0 ≤ Int.fdiv (ts + (i : Int)) ts := by rw [Int.fdiv_eq_ediv_of_nonneg _ (by omega)]; exact Int.ediv_nonneg (by omega) (by omega)
    have hf2 : Int.fdiv (ts + (i : Int)) ts < 200000 := by
      rw [Int.fdiv_eq_ediv_of_nonneg _ (by omega)]
      have := Int.ediv_le_self (ts) (a := ts + (i : Int)) (by omega)
      omega
    ((repeat' ((fail_if_success (with_reducible show Left _)); (first | (k_unfold; (try dsimp only)) | ((with_reducible first | show wpAny _ _ (exec _ _) _ _ _ | show wpAny _ _ (execs _ _) _ _ _); k_fold) | (k_end; wrow_close) | walk1 | (dsimp only; walk1) | (leave1; (try dsimp only))))) <;> (repeat (k_unfold; (try dsimp only))))
    (try dsimp only)
    unfold Left
    rename Fr _ _ _ _ => F9
    rename News _ _ _ _ => N9
    refine ⟨_, _, _, [(x, instObj 167 dx), (dx, dictOf [⟨PyData.keyHash w.params "raw", .str "raw" tr, rv⟩, ⟨PyData.keyHash w.params "n", .str "n" tn0, .int S.n tn⟩, ⟨PyData.keyHash w.params "nt", .str "nt" tt0, .int S.nt tnt⟩, ⟨PyData.keyHash w.params "norm", .str "norm" to, .ref nrm⟩,
    ⟨PyData.keyHash w.params "is_simple", .str "is_simple" ti, .bool (decide ((S.count.length : Int) ≤ 1))⟩] 5), (nrm, { cls := .type "tuple", data := .seq #[.ref ct, .int S.b tb] }), (ct, { cls := .type "tuple", data := .seq vs.toArray })], rfl, F9, N9, ?_, ?_⟩
    · exact List.forall_mem_cons.mpr ⟨hI _ (hsub _ (.head _)), List.forall_mem_cons.mpr ⟨hI _ (hsub _ (.tail _ (.head _))), List.forall_mem_cons.mpr ⟨hI _ (hsub _ (.tail _ (.tail _ (.head _)))), List.forall_mem_cons.mpr ⟨hI _ (hsub _ (.tail _ (.tail _ (.tail _ (.head _))))), List.forall_mem_nil _⟩⟩⟩⟩
    · refine' ⟨_, _, fun p hp => hp, ?meq⟩
      case meq => (intro y; unfold im; (rcases Classical.em (y = "i") with rfl | h0); exact rfl; (rcases Classical.em (y = "il") with rfl | h1); exact rfl; (rcases Classical.em (y = "trailing") with rfl | h2); exact rfl; (rcases Classical.em (y = "count") with rfl | h3); exact rfl; (rcases Classical.em (y = "tabsize") with rfl | h4); exact rfl; (rcases Classical.em (y = "self") with rfl | h5); exact rfl; (try simp only [if_neg h0, if_neg h1, if_neg h2, if_neg h3, if_neg h4, if_neg h5]); (first | done | exact rfl | (show List.lookup y (_ :: _) = none; simp only [List.lookup, beq_eq_false_iff_ne.mpr h0, beq_eq_false_iff_ne.mpr h1, beq_eq_false_iff_ne.mpr h2, beq_eq_false_iff_ne.mpr h3, beq_eq_false_iff_ne.mpr h4, beq_eq_false_iff_ne.mpr h5]) | (simp only [List.lookup, beq_eq_false_iff_ne.mpr h0, beq_eq_false_iff_ne.mpr h1, beq_eq_false_iff_ne.mpr h2, beq_eq_false_iff_ne.mpr h3, beq_eq_false_iff_ne.mpr h4, beq_eq_false_iff_ne.mpr h5]; done)))
  case done =>
    intro m₁ news₁ h6 tk6 hJ F6 N6
    obtain ⟨til, iv, hsub, hm⟩ := hJ
    replace F6 := Fr.congr F6 hm
    have N7 := cb_drop N6 hsub
    try clear F5 N5
    unfold im at F6
    (try dsimp only)
    ((repeat' (first | (k_unfold; (try dsimp only)) | ((with_reducible first | show wpAny _ _ (exec _ _) _ _ _ | show wpAny _ _ (execs _ _) _ _ _); k_fold) | (k_end; wrow_close) | walk1 | (dsimp only; walk1) | (leave1; (try dsimp only)))) <;> (repeat (k_unfold; (try dsimp only))))
    (try dsimp only)
    rename Fr _ _ _ _ => F9
    rename News _ _ _ _ => N9
    exact ret _ _ _ _ F9.keep (fun r hr => ⟨(N9 r hr).1, (N9 r hr).2.2⟩) ⟨⟨_, rfl⟩, rfl⟩
theorem less_c (w : World) (x y : Addr) (S S' : WsSt) (b1 b2 : List (Addr × Obj)) (W1 : WsAt w x S b1) (W2 : WsAt w y S' b2) (hl1 : S.count.length ≤ 1) (hl2 : S'.count.length ≤ 1) (hnt : S.nt ≤ S'.nt) :
    Con w 10 100 157 [.ref x, .ref y] (b1 ++ b2) (fun _ v blk' => v = .bool (decide (S.n < S'.n)) ∧ blk' = b1 ++ b2) := by
  obtain ⟨dx, nrm, ct, rv, tr, tn0, tn, tt0, tnt, to, ti, tb, vs, hvs, rfl⟩ := W1
  obtain ⟨dx', nrm', ct', rv', tr', tn0', tn', tt0', tnt', to', ti', tb', vs', hvs', rfl⟩ := W2
  have hl5 := hvs.length
  have hl6 := hvs'.length
  have q1 : decide ((S.count.length : Int) ≤ 1) = true := decide_eq_true (by omega)
  have q2 : decide ((S'.count.length : Int) ≤ 1) = true := decide_eq_true (by omega)
  simp only [List.cons_append, List.nil_append, q1, q2]
  unfold Con
  k_fill
  intro dp un gd outer base g tp tl mean mg mb s R B hg hsz hsel X T hd hu ret
  refine' enter_g B hg hsz hsel X T ?k6 ?k7 ?k8 ?k9 ?kB ?_ ?c2 ?c3 ?c4 ?c5
  (case k6 => k_is); (case k7 => k_is); (case k8 => ktr_room); (case k9 => exact BindsTo.of_eq rfl); (case c5 => decide); (case kB => exact locs rfl); (case c2 => exact rfl); (case c3 => exact rfl); (case c4 => exact rfl)
  k_whole
  intro L' h' tk' F' N' l1
  (try dsimp only); (try k_fold)
  ((repeat' (first | (k_unfold; (try dsimp only)) | ((with_reducible first | show wpAny _ _ (exec _ _) _ _ _ | show wpAny _ _ (execs _ _) _ _ _); k_fold) | (k_end; wrow_close) | walk1 | (dsimp only; walk1) | (leave1; (try dsimp only)))) <;> (repeat (k_unfold; (try dsimp only))))
  all_goals
    (try dsimp only)
    rename Fr _ _ _ _ => F9
    rename News _ _ _ _ => N9
    refine ret _ _ _ _ F9.keep (fun r hr => ⟨(N9 r hr).1, (N9 r hr).2.2⟩) ⟨?_, rfl⟩
    refine congrArg Value.bool ?_
    first | (exact (decide_eq_false (by omega)).symm) | (exact (decide_eq_true (by omega)).trans (decide_eq_true (by omega)).symm)
theorem eqvAll_strs : ∀ xs ys : List Str, PyData.eqvAll (xs.map PyData.str) (ys.map PyData.str) = decide (xs = ys)
  | [], [] => by simp [PyData.eqvAll]
  | [], _ :: _ => by simp [PyData.eqvAll]
  | _ :: _, [] => by simp [PyData.eqvAll]
  | a :: r, b :: t => by
    simp only [List.map_cons, PyData.eqvAll, PyData.eqv, eqvAll_strs r t]
    by_cases h : a = b <;> by_cases h' : r = t <;> simp [h, h']
theorem lay_strs : ∀ xs : List Str, (∀ x ∈ xs, PyData.strOk x = true) → PyData.canLayAll0 (xs.map PyData.str) = true
  | [], _ => rfl
  | x :: r, h => by
    have := lay_strs r fun y hy => h y (.tail _ hy)
    simp [PyData.canLayAll0, PyData.canLay0, this, h x (.head _)]
theorem depth_strs : ∀ xs : List Str, PyData.depthAll (xs.map PyData.str) = 0
  | [] => rfl
  | _ :: r => by simp [PyData.depthAll, PyData.depth, depth_strs r]
theorem carried_strs : ∀ {vs : List Value} {xs : List Str}, StrsAre vs xs → CarriedAll vs (xs.map PyData.str)
  | _, _, .nil => .nil
  | _, _, .cons _ t r => .cons (.str _ t) (carried_strs r)
theorem shaped_strs (xs : List Str) (h : ∀ x ∈ xs, PyData.strOk x = true) : SeqAt.shaped (.list (xs.map PyData.str)) = true := by
  simp [SeqAt.shaped, PyData.canLay0, PyData.depth, lay_strs xs h, depth_strs]
section
variable {prog : Program} {w : World} {A : Around} {E : Value → Shared → Prop} {s : Shared} {a b : Addr} {vs us : List Value} {xs ys : List Str} {Q : Value → Shared → Prop}
theorem ne_strs (ha : s.heap.IsList a vs.toArray) (hb : s.heap.IsList b us.toArray) (hi : StrsAre vs xs) (hj : StrsAre us ys) (h1 : ∀ x ∈ xs, PyData.strOk x = true) (h2 : ∀ x ∈ ys, PyData.strOk x = true) (hu : A.units + 64 < cLine)
    (h : Q (.bool (!decide (xs = ys))) s) : wpAny (model prog w) A (compareOp .NotEq (.ref a) (.ref b)) Q E s :=
  ne_dataH (reads_newData ha (carried_strs hi)) (reads_newData hb (carried_strs hj)) (shaped_strs _ h1) (shaped_strs _ h2) hu (by rw [PyData.eqv, eqvAll_strs]; exact h)
theorem eq_strs (ha : s.heap.IsList a vs.toArray) (hb : s.heap.IsList b us.toArray) (hi : StrsAre vs xs) (hj : StrsAre us ys) (h1 : ∀ x ∈ xs, PyData.strOk x = true) (h2 : ∀ x ∈ ys, PyData.strOk x = true) (hu : A.units + 64 < cLine)
    (h : Q (.bool (decide (xs = ys))) s) : wpAny (model prog w) A (compareOp .Eq (.ref a) (.ref b)) Q E s :=
  eq_dataH (reads_newData ha (carried_strs hi)) (reads_newData hb (carried_strs hj)) (shaped_strs _ h1) (shaped_strs _ h2) hu (by rw [PyData.eqv, eqvAll_strs]; exact h)
end
theorem reads_norm {h : Heap} {nrm ct : Addr} {o1 o2 : Obj} {n1 n2 : Nat} {b : Int} {tb : Tok} {vs : List Value} {ns : List Int} (e1 : h.get? nrm = some o1) (c1 : o1.cls = .type "tuple") (d1 : o1.data = .seq #[.ref ct, .int b tb] n1)
    (e2 : h.get? ct = some o2) (c2 : o2.cls = .type "tuple") (d2 : o2.data = .seq vs.toArray n2) (hi : IntsAre vs ns) : ∃ as, Reads h (.ref nrm) (.tuple [.tuple (ns.map PyData.int), .int b]) as :=
  ⟨_, reads_tuple_at e1 c1 d1 (.cons (reads_tuple_at e2 c2 d2 ((ke_carried hi).reads h)) (.cons (.int _ _) .nil))⟩
theorem shaped_norm (ns : List Int) (b : Int) : SeqAt.shaped (.tuple [.tuple (ns.map PyData.int), .int b]) = true := by
  simp [SeqAt.shaped, PyData.canLay0, PyData.canLayAll0, PyData.depth, PyData.depthAll, ke_canLayAll0, ke_depthAll]
theorem eqv_norm (ns ms : List Int) (b c : Int) : PyData.eqv (.tuple [.tuple (ns.map PyData.int), .int b]) (.tuple [.tuple (ms.map PyData.int), .int c]) = decide (ns = ms ∧ b = c) := by
  simp only [PyData.eqv, PyData.eqvAll, ked_eqvAll]
  by_cases h : ns = ms <;> by_cases h' : b = c <;> simp [h, h']
theorem eq_norms {prog : Program} {w : World} {A : Around} {E : Value → Shared → Prop} {s : Shared} {Q : Value → Shared → Prop} {nrm nrm' : Addr} {ns ms : List Int} {b c : Int}
    (h1 : ∃ as, Reads s.heap (.ref nrm) (.tuple [.tuple (ns.map PyData.int), .int b]) as) (h2 : ∃ as, Reads s.heap (.ref nrm') (.tuple [.tuple (ms.map PyData.int), .int c]) as) (hu : A.units + 64 < cLine)
    (h : Q (.bool (decide (ns = ms ∧ b = c))) s) : wpAny (model prog w) A (compareOp .Eq (.ref nrm) (.ref nrm')) Q E s := by
  obtain ⟨as, h1⟩ := h1
  obtain ⟨bs, h2⟩ := h2
  exact eq_dataH h1 h2 (shaped_norm _ _) (shaped_norm _ _) hu (by rw [eqv_norm]; exact h)
theorem equal_c (w : World) (x y : Addr) (S S' : WsSt) (b1 b2 : List (Addr × Obj)) (W1 : WsAt w x S b1) (W2 : WsAt w y S' b2) (hl1 : S.count.length < 10000) (hl2 : S'.count.length < 10000) :
    Con w 10 200 143 [.ref x, .ref y] (b1 ++ b2) (fun _ v blk' => v = .bool (decide (S.count = S'.count ∧ (S.b : Int) = S'.b)) ∧ blk' = b1 ++ b2) := by
  obtain ⟨dx, nrm, ct, rv, tr, tn0, tn, tt0, tnt, to, ti, tb, vs, hvs, rfl⟩ := W1
  obtain ⟨dx', nrm', ct', rv', tr', tn0', tn', tt0', tnt', to', ti', tb', vs', hvs', rfl⟩ := W2
  have hl5 := hvs.length
  have hl6 := hvs'.length
  simp only [List.cons_append, List.nil_append]
  unfold Con
  k_fill
  intro dp un gd outer base g tp tl mean mg mb s R B hg hsz hsel X T hd hu ret
  refine' enter_g B hg hsz hsel X T ?k6 ?k7 ?k8 ?k9 ?kB ?_ ?c2 ?c3 ?c4 ?c5
  (case k6 => k_is); (case k7 => k_is); (case k8 => ktr_room); (case k9 => exact BindsTo.of_eq rfl); (case c5 => decide); (case kB => exact locs rfl); (case c2 => exact rfl); (case c3 => exact rfl); (case c4 => exact rfl)
  k_whole
  intro L' h' tk' F' N' l1
  (try dsimp only); (try k_fold)
  ((repeat' ((fail_if_success (with_reducible show wpAny _ _ (compareOp _ _ _) _ _ _)); (first | (k_unfold; (try dsimp only)) | ((with_reducible first | show wpAny _ _ (exec _ _) _ _ _ | show wpAny _ _ (execs _ _) _ _ _); k_fold) | (k_end; wrow_close) | walk1 | (dsimp only; walk1) | (leave1; (try dsimp only))))) <;> (repeat (k_unfold; (try dsimp only))))
  rename Fr _ _ _ _ => F9
  rename News _ _ _ _ => N9
  refine eq_norms (reads_norm (News.get N9 (by k_mem)) rfl rfl (News.get N9 (by k_mem)) rfl rfl hvs) (reads_norm (News.get N9 (by k_mem)) rfl rfl (News.get N9 (by k_mem)) rfl rfl hvs') (by ke_room) ?_
  (try dsimp only)
  ((repeat' (first | (k_unfold; (try dsimp only)) | ((with_reducible first | show wpAny _ _ (exec _ _) _ _ _ | show wpAny _ _ (execs _ _) _ _ _); k_fold) | (k_end; wrow_close) | walk1 | (dsimp only; walk1) | (leave1; (try dsimp only)))) <;> (repeat (k_unfold; (try dsimp only))))
  (try dsimp only)
  exact ret _ _ _ _ F9.keep (fun r hr => ⟨(N9 r hr).1, (N9 r hr).2.2⟩) ⟨rfl, rfl⟩
theorem eqvAll_ints : ∀ xs ys : List Int, PyData.eqvAll (xs.map PyData.int) (ys.map PyData.int) = decide (xs = ys)
  | [], [] => by simp [PyData.eqvAll]
  | [], _ :: _ => by simp [PyData.eqvAll]
  | _ :: _, [] => by simp [PyData.eqvAll]
  | a :: r, b :: t => by
    simp only [List.map_cons, PyData.eqvAll, PyData.eqv, eqvAll_ints r t]
    by_cases h : a = b <;> by_cases h' : r = t <;> simp [h, h']
theorem shaped_ints (xs : List Int) : SeqAt.shaped (.list (xs.map PyData.int)) = true := by
  simp [SeqAt.shaped, PyData.canLay0, PyData.depth, ke_canLayAll0, ke_depthAll]
section
variable {prog : Program} {w : World} {A : Around} {E : Value → Shared → Prop} {s : Shared} {a b : Addr} {vs us : List Value} {xs ys : List Int} {Q : Value → Shared → Prop}
theorem ne_ints (ha : s.heap.IsList a vs.toArray) (hb : s.heap.IsList b us.toArray) (hi : IntsAre vs xs) (hj : IntsAre us ys) (hu : A.units + 64 < cLine)
    (h : Q (.bool (!decide (xs = ys))) s) : wpAny (model prog w) A (compareOp .NotEq (.ref a) (.ref b)) Q E s :=
  ne_dataH (reads_newData ha (ke_carried hi)) (reads_newData hb (ke_carried hj)) (shaped_ints _) (shaped_ints _) hu (by rw [PyData.eqv, eqvAll_ints]; exact h)
theorem eq_ints (ha : s.heap.IsList a vs.toArray) (hb : s.heap.IsList b us.toArray) (hi : IntsAre vs xs) (hj : IntsAre us ys) (hu : A.units + 64 < cLine)
    (h : Q (.bool (decide (xs = ys))) s) : wpAny (model prog w) A (compareOp .Eq (.ref a) (.ref b)) Q E s :=
  eq_dataH (reads_newData ha (ke_carried hi)) (reads_newData hb (ke_carried hj)) (shaped_ints _) (shaped_ints _) hu (by rw [PyData.eqv, eqvAll_ints]; exact h)
end
section
variable {prog : Program} {w : World} {A : Around} {s : Shared} {env : Env} {h₀ : Heap} {L : Addr}
/-- a for over an iterator of a made object l that no turn changes; the iterator's cell stands at the ledger's end -/
theorem for_src {R : Result → Shared → Prop} {y : Str} {px : Pos} {body : List Stmt} {m : Str → Option Value} {news : List (Addr × Obj)} {I l : Addr} {lo : Obj} {n : Nat} {P : Nat → Value → Prop} {St : Nat → Heap → Prop}
    (W : Walks prog w A I [I, l] [I] n P St) (hSt : ∀ i h, St i h → ∃ o, h.get? I = some o) (hIn : h₀.get? I = none) (hLI : L ≠ I) (hLl : L ≠ l) (hnI : ∀ p ∈ news, p.1 ≠ I)
    (hx : env.kindOf y = some .local) (hk : env.scope.kind = .function) (hL : env.locals = L) (hst : St 0 s.heap) (F : Fr h₀ L s.heap m) (N : News h₀ L s.heap news)
    (J : Nat → (Str → Option Value) → List (Addr × Obj) → Prop) (hJ : ∀ i m nw, J i m nw → (l, lo) ∈ nw) (h0 : J 0 m news)
    (turn : ∀ i v m₁ news₁ h tk oI, i < n → P i v → J i m₁ news₁ → (∀ p ∈ news₁, p.1 ≠ I) → Fr h₀ L h (fun z => if z = y then some v else m₁ z) → News h₀ L h (news₁ ++ [(I, oI)]) →
      wpAny (model prog w) A (execs body env) (fun f s₂ => match f with
        | .next | .cont => Left (∃ h' tk m' nx, s₂ = { s with heap := h', toks := tk } ∧ Fr h₀ L h' m' ∧ News h₀ L h' (nx ++ [(I, oI)]) ∧ (∀ p ∈ nx, p.1 ≠ I) ∧ J (i + 1) m' nx)
        | .brk => R (.ok .next) s₂
        | .ret v => R (.ok (.ret v)) s₂) (fun _ _ => False) { s with heap := h, toks := tk })
    (done : ∀ m' news' h' tk, J n m' news' → Fr h₀ L h' m' → News h₀ L h' news' → R (.ok .next) { s with heap := h', toks := tk }) :
    codeAny (model prog w) A (.forLoop (.Name y px) (.ref I) body [] env) R s := by
  refine for_W W hx hk hL (by simp [hLI, hLl]) (by simpa using hIn) (fun p hp => by simpa using hnI p hp) hst F N J h0 ?_ done
  intro i v m₁ news₁ h tk own hi hP hJi hnw ho ho2 ho3 hS F₁ N₁
  obtain ⟨oI, hoI⟩ := hSt _ _ hS
  have hIo : (I, oI) ∈ own := ho3 _ (.head _) hIn _ hoI
  have hll := hJ _ _ _ hJi
  have hlo : h.get? l = some lo := (N₁ _ (List.mem_append_left _ hll)).1
  refine wpAny_mono (turn i v m₁ news₁ h tk oI hi hP hJi (fun p hp => by simpa using hnw p hp) F₁ ?_) (fun f s₂ z => ?_) (fun _ _ z => z)
  · intro p hp
    rcases List.mem_append.mp hp with hp | hp
    · exact N₁ p (List.mem_append_left _ hp)
    · rw [List.mem_singleton.mp hp]; exact N₁ _ (List.mem_append_right _ hIo)
  have key : (∃ h' tk m' nx, s₂ = { s with heap := h', toks := tk } ∧ Fr h₀ L h' m' ∧ News h₀ L h' (nx ++ [(I, oI)]) ∧ (∀ p ∈ nx, p.1 ≠ I) ∧ J (i + 1) m' nx) → TurnEnd h₀ L (J (i + 1)) own [I] s s₂ := by
    rintro ⟨h', tk', m', nx, rfl, F', N', k1, k2⟩
    refine ⟨h', tk', m', nx, _, rfl, F', N', fun p hp => ?_, fun p hp => List.mem_append_left _ hp, fun p hp => by simpa using k1 p hp, k2⟩
    have e1 : p.1 = I ∨ p.1 = l := by simpa using ho p hp
    have e2 := ho2 p hp
    obtain ⟨p1, p2⟩ := p
    simp only at e1 e2
    rcases e1 with rfl | rfl
    · rw [hoI] at e2
      rw [← Option.some.inj e2]
      exact List.mem_append_right _ (.head _)
    · rw [hlo] at e2
      rw [← Option.some.inj e2]
      exact List.mem_append_left _ (hJ _ _ _ k2)
  cases f with
  | next => exact key z
  | cont => exact key z
  | brk => exact z
  | ret v => exact z

/-- a for over a made list -/
theorem for_lst {R : Result → Shared → Prop} {E : Value → Shared → Prop} {y : Str} {px : Pos} {body : List Stmt} {m : Str → Option Value} {news : List (Addr × Obj)} {l : Addr} {lo : Obj} {its : Array Value} (hh : A.handled = none)
    (hcl : lo.cls = .type "list") (hdt : ∃ k, lo.data = .seq its k)
    (hx : env.kindOf y = some .local) (hk : env.scope.kind = .function) (hL : env.locals = L) (F : Fr h₀ L s.heap m) (N : News h₀ L s.heap news)
    (J : Nat → (Str → Option Value) → List (Addr × Obj) → Prop) (hJ : ∀ i m nw, J i m nw → (l, lo) ∈ nw) (h0 : J 0 m news)
    (turn : ∀ i v m₁ news₁ h tk I oI, its[i]? = some v → J i m₁ news₁ → (∀ p ∈ news₁, p.1 ≠ I) → Fr h₀ L h (fun z => if z = y then some v else m₁ z) → News h₀ L h (news₁ ++ [(I, oI)]) →
      wpAny (model prog w) A (execs body env) (fun f s₂ => match f with
        | .next | .cont => Left (∃ h' tk m' nx, s₂ = { s with heap := h', toks := tk } ∧ Fr h₀ L h' m' ∧ News h₀ L h' (nx ++ [(I, oI)]) ∧ (∀ p ∈ nx, p.1 ≠ I) ∧ J (i + 1) m' nx)
        | .brk => R (.ok .next) s₂
        | .ret v => R (.ok (.ret v)) s₂) (fun _ _ => False) { s with heap := h, toks := tk })
    (done : ∀ m' news' h' tk, J its.size m' news' → Fr h₀ L h' m' → News h₀ L h' news' → R (.ok .next) { s with heap := h', toks := tk }) :
    wpAny (model prog w) A (pyIter (.ref l)) (fun it s₂ => codeAny (model prog w) A (.forLoop (.Name y px) it body [] env) R s₂) E s := by
  have hl := (N _ (hJ _ _ _ h0))
  have hlist : s.heap.IsList l its := ⟨lo, hl.1, hcl, hdt⟩
  have hlt : l < s.heap.objs.size := Heap.lt_size hl.1
  refine wpAny_pyIter_list hlist ?_
  refine for_src (s := { s with heap := s.heap.push _ }) (lo := lo) (Walks.list hh s.heap.objs.size l (Nat.ne_of_lt hlt) its) (fun i h st => by obtain ⟨o, e, _⟩ := st.1; exact ⟨o, e⟩) (new_none F) (Nat.ne_of_lt F.ns.lt) (Ne.symm hl.2.1)
    (fun p hp => Nat.ne_of_lt (Heap.lt_size (N p hp).1)) hx hk hL ⟨⟨_, Heap.get?_push_size _ rfl, rfl, rfl⟩, hlist.push _⟩ (F.push _)
    (fun p hp => ⟨Heap.get?_push_of_some _ (N p hp).1, (N p hp).2⟩) J hJ h0 ?_ done
  intro i v m₁ news₁ h tk oI hi hP hJi hI F₁ N₁
  exact turn i v m₁ news₁ h tk _ oI hP hJi hI F₁ N₁

/-- a for over a made tuple -/
theorem for_tup {R : Result → Shared → Prop} {E : Value → Shared → Prop} {y : Str} {px : Pos} {body : List Stmt} {m : Str → Option Value} {news : List (Addr × Obj)} {l : Addr} {lo : Obj} {its : Array Value} (hh : A.handled = none)
    (hcl : lo.cls = .type "tuple") (hdt : ∃ k, lo.data = .seq its k)
    (hx : env.kindOf y = some .local) (hk : env.scope.kind = .function) (hL : env.locals = L) (F : Fr h₀ L s.heap m) (N : News h₀ L s.heap news)
    (J : Nat → (Str → Option Value) → List (Addr × Obj) → Prop) (hJ : ∀ i m nw, J i m nw → (l, lo) ∈ nw) (h0 : J 0 m news)
    (turn : ∀ i v m₁ news₁ h tk I oI, its[i]? = some v → J i m₁ news₁ → (∀ p ∈ news₁, p.1 ≠ I) → Fr h₀ L h (fun z => if z = y then some v else m₁ z) → News h₀ L h (news₁ ++ [(I, oI)]) →
      wpAny (model prog w) A (execs body env) (fun f s₂ => match f with
        | .next | .cont => Left (∃ h' tk m' nx, s₂ = { s with heap := h', toks := tk } ∧ Fr h₀ L h' m' ∧ News h₀ L h' (nx ++ [(I, oI)]) ∧ (∀ p ∈ nx, p.1 ≠ I) ∧ J (i + 1) m' nx)
        | .brk => R (.ok .next) s₂
        | .ret v => R (.ok (.ret v)) s₂) (fun _ _ => False) { s with heap := h, toks := tk })
    (done : ∀ m' news' h' tk, J its.size m' news' → Fr h₀ L h' m' → News h₀ L h' news' → R (.ok .next) { s with heap := h', toks := tk }) :
    wpAny (model prog w) A (pyIter (.ref l)) (fun it s₂ => codeAny (model prog w) A (.forLoop (.Name y px) it body [] env) R s₂) E s := by
  have hl := (N _ (hJ _ _ _ h0))
  have htup : s.heap.IsTuple l its := ⟨lo, hl.1, hcl, hdt⟩
  have hlt : l < s.heap.objs.size := Heap.lt_size hl.1
  refine wpAny_pyIter_tuple htup ?_
  refine for_src (s := { s with heap := s.heap.push _ }) (lo := lo) (Walks.tuple hh s.heap.objs.size l (Nat.ne_of_lt hlt) its) (fun i h st => by obtain ⟨o, e, _⟩ := st.1; exact ⟨o, e⟩) (new_none F) (Nat.ne_of_lt F.ns.lt) (Ne.symm hl.2.1)
    (fun p hp => Nat.ne_of_lt (Heap.lt_size (N p hp).1)) hx hk hL ⟨⟨_, Heap.get?_push_size _ rfl, rfl, rfl⟩, htup.push _⟩ (F.push _)
    (fun p hp => ⟨Heap.get?_push_of_some _ (N p hp).1, (N p hp).2⟩) J hJ h0 ?_ done
  intro i v m₁ news₁ h tk oI hi hP hJi hI F₁ N₁
  exact turn i v m₁ news₁ h tk _ oI hP hJi hI F₁ N₁

/-- a for over reversed(l) of a made list -/
theorem for_rev {R : Result → Shared → Prop} {E : Value → Shared → Prop} {y : Str} {px : Pos} {body : List Stmt} {m : Str → Option Value} {news : List (Addr × Obj)} {I l : Addr} {lo : Obj} {its : Array Value} (hh : A.handled = none)
    (hcl : lo.cls = .type "list") (hdt : ∃ k, lo.data = .seq its k) (hnI : ∀ p ∈ news, p.1 ≠ I)
    (hx : env.kindOf y = some .local) (hk : env.scope.kind = .function) (hL : env.locals = L) (F : Fr h₀ L s.heap m) (N : News h₀ L s.heap ((I, revObj l ((its.size : Int) - 1)) :: news))
    (J : Nat → (Str → Option Value) → List (Addr × Obj) → Prop) (hJ : ∀ i m nw, J i m nw → (l, lo) ∈ nw) (h0 : J 0 m news)
    (turn : ∀ i v m₁ news₁ h tk oI, i < its.size → its[its.size - 1 - i]? = some v → J i m₁ news₁ → (∀ p ∈ news₁, p.1 ≠ I) → Fr h₀ L h (fun z => if z = y then some v else m₁ z) → News h₀ L h (news₁ ++ [(I, oI)]) →
      wpAny (model prog w) A (execs body env) (fun f s₂ => match f with
        | .next | .cont => Left (∃ h' tk m' nx, s₂ = { s with heap := h', toks := tk } ∧ Fr h₀ L h' m' ∧ News h₀ L h' (nx ++ [(I, oI)]) ∧ (∀ p ∈ nx, p.1 ≠ I) ∧ J (i + 1) m' nx)
        | .brk => R (.ok .next) s₂
        | .ret v => R (.ok (.ret v)) s₂) (fun _ _ => False) { s with heap := h, toks := tk })
    (done : ∀ m' news' h' tk, J its.size m' news' → Fr h₀ L h' m' → News h₀ L h' news' → R (.ok .next) { s with heap := h', toks := tk }) :
    wpAny (model prog w) A (pyIter (.ref I)) (fun it s₂ => codeAny (model prog w) A (.forLoop (.Name y px) it body [] env) R s₂) E s := by
  have N1 : News h₀ L s.heap news := fun p hp => N p (.tail _ hp)
  have hl := (N1 _ (hJ _ _ _ h0))
  have hlist : s.heap.IsList l its := ⟨lo, hl.1, hcl, hdt⟩
  have hI := N (I, _) (.head _)
  have hit : s.heap.IsRevIter I l ((its.size : Int) - 1) := ⟨_, hI.1, rfl, rfl⟩
  refine wpAny_pyIter_revIter hit ?_
  refine for_src (lo := lo) (Walks.listRev hh I l (fun e => hnI _ (hJ _ _ _ h0) e) its) (fun i h st => by obtain ⟨o, e, _⟩ := st.2.1; exact ⟨o, e⟩) hI.2.2 (Ne.symm hI.2.1) (Ne.symm hl.2.1)
    hnI hx hk hL ⟨Nat.zero_le _, by simpa using hit, hlist⟩ F N1 J hJ h0 ?_ done
  intro i v m₁ news₁ h tk oI hi hP hJi hI F₁ N₁
  exact turn i v m₁ news₁ h tk oI hi hP hJi hI F₁ N₁
end
/-- the text of these signs' numbers -/
noncomputable def Tx (cs : List Nat) : Str := ⟨cs.toArray⟩
theorem Tx_app (a b : List Nat) : Tx a ++ Tx b = Tx (a ++ b) := by
  apply Str.ext'
  rw [Str.cps_append]; simp [Tx]
theorem Tx_len (a : List Nat) : (Tx a).length = a.length := by show (Tx a).cps.size = _; simp [Tx]
theorem Tx_inj {a b : List Nat} (h : Tx a = Tx b) : a = b := by
  have := congrArg (fun x : Str => x.cps.toList) h
  simpa [Tx] using this
theorem Tx_of (x : Str) : x = Tx x.cps.toList := by cases x; simp [Tx]
theorem Tx_cps (a : List Nat) : (Tx a).cps.toList = a := by simp [Tx]
theorem foldl_app (l : List (Array Nat)) : ∀ acc : Array Nat, (l.foldl (· ++ ·) acc).toList = acc.toList ++ (l.map Array.toList).flatten := by
  induction l with
  | nil => intro acc; simp
  | cons x l ih => intro acc; rw [List.foldl_cons, ih]; simp
theorem Tx_mul (a : List Nat) (k : Nat) : Txt.mul (Tx a) (k : Int) = Tx ((List.replicate k a).flatten) := by
  unfold Txt.mul
  rcases Nat.eq_zero_or_pos k with rfl | hk
  · rfl
  · rw [if_neg (by omega)]
    split
    · rename_i h
      rcases Bool.or_eq_true _ _ ▸ h with h | h
      · have : k = 1 := by have := eq_of_beq h; omega
        subst this; simp
      · have h0 : a = [] := by
          have := eq_of_beq h
          rw [Tx_len] at this
          exact List.length_eq_zero_iff.mp this
        subst h0; simp
    · apply Str.ext'
      apply Array.toList_inj.mp
      rw [foldl_app]
      simp [Tx]
theorem Tx_mul1 (c k : Nat) : Txt.mul (Tx [c]) (k : Int) = Tx (List.replicate k c) := by
  rw [Tx_mul]
  congr 1
  induction k with
  | zero => rfl
  | succ k ih => rw [List.replicate_succ, List.replicate_succ, List.flatten_cons, ih]; rfl
theorem lit_q : Str.ofString "\"" = Tx [34] := by decide +kernel
theorem lit_b : Str.ofString "\\ " = Tx [92, 32] := by decide +kernel
theorem lit_s : Str.ofString " " = Tx [32] := by decide +kernel
theorem lit_n : Str.ofString "\n" = Tx [10] := by decide +kernel
theorem lit_t : Str.ofString "\t" = Tx [9] := by decide +kernel
theorem lit_qt : Str.ofString "\"\t" = Tx [34, 9] := by decide +kernel
theorem lit_end : Str.ofString "end" = Tx [101, 110, 100] := by decide +kernel
theorem lit_e : Str.ofString "" = Tx [] := by decide +kernel
/-- a word of k blanks as it is written -/
noncomputable def spellL (k : Nat) (m : Int) : List Nat :=
  if m = 0 ∨ k = 0 then 34 :: (List.replicate k 32 ++ [34]) else if m = 1 then (List.replicate k [92, 32]).flatten ++ [10] else 34 :: ((List.replicate k [92, 32]).flatten ++ [34, 9])
noncomputable abbrev blank (k : Nat) : Str := Tx (List.replicate k 32)
theorem str_eq {a b : Str} {t : Tok} (h : a = b) : Value.str a t = Value.str b t := by rw [h]
theorem any_strs (x : Str) : ∀ xs : List Str, ((xs.map PyData.str).any fun y => PyData.eqv y (.str x)) = decide (x ∈ xs)
  | [] => by simp
  | y :: r => by
    have ih := any_strs x r
    simp only [List.map_cons, List.any_cons, PyData.eqv, ih, List.mem_cons]
    rw [show (y == x) = decide (x = y) from by rw [Bool.beq_eq_decide_eq, decide_eq_decide]; exact eq_comm]
    by_cases h : x = y <;> by_cases h' : x ∈ r <;> simp [h, h']
theorem any_ints (x : Int) : ∀ xs : List Int, ((xs.map PyData.int).any fun y => PyData.eqv y (.int x)) = decide (x ∈ xs)
  | [] => by simp
  | y :: r => by
    have ih := any_ints x r
    simp only [List.map_cons, List.any_cons, PyData.eqv, ih, List.mem_cons]
    rw [show (y == x) = decide (x = y) from by rw [Bool.beq_eq_decide_eq, decide_eq_decide]; exact eq_comm]
    by_cases h : x = y <;> by_cases h' : x ∈ r <;> simp [h, h']
section
variable {prog : Program} {w : World} {A : Around} {E : Value → Shared → Prop} {s : Shared} {a : Addr} {vs : List Value} {xs : List Str} {ns : List Int} {x : Str} {n : Int} {t : Tok} {Q : Value → Shared → Prop}
theorem in_strs (ha : s.heap.IsList a vs.toArray) (hi : StrsAre vs xs) (h1 : ∀ x ∈ xs, PyData.strOk x = true) (hx : PyData.strOk x = true) (hu : A.units + 64 < cLine)
    (h : Q (.bool (decide (x ∈ xs))) s) : wpAny (model prog w) A (compareOp .In (.str x t) (.ref a)) Q E s :=
  SeqAt.in_list_reads (reads_newData ha (carried_strs hi)) (.str x t) (lay_strs xs h1) (by simp [PyData.canLay0, hx]) (by simp only [PyData.depth, depth_strs]; omega) (by rw [any_strs]; exact h)
theorem notin_strs (ha : s.heap.IsList a vs.toArray) (hi : StrsAre vs xs) (h1 : ∀ x ∈ xs, PyData.strOk x = true) (hx : PyData.strOk x = true) (hu : A.units + 64 < cLine)
    (h : Q (.bool (!decide (x ∈ xs))) s) : wpAny (model prog w) A (compareOp .NotIn (.str x t) (.ref a)) Q E s :=
  SeqAt.notIn_list_reads (reads_newData ha (carried_strs hi)) (.str x t) (lay_strs xs h1) (by simp [PyData.canLay0, hx]) (by simp only [PyData.depth, depth_strs]; omega) (by rw [any_strs]; exact h)
theorem in_ints (ha : s.heap.IsList a vs.toArray) (hi : IntsAre vs ns) (hu : A.units + 64 < cLine)
    (h : Q (.bool (decide (n ∈ ns))) s) : wpAny (model prog w) A (compareOp .In (.int n t) (.ref a)) Q E s :=
  SeqAt.in_list_reads (reads_newData ha (ke_carried hi)) (.int n t) (ke_canLayAll0 _) (by simp [PyData.canLay0]) (by simp only [PyData.depth, ke_depthAll]; omega) (by rw [any_ints]; exact h)
theorem notin_tup {o : Obj} {k : Nat} (ho : s.heap.get? a = some o) (hc : o.cls = .type "tuple") (hd : o.data = .seq vs.toArray k) (hi : StrsAre vs xs) (h1 : ∀ x ∈ xs, PyData.strOk x = true) (hx : PyData.strOk x = true) (hu : A.units + 64 < cLine)
    (h : Q (.bool (!decide (x ∈ xs))) s) : wpAny (model prog w) A (compareOp .NotIn (.str x t) (.ref a)) Q E s :=
  SeqAt.notIn_tuple_reads (reads_tuple_at ho hc hd ((carried_strs hi).reads _)) (.str x t) (lay_strs xs h1) (by simp [PyData.canLay0, hx]) (by simp only [PyData.depth, depth_strs]; omega) (by rw [any_strs]; exact h)
end
theorem okT {x : List Nat} (h : ∀ c ∈ x, c < 0x110000) : PyData.strOk (Tx x) = true := by
  unfold PyData.strOk Tx
  simpa using h
theorem okB (k : Nat) : PyData.strOk (blank k) = true := okT fun c hc => by rw [(List.mem_replicate.mp hc).2]; decide
theorem okBs (l : List Nat) : ∀ x ∈ l.map blank, PyData.strOk x = true := fun x hx => by
  obtain ⟨k, -, rfl⟩ := List.mem_map.mp hx
  exact okB k
theorem blank_inj {a b : Nat} (h : blank a = blank b) : a = b := by
  have := congrArg List.length (Tx_inj h)
  simpa using this
theorem blank_mem {q : Nat} {l : List Nat} : blank q ∈ l.map blank ↔ q ∈ l :=
  ⟨fun h => by obtain ⟨k, hk, e⟩ := List.mem_map.mp h; exact blank_inj e ▸ hk, fun h => List.mem_map_of_mem h⟩
theorem blank_len (q : Nat) : (blank q).length = q := by rw [Tx_len, List.length_replicate]
theorem blank_end {q : Nat} (h : 0 < q) : ¬ blank q ∈ [Str.ofString "end", Str.ofString ""] := by
  rw [lit_end, lit_e]
  intro hm
  simp only [List.mem_cons, List.not_mem_nil, or_false] at hm
  obtain ⟨k, rfl⟩ : ∃ k, q = k + 1 := ⟨q - 1, by omega⟩
  rcases hm with hm | hm
  · have := Tx_inj hm
    rw [List.replicate_succ] at this
    cases this
  · have := Tx_inj hm
    rw [List.replicate_succ] at this
    cases this
section
variable {prog : Program} {w : World} {A : Around} {E : Value → Shared → Prop} {s : Shared} {t u : Tok} {Q : Value → Shared → Prop}
theorem half_nn {a b : Nat} (h : Q (.int (((a + b) / 2 : Nat) : Int) s.toks) { s with toks := s.toks + 1 }) : wpAny (model prog w) A (binaryOp .RShift (.int ((a : Int) + (b : Int)) t) (.int 1 u)) Q E s := by
  refine rshift_int (by decide) ?_
  have e : Int.fdiv ((a : Int) + (b : Int)) (2 ^ Int.toNat 1) = (((a + b) / 2 : Nat) : Int) := by
    have := fdiv_pow2 (a + b) 1
    simpa using this
  rw [e]; exact h
theorem shr_nn {x k : Nat} (h : Q (.int ((x / 2 ^ k : Nat) : Int) s.toks) { s with toks := s.toks + 1 }) : wpAny (model prog w) A (binaryOp .RShift (.int (x : Int) t) (.int (k : Int) u)) Q E s := by
  refine rshift_int (Int.natCast_nonneg _) ?_
  rw [fdiv_pow2]; exact h
theorem shl_nn {x k m : Nat} (hx : x < 2 ^ m) (hm : m + k ≤ 2 ^ 27) (h : Q (.int ((x * 2 ^ k : Nat) : Int) s.toks) { s with toks := s.toks + 1 }) : wpAny (model prog w) A (binaryOp .LShift (.int (x : Int) t) (.int (k : Int) u)) Q E s := by
  refine lshift_int (Int.natCast_nonneg _) ?_ ?_
  · have := bits_lt hx
    have e : (2 : Int) ^ 27 = 134217728 := by decide
    rw [e]
    have e2 : (2 : Nat) ^ 27 = 134217728 := by decide
    rw [e2] at hm
    omega
  · rw [mul_pow2]; exact h
theorem xor_nn {x k : Nat} (h : Q (.int ((x % 2 ^ k : Nat) : Int) s.toks) { s with toks := s.toks + 1 }) : wpAny (model prog w) A (binaryOp .BitXor (.int (x : Int) t) (.int ((x / 2 ^ k * 2 ^ k : Nat) : Int) u)) Q E s := by
  refine xor_int ?_
  rw [xor_low]; exact h
theorem mulsub_nn {m l n : Nat} (hlm : l ≤ m) (hn : n < 5000) (h : Q (.int ((n * (m - l) : Nat) : Int) s.toks) { s with toks := s.toks + 1 }) : wpAny (model prog w) A (binaryOp .Mult (.int ((m : Int) - (l : Int)) t) (.int (n : Int) u)) Q E s := by
  refine mul_int ?_ (PySem.IntMulOk.of_right (PySem.intBits_le_64 (by omega) (by omega)))
  have e : ((m : Int) - (l : Int)) * (n : Int) = ((n * (m - l) : Nat) : Int) := by
    rw [Int.natCast_mul, Int.natCast_sub hlm, Int.mul_comm]
  rw [e]; exact h
end
noncomputable abbrev innerIL (rd c lst cA cI cN : Addr) (oc oA oI oN : Obj) (name qual : Str) (params : Arguments) (body : List Stmt) (scope : Scope) (doc pm ct : Value) (vals : List Value) (k : Nat) : List (Addr × Obj) :=
  [(rd, { cls := .type "function", data := .func (fnX name qual params body scope [("n", cN), ("inner", cI), ("a_digits", cA)] .none .none doc pm none (.ref c) ct) }), (c, oc), (lst, listOf vals.toArray k), (cA, oA), (cI, oI), (cN, oN)]
theorem innerI_c (w : World) (rd c lst cA cI cN : Addr) (oc oA oI oN : Obj) (name qual : Str) (params : Arguments) (body : List Stmt) (scope : Scope) (doc pm ct : Value) (vs : Array Value) (tq : Tok) (n : Nat) (un : Tok)
    (hdef : nestedDef ((hd.heap_1 w.params).lookup 42) 1 = some (params, body, scope)) (hcd : oc.data = .fields vs) (hvs : vs[1]? = some (.str qual tq)) (hA : oA.data = .cell (some (.ref lst))) (hI : oI.data = .cell (some (.ref rd))) (hN : oN.data = .cell (some (.int (n : Int) un)))
    (n1 : lst ≠ rd) (n2 : lst ≠ c) (n3 : lst ≠ cA) (n4 : lst ≠ cI) (n5 : lst ≠ cN) (hn : 0 < n) (hn2 : n < 5000) (d : Nat) :
    ∀ (vals : List Value) (ns : List Int) (k : Nat) (x : Nat) (Lo Hi : Nat) (tx tL tR : Tok), IntsAre vals ns → ns.length ≤ 5000 → Lo < Hi → Hi ≤ ns.length → Hi - Lo ≤ d → x < 2 ^ (n * (Hi - Lo)) → x < 2 ^ 5000 →
    Con w (d + 2) (4 * d + 40) rd [.int x tx, .int Lo tL, .int Hi tR] (innerIL rd c lst cA cI cN oc oA oI oN name qual params body scope doc pm ct vals k)
      (fun _ v blk => v = .none ∧ ∃ vals' ns' k', IntsAre vals' ns' ∧ ns'.length = ns.length ∧ (∀ i, ns'.getD i 0 = if Lo ≤ i ∧ i < Hi then ((dig n x (i - Lo) : Nat) : Int) else ns.getD i 0) ∧ blk = innerIL rd c lst cA cI cN oc oA oI oN name qual params body scope doc pm ct vals' k') := by
  induction d with
  | zero => intro vals ns k x Lo Hi tx tL tR hv hl hLR hR hd0; exact absurd hd0 (by omega)
  | succ d IH =>
  intro vals ns k x Lo Hi tx tL tR hv hl hLR hR hd0 hxs hx
  have hlv := hv.length
  revert hdef
  unfold Con
  k_fill
  intro hdef dp un' gd outer base g tp tl mean mg mb s R B hg hsz hsel X T hd hu ret
  have hdef0 := hdef
  refine' nested_out ?hl hdef ?_
  (case hl => k_is)
  clear hdef
  intro hdef
  cases hdef
  refine' enter_m hg hsz hsel T (.head _) rfl (.tail _ (.head _)) hcd hvs ?k8 ?k9 ?kB ?_ ?c2 ?c3 ?c4 ?c5
  (case k8 => k_room); (case k9 => exact BindsTo.of_eq rfl); (case c5 => decide); (case kB => exact locs rfl); (case c2 => exact rfl); (case c3 => exact rfl); (case c4 => exact rfl)
  intro L' h' tk' F' N' l1
  (try dsimp only); (try k_fold)
  have codeHd := codeHd_of_K (c := 41) (P := 37) X (by kernel_rfl)
  simp only [innerIL] at N'
  have hLm : Lo ≤ (Lo + Hi) / 2 := by omega
  have hup : x / 2 ^ (n * ((Lo + Hi) / 2 - Lo)) < 2 ^ 5000 := Nat.lt_of_le_of_lt (Nat.div_le_self _ _) hx
  have hsh : 5000 + n * ((Lo + Hi) / 2 - Lo) ≤ 2 ^ 27 := by
    have h1 : n * ((Lo + Hi) / 2 - Lo) ≤ 5000 * 5000 := Nat.mul_le_mul (by omega) (by omega)
    have e2 : (2 : Nat) ^ 27 = 134217728 := by decide
    omega
  ((repeat' ((fail_if_success (with_reducible show wpAny _ _ (call (Value.ref rd) _) _ _ _)); (first | ((with_reducible show wpAny _ _ (binaryOp Operator.RShift _ (Value.int 1 _)) _ _ _); refine half_nn ?_) | ((with_reducible show wpAny _ _ (binaryOp Operator.RShift _ _) _ _ _); refine shr_nn ?_) | ((with_reducible show wpAny _ _ (binaryOp Operator.LShift _ _) _ _ _); refine shl_nn hup hsh ?_) | ((with_reducible show wpAny _ _ (binaryOp Operator.BitXor _ _) _ _ _); refine xor_nn ?_) | ((with_reducible show wpAny _ _ (binaryOp Operator.Mult _ _) _ _ _); refine mulsub_nn hLm hn2 ?_) | (k_unfold; (try dsimp only)) | ((with_reducible first | show wpAny _ _ (exec _ _) _ _ _ | show wpAny _ _ (execs _ _) _ _ _); k_fold) | (k_end; wrow_close) | walk1 | (dsimp only; walk1) | (leave1; (try dsimp only))))) <;> (repeat (k_unfold; (try dsimp only))))
  · (try dsimp only)
    rename Fr _ _ _ _ => F9
    rename News _ _ _ _ => N9
    rename IntsAre _ _ => hv9
    rename ((Lo : Int) + 1 = (Hi : Int)) => hone
    refine ret _ _ _ _ F9.keep (fun r hr => ⟨(N9 r hr).1, (N9 r hr).2.2⟩) ⟨rfl, _, _, _, hv9, by simp, fun i => ?_, rfl⟩
    have hH : Hi = Lo + 1 := by omega
    subst hH
    have hxx : dig n x 0 = x := dig_zero (by simpa using hxs)
    simp only [List.getD_eq_getElem?_getD, List.getElem?_set, Int.toNat_natCast]
    by_cases hi : Lo = i
    · subst hi
      rw [if_pos rfl, if_pos (by omega), if_pos (by omega), Nat.sub_self, hxx]; rfl
    · rw [if_neg hi, if_neg (by omega)]
  · rename Fr _ _ _ _ => F9
    rename News _ _ _ _ => N9
    rename (¬ ((Lo : Int) + 1 = (Hi : Int))) => hone
    obtain ⟨mid, hmid⟩ : ∃ mid, mid = (Lo + Hi) / 2 := ⟨_, rfl⟩
    rw [← hmid] at F9
    rw [← hmid]
    have hm1 : Lo < mid := by omega
    have hm2 : mid < Hi := by omega
    refine use_g (IH vals ns k (x % 2 ^ (n * (mid - Lo))) Lo mid _ _ _ hv hl hm1 (Nat.le_trans (Nat.le_of_lt hm2) hR) (half_lo hm1 hm2 hd0) (Nat.mod_lt _ (Nat.two_pow_pos _)) (Nat.lt_of_le_of_lt (Nat.mod_le _ _) hx)) (oth := []) B F9 X N9 T rfl rfl (fun p hp => hp) (fun p hp => nomatch hp) (fun p hp => nomatch hp) ?_ ?_ ?_
    · k_room
    · k_units
    rintro v2 sel2 h2 tk2 F2 N2 - - ⟨rfl, vals2, ns2, k2, hv2, hl2, hg2, rfl⟩
    simp only [innerIL, List.append_nil] at N2
    clear F9 N9
    (try dsimp only)
    ((repeat' ((fail_if_success (with_reducible show wpAny _ _ (call (Value.ref rd) _) _ _ _)); (first | (k_unfold; (try dsimp only)) | ((with_reducible first | show wpAny _ _ (exec _ _) _ _ _ | show wpAny _ _ (execs _ _) _ _ _); k_fold) | (k_end; wrow_close) | walk1 | (dsimp only; walk1) | (leave1; (try dsimp only))))) <;> (repeat (k_unfold; (try dsimp only))))
    rename Fr _ _ _ _ => F9
    rename News _ _ _ _ => N9
    refine use_g (IH vals2 ns2 k2 (x / 2 ^ (n * (mid - Lo))) mid Hi _ _ _ hv2 (by rw [hl2]; exact hl) hm2 (by rw [hl2]; exact hR) (half_hi hm1 hm2 hd0) ?_ (Nat.lt_of_le_of_lt (Nat.div_le_self _ _) hx)) (oth := []) B F9 X N9 T rfl rfl (fun p hp => hp) (fun p hp => nomatch hp) (fun p hp => nomatch hp) ?_ ?_ ?_
    · rw [Nat.div_lt_iff_lt_mul (Nat.two_pow_pos _), ← Nat.pow_add, ← Nat.mul_add]
      rw [show Hi - mid + (mid - Lo) = Hi - Lo from Nat.sub_add_sub_cancel (Nat.le_of_lt hm2) (Nat.le_of_lt hm1)]
      exact hxs
    · k_room
    · k_units
    rintro v3 sel3 h3 tk3 F3 N3 - - ⟨rfl, vals3, ns3, k3, hv3, hl3, hg3, rfl⟩
    simp only [innerIL, List.append_nil] at N3
    clear F9 N9
    (try dsimp only)
    ((repeat' (first | (k_unfold; (try dsimp only)) | ((with_reducible first | show wpAny _ _ (exec _ _) _ _ _ | show wpAny _ _ (execs _ _) _ _ _); k_fold) | (k_end; wrow_close) | walk1 | (dsimp only; walk1) | (leave1; (try dsimp only)))) <;> (repeat (k_unfold; (try dsimp only))))
    (try dsimp only)
    rename Fr _ _ _ _ => F9
    rename News _ _ _ _ => N9
    refine ret _ _ _ _ F9.keep (fun r hr => ⟨(N9 r hr).1, (N9 r hr).2.2⟩) ⟨rfl, _, _, _, hv3, hl3.trans hl2, fun i => ?_, rfl⟩
    rw [hg3, hg2]
    by_cases h1 : mid ≤ i ∧ i < Hi
    · rw [if_pos h1, if_pos ⟨Nat.le_trans (Nat.le_of_lt hm1) h1.1, h1.2⟩]
      have e := dig_high (n := n) (x := x) (i := i - Lo) (j := mid - Lo) (Nat.sub_le_sub_right h1.1 _)
      rw [show i - mid = i - Lo - (mid - Lo) from sub3 hm1, e]
    · rw [if_neg h1]
      by_cases h2 : Lo ≤ i ∧ i < mid
      · rw [if_pos h2, if_pos ⟨h2.1, Nat.lt_trans h2.2 hm2⟩, dig_low (Nat.sub_lt_sub_right h2.1 h2.2)]
      · rw [if_neg h2, if_neg (by omega)]
/-- the number of digits f L, f (L + 1), .. to the base 2 ^ n -/
noncomputable def hv (n : Nat) (f : Nat → Nat) (L : Nat) : Nat → Nat
  | 0 => 0
  | k + 1 => f L + 2 ^ n * hv n f (L + 1) k
theorem hv_add (n : Nat) (f : Nat → Nat) (j k : Nat) : ∀ L, hv n f L (j + k) = hv n f L j + 2 ^ (n * j) * hv n f (L + j) k := by
  induction j with
  | zero => intro L; simp [hv]
  | succ j ih =>
    intro L
    rw [show j + 1 + k = (j + k) + 1 from by omega, hv, ih, hv, show L + 1 + j = L + (j + 1) from by omega, Nat.mul_add, Nat.add_assoc, ← Nat.mul_assoc, ← Nat.pow_add, show n * (j + 1) = n + n * j from by rw [Nat.mul_add]; omega]
theorem hv_lt (n : Nat) (f : Nat → Nat) (hf : ∀ i, f i < 2 ^ n) (k : Nat) : ∀ L, hv n f L k < 2 ^ (n * k) := by
  induction k with
  | zero => intro L; simp [hv]
  | succ k ih =>
    intro L
    rw [hv, Nat.mul_add, Nat.pow_add, Nat.mul_one, Nat.mul_comm (2 ^ (n * k))]
    have h1 := hf L
    have h2 : 2 ^ n * (hv n f (L + 1) k + 1) ≤ 2 ^ n * 2 ^ (n * k) := Nat.mul_le_mul_left _ (ih (L + 1))
    rw [Nat.mul_add] at h2
    omega
theorem hv_one (n : Nat) (f : Nat → Nat) (L : Nat) : hv n f L 1 = f L := by simp [hv]
theorem int_eq {a b : Int} {t : Tok} (h : a = b) : Value.int a t = Value.int b t := by rw [h]
noncomputable abbrev innerDL (rd c lst cA cI cN : Addr) (oc oA oI oN : Obj) (name qual : Str) (params : Arguments) (body : List Stmt) (scope : Scope) (doc pm ct : Value) (vals : List Value) (k : Nat) : List (Addr × Obj) :=
  [(rd, { cls := .type "function", data := .func (fnX name qual params body scope [("n", cN), ("inner", cI), ("digits", cA)] .none .none doc pm none (.ref c) ct) }), (c, oc), (lst, listOf vals.toArray k), (cA, oA), (cI, oI), (cN, oN)]
theorem innerD_c (w : World) (rd c lst cA cI cN : Addr) (oc oA oI oN : Obj) (name qual : Str) (params : Arguments) (body : List Stmt) (scope : Scope) (doc pm ct : Value) (vs : Array Value) (tq : Tok) (n : Nat) (un : Tok)
    (hdef : nestedDef ((hd.heap_1 w.params).lookup 49) 0 = some (params, body, scope)) (hcd : oc.data = .fields vs) (hvs : vs[1]? = some (.str qual tq)) (hA : oA.data = .cell (some (.ref lst))) (hI : oI.data = .cell (some (.ref rd))) (hN : oN.data = .cell (some (.int (n : Int) un)))
    (n1 : lst ≠ rd) (n2 : lst ≠ c) (n3 : lst ≠ cA) (n4 : lst ≠ cI) (n5 : lst ≠ cN) (hn : 0 < n) (hn2 : n < 5000)
    (vals : List Value) (ns : List Int) (k : Nat) (f : Nat → Nat) (hvn : IntsAre vals ns) (hl : ns.length ≤ 5000) (hf : ∀ i, f i < 2 ^ n) (hfn : ∀ i, ns.getD i 0 = (f i : Int)) (d : Nat) :
    ∀ (Lo Hi : Nat) (tL tR : Tok), Lo < Hi → Hi ≤ ns.length → Hi - Lo ≤ d →
    Con w (d + 2) (4 * d + 40) rd [.int Lo tL, .int Hi tR] (innerDL rd c lst cA cI cN oc oA oI oN name qual params body scope doc pm ct vals k)
      (fun _ v blk => (∃ t, v = .int (hv n f Lo (Hi - Lo) : Nat) t) ∧ blk = innerDL rd c lst cA cI cN oc oA oI oN name qual params body scope doc pm ct vals k) := by
  induction d with
  | zero => intro Lo Hi tL tR hLR hR hd0; exact absurd hd0 (by omega)
  | succ d IH =>
  intro Lo Hi tL tR hLR hR hd0
  have hlv := hvn.length
  revert hdef
  unfold Con
  k_fill
  intro hdef dp un' gd outer base g tp tl mean mg mb s R B hg hsz hsel X T hd hu ret
  have hdef0 := hdef
  refine' nested_out ?hl hdef ?_
  (case hl => k_is)
  clear hdef
  intro hdef
  cases hdef
  refine' enter_m hg hsz hsel T (.head _) rfl (.tail _ (.head _)) hcd hvs ?k8 ?k9 ?kB ?_ ?c2 ?c3 ?c4 ?c5
  (case k8 => k_room); (case k9 => exact BindsTo.of_eq rfl); (case c5 => decide); (case kB => exact locs rfl); (case c2 => exact rfl); (case c3 => exact rfl); (case c4 => exact rfl)
  intro L' h' tk' F' N' l1
  (try dsimp only); (try k_fold)
  have codeHd := codeHd_of_K (c := 48) (P := 44) X (by kernel_rfl)
  simp only [innerDL] at N'
  have hLm : Lo ≤ (Lo + Hi) / 2 := by omega
  ((repeat' ((fail_if_success (with_reducible show wpAny _ _ (call (Value.ref rd) _) _ _ _)); (first | ((with_reducible show wpAny _ _ (binaryOp Operator.RShift _ (Value.int 1 _)) _ _ _); refine half_nn ?_) | ((with_reducible show wpAny _ _ (binaryOp Operator.Mult _ _) _ _ _); refine mulsub_nn hLm hn2 ?_) | (k_unfold; (try dsimp only)) | ((with_reducible first | show wpAny _ _ (exec _ _) _ _ _ | show wpAny _ _ (execs _ _) _ _ _); k_fold) | (k_end; wrow_close) | walk1 | (dsimp only; walk1) | (leave1; (try dsimp only))))) <;> (repeat (k_unfold; (try dsimp only))))
  · (try dsimp only)
    rename Fr _ _ _ _ => F9
    rename News _ _ _ _ => N9
    rename ((Lo : Int) + 1 = (Hi : Int)) => hone
    have hH : Hi = Lo + 1 := by omega
    subst hH
    refine ret _ _ _ _ F9.keep (fun r hr => ⟨(N9 r hr).1, (N9 r hr).2.2⟩) ⟨⟨_, int_eq ?_⟩, rfl⟩
    rw [show Lo + 1 - Lo = 1 from by omega, hv_one, ← hfn, Int.toNat_natCast]
  · rename Fr _ _ _ _ => F9
    rename News _ _ _ _ => N9
    rename (¬ ((Lo : Int) + 1 = (Hi : Int))) => hone
    obtain ⟨mid, hmid⟩ : ∃ mid, mid = (Lo + Hi) / 2 := ⟨_, rfl⟩
    rw [← hmid] at F9
    rw [← hmid]
    have hm1 : Lo < mid := by omega
    have hm2 : mid < Hi := by omega
    refine use_g (IH mid Hi _ _ hm2 hR (half_hi hm1 hm2 hd0)) (oth := []) B F9 X N9 T rfl rfl (fun p hp => hp) (fun p hp => nomatch hp) (fun p hp => nomatch hp) ?_ ?_ ?_
    · k_room
    · k_units
    rintro v2 sel2 h2 tk2 F2 N2 - - ⟨⟨t2, rfl⟩, rfl⟩
    simp only [innerDL, List.append_nil] at N2
    clear F9 N9
    (try dsimp only)
    have hb1 := hv_lt n f hf (Hi - mid) mid
    have hsh : n * (Hi - mid) + n * (mid - Lo) ≤ 2 ^ 27 := by
      have hH5 := Nat.le_trans hR hl
      have h1 : n * (Hi - mid) ≤ 5000 * 5000 := Nat.mul_le_mul (Nat.le_of_lt hn2) (Nat.le_trans (Nat.sub_le _ _) hH5)
      have h2 : n * (mid - Lo) ≤ 5000 * 5000 := Nat.mul_le_mul (Nat.le_of_lt hn2) (Nat.le_trans (Nat.sub_le _ _) (Nat.le_trans (Nat.le_of_lt hm2) hH5))
      have e2 : (2 : Nat) ^ 27 = 134217728 := by decide
      omega
    ((repeat' ((fail_if_success (with_reducible show wpAny _ _ (call (Value.ref rd) _) _ _ _)); (first | ((with_reducible show wpAny _ _ (binaryOp Operator.LShift _ _) _ _ _); refine shl_nn hb1 hsh ?_) | (k_unfold; (try dsimp only)) | ((with_reducible first | show wpAny _ _ (exec _ _) _ _ _ | show wpAny _ _ (execs _ _) _ _ _); k_fold) | (k_end; wrow_close) | walk1 | (dsimp only; walk1) | (leave1; (try dsimp only))))) <;> (repeat (k_unfold; (try dsimp only))))
    rename Fr _ _ _ _ => F9
    rename News _ _ _ _ => N9
    refine use_g (IH Lo mid _ _ hm1 (Nat.le_trans (Nat.le_of_lt hm2) hR) (half_lo hm1 hm2 hd0)) (oth := []) B F9 X N9 T rfl rfl (fun p hp => hp) (fun p hp => nomatch hp) (fun p hp => nomatch hp) ?_ ?_ ?_
    · k_room
    · k_units
    rintro v3 sel3 h3 tk3 F3 N3 - - ⟨⟨t3, rfl⟩, rfl⟩
    simp only [innerDL, List.append_nil] at N3
    clear F9 N9
    (try dsimp only)
    ((repeat' (first | (k_unfold; (try dsimp only)) | ((with_reducible first | show wpAny _ _ (exec _ _) _ _ _ | show wpAny _ _ (execs _ _) _ _ _); k_fold) | (k_end; wrow_close) | walk1 | (dsimp only; walk1) | (leave1; (try dsimp only)))) <;> (repeat (k_unfold; (try dsimp only))))
    (try dsimp only)
    rename Fr _ _ _ _ => F9
    rename News _ _ _ _ => N9
    refine ret _ _ _ _ F9.keep (fun r hr => ⟨(N9 r hr).1, (N9 r hr).2.2⟩) ⟨⟨_, int_eq ?_⟩, rfl⟩
    have e := hv_add n f (mid - Lo) (Hi - mid) Lo
    rw [show mid - Lo + (Hi - mid) = Hi - Lo from by rw [Nat.add_comm]; exact Nat.sub_add_sub_cancel (Nat.le_of_lt hm2) (Nat.le_of_lt hm1), show Lo + (mid - Lo) = mid from Nat.add_sub_cancel' (Nat.le_of_lt hm1)] at e
    rw [e]
    rw [Int.natCast_add, Nat.mul_comm, Int.add_comm]
/-- the table of code objects of a def with one inner def: empty, or the inner def's code -/
noncomputable def TabSt (P : Addr) (line col : Nat) (qual : Str) (tb : List (Addr × Obj)) : Prop :=
  tb = [(P, tabObj #[])] ∨ ∃ (c : Addr) (oc : Obj) (vs : Array Value) (t : Tok), tb = [(P, tabObj #[rawInt line, rawInt col, .ref c]), (c, oc)] ∧ oc.data = .fields vs ∧ vs[1]? = some (.str qual t) ∧ c ≠ P
theorem fdivlen {prog : Program} {w : World} {A : Around} {E : Value → Shared → Prop} {s : Shared} {t u : Tok} {Q : Value → Shared → Prop} {b n len : Nat} (hn : 0 < n) (hn2 : n < 5000) (hlen : len = (b + n - 1) / n)
    (h : Q (.int (len : Int) s.toks) { s with toks := s.toks + 1 }) : wpAny (model prog w) A (binaryOp .FloorDiv (.int ((b : Int) + (n : Int) - 1) t) (.int (n : Int) u)) Q E s := by
  refine floordiv_int (by omega) ?_ (.inl (PyProof.noPylong_small (by omega)))
  have e : Int.fdiv ((b : Int) + (n : Int) - 1) (n : Int) = (len : Int) := by
    rw [hlen, ← fdiv_nn]; congr 1; omega
  rw [e]; exact h
/-- the digits of a to the base 2 ^ n, the lowest first -/
noncomputable def digsOf (n len a : Nat) : List Int := (List.range len).map fun i => ((dig n a i : Nat) : Int)
/-- a new list of digits, and the def's table -/
noncomputable def DigsAt (P line col : Nat) (qual : Str) (v : Value) (ns : List Int) (blk : List (Addr × Obj)) : Prop :=
  ∃ D vals k tb, v = .ref D ∧ blk = (D, listOf vals.toArray k) :: tb ∧ IntsAre vals ns ∧ TabSt P line col qual tb ∧ (∀ p ∈ tb, p.1 ≠ D)
theorem digs_eq {n len a : Nat} {ns : List Int} (h1 : ns.length = len) (h2 : ∀ i, ns.getD i 0 = if 0 ≤ i ∧ i < len then ((dig n a (i - 0) : Nat) : Int) else (List.replicate len (0 : Int)).getD i 0) : ns = digsOf n len a := by
  apply List.ext_getElem
  · simp [digsOf, h1]
  · intro i hi hi2
    have := h2 i
    rw [if_pos ⟨Nat.zero_le _, by omega⟩, List.getD_eq_getElem?_getD, List.getElem?_eq_getElem hi] at this
    simpa [digsOf] using this
theorem rep_flat {α : Type} (x : α) (q : Nat) : (List.replicate q [x]).flatten = List.replicate q x := by
  induction q with
  | zero => rfl
  | succ q ih => rw [List.replicate_succ, List.replicate_succ, List.flatten_cons, ih]; rfl
section
variable {dp un : Nat} {gd : Option (List Code)} {env : Env} {outer : List Env} {A₀ : Around} {base h₀ : Heap} {L : Addr} {m : Str → Option Value} {tp : Program} {tl : List Str} {mean : ExcName → Option Value} {mg mb : Str → Option Value} {s : Shared} {w : World}
theorem i2d_call {Q E : Value → Shared → Prop} {news : List (Addr × Obj)} {rd c lst cA cI cN : Addr} {oc oA oI oN : Obj} {name qual : Str} {params : Arguments} {body : List Stmt} {scope : Scope} {doc pm ct : Value} {vs tab : Array Value} {tq : Tok} {n a len : Nat} {un' t1 t2 t3 : Tok} {vals : List Value} {ns : List Int} {k : Nat}
    (B : Below A₀ base outer h₀) (F : Fr h₀ L s.heap m) (X : (hd.heap_1 w.params).In h₀) (N : News h₀ L s.heap news) (T : Top tp tl mean mg mb h₀) (hf : env.frame = some L) (hke : env.scope.kind = .function)
    (m1 : (rd, { cls := .type "function", data := .func (fnX name qual params body scope [("n", cN), ("inner", cI), ("a_digits", cA)] .none .none doc pm none (.ref c) ct) }) ∈ news) (m2 : (c, oc) ∈ news) (m3 : (lst, listOf vals.toArray k) ∈ news) (m4 : (cA, oA) ∈ news) (m5 : (cI, oI) ∈ news) (m6 : (cN, oN) ∈ news)
    (m7 : (37, tabObj tab) ∈ news)
    (hdef : nestedDef ((hd.heap_1 w.params).lookup 42) 1 = some (params, body, scope)) (hcd : oc.data = .fields vs) (hvs : vs[1]? = some (.str qual tq)) (hA : oA.data = .cell (some (.ref lst))) (hI : oI.data = .cell (some (.ref rd))) (hN : oN.data = .cell (some (.int (n : Int) un')))
    (n1 : lst ≠ rd) (n2 : lst ≠ c) (n3 : lst ≠ cA) (n4 : lst ≠ cI) (n5 : lst ≠ cN) (q1 : rd ≠ 37) (q2 : c ≠ 37) (q3 : lst ≠ 37) (q4 : cA ≠ 37) (q5 : cI ≠ 37) (q6 : cN ≠ 37)
    (hn : 0 < n) (hn2 : n < 5000) (ha : a < 2 ^ 4000) (hal : a < 2 ^ (n * len)) (hi : IntsAre vals ns) (hz : ns = List.replicate len 0) (hl0 : 0 < len) (hl60 : len ≤ 60)
    (hd : dp + 65 < recursionLimit) (hu : un + 300 < cLine)
    (ret : ∀ vals' k' h' tk', IntsAre vals' (digsOf n len a) → Fr h₀ L h' m → News h₀ L h' (innerIL rd c lst cA cI cN oc oA oI oN name qual params body scope doc pm ct vals' k' ++ [(37, tabObj tab)]) → Q .none { s with heap := h', toks := tk' }) :
    wpAny (model Challenge.rw_pe0259_03.row.prog w) (Ar dp un gd (env :: outer)) (call (.ref rd) [.int (a : Int) t1, .int 0 t2, .int (len : Int) t3]) Q E s := by
  have hnl : ns.length = len := by rw [hz, List.length_replicate]
  refine use_g (innerI_c w rd c lst cA cI cN oc oA oI oN name qual params body scope doc pm ct vs tq n un' hdef hcd hvs hA hI hN n1 n2 n3 n4 n5 hn hn2 len vals ns k a 0 len t1 t2 t3 hi (by omega) hl0 (by omega) (by omega) hal
    (Nat.lt_of_lt_of_le ha (Nat.pow_le_pow_right (by omega) (by omega)))) (oth := [(37, tabObj tab)]) B F X N T hf hke ?_ ?_ ?_ (by omega) (by omega) ?_
  · exact List.forall_mem_cons.mpr ⟨m1, List.forall_mem_cons.mpr ⟨m2, List.forall_mem_cons.mpr ⟨m3, List.forall_mem_cons.mpr ⟨m4, List.forall_mem_cons.mpr ⟨m5, List.forall_mem_cons.mpr ⟨m6, List.forall_mem_nil _⟩⟩⟩⟩⟩⟩
  · exact List.forall_mem_cons.mpr ⟨m7, List.forall_mem_nil _⟩
  · exact List.forall_mem_cons.mpr ⟨List.forall_mem_cons.mpr ⟨q1.symm, List.forall_mem_cons.mpr ⟨q2.symm, List.forall_mem_cons.mpr ⟨q3.symm, List.forall_mem_cons.mpr ⟨q4.symm, List.forall_mem_cons.mpr ⟨q5.symm, List.forall_mem_cons.mpr ⟨q6.symm, List.forall_mem_nil _⟩⟩⟩⟩⟩⟩, List.forall_mem_nil _⟩
  rintro v sel' h' tk' F' N' - - ⟨rfl, vals', ns', k', hi', hl', hg', rfl⟩
  have e := digs_eq (ns := ns') (n := n) (a := a) (len := len) (by omega) (by rw [hz] at hg'; exact hg')
  exact ret vals' k' h' tk' (e ▸ hi') F' N'
end
theorem i2d_post {g h : Heap} {L : Addr} {news : List (Addr × Obj)} {P line col : Nat} {qual : Str} {D c : Addr} {vals : List Value} {k : Nat} {ns : List Int} {oc : Obj} {vs tab : Array Value} {t : Tok} (N : News g L h news)
    (m1 : (D, listOf vals.toArray k) ∈ news) (m2 : (P, tabObj tab) ∈ news) (htab : tab = #[rawInt line, rawInt col, .ref c]) (m3 : (c, oc) ∈ news) (hi : IntsAre vals ns) (hcd : oc.data = .fields vs) (hvs : vs[1]? = some (.str qual t)) (q1 : c ≠ P) (q2 : D ≠ P) (q3 : D ≠ c) :
    ∃ sel', (∀ p ∈ sel', h.get? p.1 = some p.2 ∧ g.get? p.1 = none) ∧ DigsAt P line col qual (.ref D) ns sel' := by
  subst htab
  refine ⟨_, ?_, D, vals, k, _, rfl, rfl, hi, .inr ⟨c, oc, vs, t, rfl, hcd, hvs, q1⟩, ?_⟩
  · have hm : ∀ p ∈ _, p ∈ news := List.forall_mem_cons.mpr ⟨m1, List.forall_mem_cons.mpr ⟨m2, List.forall_mem_cons.mpr ⟨m3, List.forall_mem_nil _⟩⟩⟩
    exact fun p hp => ⟨(N p (hm p hp)).1, (N p (hm p hp)).2.2⟩
  · exact List.forall_mem_cons.mpr ⟨q2.symm, List.forall_mem_cons.mpr ⟨q3.symm, List.forall_mem_nil _⟩⟩
theorem len_le {a n len : Nat} (hn : 0 < n) (hlen : len = (Builtin.Int.intBits (a : Int) + n - 1) / n) : a < 2 ^ (n * len) ∧ (a ≠ 0 → 0 < len) ∧ (a = 0 → len = 0) := by
  have h1 := lt_bits a
  refine ⟨Nat.lt_of_lt_of_le h1 (Nat.pow_le_pow_right (by omega) ?_), fun h => ?_, fun h => ?_⟩
  · have := Nat.lt_mul_div_succ (Builtin.Int.intBits (a : Int) + n - 1) hn
    rw [hlen, Nat.mul_comm]
    rw [Nat.mul_comm, Nat.add_mul, Nat.one_mul] at this
    omega
  · rw [hlen]
    apply Nat.div_pos _ hn
    have : Builtin.Int.intBits (a : Int) ≠ 0 := fun e => by rw [e] at h1; omega
    omega
  · subst h
    rw [hlen]
    show ((0 : Nat) + n - 1) / n = 0
    exact Nat.div_eq_of_lt (by omega)
theorem nat_of {x y : Nat} (h : (x : Int) = ((0 + 1 : Nat) : Int) * (y : Int)) : y = x := by omega
theorem int2digits_c (w : World) (a n len : Nat) (ta tn : Tok) (tb : List (Addr × Obj)) (TS : TabSt 37 35 4 "_int2digits.<locals>.inner" tb) (hn : 0 < n) (hn2 : n < 5000) (ha : a < 2 ^ 4000) (hlen : len = (Builtin.Int.intBits (a : Int) + n - 1) / n) (hl60 : len ≤ 60) :
    Con w 70 400 42 [.int a ta, .int n tn] tb (fun _ v blk => DigsAt 37 35 4 "_int2digits.<locals>.inner" v (digsOf n len a) blk) := by
  obtain ⟨b1, b2, b3⟩ := len_le hn hlen
  rcases TS with rfl | ⟨c0, oc0, vs0, t0, rfl, hcd0, hvs0, hcP⟩
  all_goals
    unfold Con
    k_fill
    intro dp un gd outer base g tp tl mean mg mb s R B hg hsz hsel X T hd hu ret
    refine' enter_gc hg hsz hsel X T ?k6 ?k7 ?k8 ?k9 ?kB ?kD ?_ ?c2 ?c3 ?c4
    (case k6 => k_is); (case k7 => k_is); (case k8 => ktr_room); (case k9 => exact BindsTo.of_eq rfl); (case kB => exact rfl); (case kD => decide +kernel); (case c2 => exact rfl); (case c3 => exact rfl); (case c4 => exact rfl)
    k_whole
    intro L' h' tk' cells' F' N' Y' l1
    (try k_lt l1); k_cells Y'; (try simp only [List.cons_append, List.nil_append] at N')
    have codeHd := codeHd_of_K (c := 41) (P := 37) X (by kernel_rfl)
    (try dsimp only); (try k_fold)
    ((repeat' ((fail_if_success (with_reducible show wpAny _ _ (call (Value.ref _) _) _ _ _)); (first | ((with_reducible show wpAny _ _ (binaryOp Operator.FloorDiv _ _) _ _ _); refine fdivlen hn hn2 hlen ?_) | (k_unfold; (try dsimp only)) | ((with_reducible first | show wpAny _ _ (exec _ _) _ _ _ | show wpAny _ _ (execs _ _) _ _ _); k_fold) | (k_end; wrow_close) | walk1 | (dsimp only; walk1) | (leave1; (try dsimp only))))) <;> (repeat (k_unfold; (try dsimp only))))
    · rename Fr _ _ _ _ => F9
      rename News _ _ _ _ => N9
      rename IntsAre _ _ => hi9
      rename ((a : Int) ≠ 0) => hane
      rename (0 ≤ (len : Int) → _) => e9
      have hn9 := nat_of (e9 (Int.natCast_nonneg _))
      subst hn9
      rw [Int.toNat_natCast] at hi9 N9
      refine i2d_call B F9 X N9 T rfl rfl (by k_mem) (by k_mem) (by k_mem) (by k_mem) (by k_mem) (by k_mem) (by k_mem) (by exact rfl) (by assumption) (by assumption) (by assumption) (by assumption) (by assumption)
        (by first | assumption | (refine Ne.symm ?_; assumption) | (refine neN ?_; (try dsimp only); first | (refine Nat.ne_of_gt ?_; with_reducible ((repeat (first | assumption | exact And.left (by assumption) | exact And.left (And.right (by assumption)) | exact And.right (And.right (by assumption)) | exact And.right (by assumption) | exact And.left (And.right (And.right (by assumption))) | exact And.right (And.right (And.right (by assumption))) | exact And.left (And.right (And.right (And.right (by assumption)))) | exact And.left (And.right (And.right (And.right (And.right (by assumption))))) | refine Nat.lt_trans ?_ (by assumption))); done)) | (refine Nat.ne_of_lt ?_; with_reducible ((repeat (first | assumption | exact And.left (by assumption) | exact And.left (And.right (by assumption)) | exact And.right (And.right (by assumption)) | exact And.right (by assumption) | exact And.left (And.right (And.right (by assumption))) | exact And.right (And.right (And.right (by assumption))) | exact And.left (And.right (And.right (And.right (by assumption)))) | exact And.left (And.right (And.right (And.right (And.right (by assumption))))) | refine Nat.lt_trans ?_ (by assumption))); done)) | omega)) (by first | assumption | (refine Ne.symm ?_; assumption) | (refine neN ?_; (try dsimp only); first | (refine Nat.ne_of_gt ?_; with_reducible ((repeat (first | assumption | exact And.left (by assumption) | exact And.left (And.right (by assumption)) | exact And.right (And.right (by assumption)) | exact And.right (by assumption) | exact And.left (And.right (And.right (by assumption))) | exact And.right (And.right (And.right (by assumption))) | exact And.left (And.right (And.right (And.right (by assumption)))) | exact And.left (And.right (And.right (And.right (And.right (by assumption))))) | refine Nat.lt_trans ?_ (by assumption))); done)) | (refine Nat.ne_of_lt ?_; with_reducible ((repeat (first | assumption | exact And.left (by assumption) | exact And.left (And.right (by assumption)) | exact And.right (And.right (by assumption)) | exact And.right (by assumption) | exact And.left (And.right (And.right (by assumption))) | exact And.right (And.right (And.right (by assumption))) | exact And.left (And.right (And.right (And.right (by assumption)))) | exact And.left (And.right (And.right (And.right (And.right (by assumption))))) | refine Nat.lt_trans ?_ (by assumption))); done)) | omega)) (by first | assumption | (refine Ne.symm ?_; assumption) | (refine neN ?_; (try dsimp only); first | (refine Nat.ne_of_gt ?_; with_reducible ((repeat (first | assumption | exact And.left (by assumption) | exact And.left (And.right (by assumption)) | exact And.right (And.right (by assumption)) | exact And.right (by assumption) | exact And.left (And.right (And.right (by assumption))) | exact And.right (And.right (And.right (by assumption))) | exact And.left (And.right (And.right (And.right (by assumption)))) | exact And.left (And.right (And.right (And.right (And.right (by assumption))))) | refine Nat.lt_trans ?_ (by assumption))); done)) | (refine Nat.ne_of_lt ?_; with_reducible ((repeat (first | assumption | exact And.left (by assumption) | exact And.left (And.right (by assumption)) | exact And.right (And.right (by assumption)) | exact And.right (by assumption) | exact And.left (And.right (And.right (by assumption))) | exact And.right (And.right (And.right (by assumption))) | exact And.left (And.right (And.right (And.right (by assumption)))) | exact And.left (And.right (And.right (And.right (And.right (by assumption))))) | refine Nat.lt_trans ?_ (by assumption))); done)) | omega)) (by first | assumption | (refine Ne.symm ?_; assumption) | (refine neN ?_; (try dsimp only); first | (refine Nat.ne_of_gt ?_; with_reducible ((repeat (first | assumption | exact And.left (by assumption) | exact And.left (And.right (by assumption)) | exact And.right (And.right (by assumption)) | exact And.right (by assumption) | exact And.left (And.right (And.right (by assumption))) | exact And.right (And.right (And.right (by assumption))) | exact And.left (And.right (And.right (And.right (by assumption)))) | exact And.left (And.right (And.right (And.right (And.right (by assumption))))) | refine Nat.lt_trans ?_ (by assumption))); done)) | (refine Nat.ne_of_lt ?_; with_reducible ((repeat (first | assumption | exact And.left (by assumption) | exact And.left (And.right (by assumption)) | exact And.right (And.right (by assumption)) | exact And.right (by assumption) | exact And.left (And.right (And.right (by assumption))) | exact And.right (And.right (And.right (by assumption))) | exact And.left (And.right (And.right (And.right (by assumption)))) | exact And.left (And.right (And.right (And.right (And.right (by assumption))))) | refine Nat.lt_trans ?_ (by assumption))); done)) | omega)) (by first | assumption | (refine Ne.symm ?_; assumption) | (refine neN ?_; (try dsimp only); first | (refine Nat.ne_of_gt ?_; with_reducible ((repeat (first | assumption | exact And.left (by assumption) | exact And.left (And.right (by assumption)) | exact And.right (And.right (by assumption)) | exact And.right (by assumption) | exact And.left (And.right (And.right (by assumption))) | exact And.right (And.right (And.right (by assumption))) | exact And.left (And.right (And.right (And.right (by assumption)))) | exact And.left (And.right (And.right (And.right (And.right (by assumption))))) | refine Nat.lt_trans ?_ (by assumption))); done)) | (refine Nat.ne_of_lt ?_; with_reducible ((repeat (first | assumption | exact And.left (by assumption) | exact And.left (And.right (by assumption)) | exact And.right (And.right (by assumption)) | exact And.right (by assumption) | exact And.left (And.right (And.right (by assumption))) | exact And.right (And.right (And.right (by assumption))) | exact And.left (And.right (And.right (And.right (by assumption)))) | exact And.left (And.right (And.right (And.right (And.right (by assumption))))) | refine Nat.lt_trans ?_ (by assumption))); done)) | omega)) (by first | assumption | (refine Ne.symm ?_; assumption) | (refine neN ?_; (try dsimp only); first | (refine Nat.ne_of_gt ?_; with_reducible ((repeat (first | assumption | exact And.left (by assumption) | exact And.left (And.right (by assumption)) | exact And.right (And.right (by assumption)) | exact And.right (by assumption) | exact And.left (And.right (And.right (by assumption))) | exact And.right (And.right (And.right (by assumption))) | exact And.left (And.right (And.right (And.right (by assumption)))) | exact And.left (And.right (And.right (And.right (And.right (by assumption))))) | refine Nat.lt_trans ?_ (by assumption))); done)) | (refine Nat.ne_of_lt ?_; with_reducible ((repeat (first | assumption | exact And.left (by assumption) | exact And.left (And.right (by assumption)) | exact And.right (And.right (by assumption)) | exact And.right (by assumption) | exact And.left (And.right (And.right (by assumption))) | exact And.right (And.right (And.right (by assumption))) | exact And.left (And.right (And.right (And.right (by assumption)))) | exact And.left (And.right (And.right (And.right (And.right (by assumption))))) | refine Nat.lt_trans ?_ (by assumption))); done)) | omega)) (by first | assumption | (refine Ne.symm ?_; assumption) | (refine neN ?_; (try dsimp only); first | (refine Nat.ne_of_gt ?_; with_reducible ((repeat (first | assumption | exact And.left (by assumption) | exact And.left (And.right (by assumption)) | exact And.right (And.right (by assumption)) | exact And.right (by assumption) | exact And.left (And.right (And.right (by assumption))) | exact And.right (And.right (And.right (by assumption))) | exact And.left (And.right (And.right (And.right (by assumption)))) | exact And.left (And.right (And.right (And.right (And.right (by assumption))))) | refine Nat.lt_trans ?_ (by assumption))); done)) | (refine Nat.ne_of_lt ?_; with_reducible ((repeat (first | assumption | exact And.left (by assumption) | exact And.left (And.right (by assumption)) | exact And.right (And.right (by assumption)) | exact And.right (by assumption) | exact And.left (And.right (And.right (by assumption))) | exact And.right (And.right (And.right (by assumption))) | exact And.left (And.right (And.right (And.right (by assumption)))) | exact And.left (And.right (And.right (And.right (And.right (by assumption))))) | refine Nat.lt_trans ?_ (by assumption))); done)) | omega)) (by first | assumption | (refine Ne.symm ?_; assumption) | (refine neN ?_; (try dsimp only); first | (refine Nat.ne_of_gt ?_; with_reducible ((repeat (first | assumption | exact And.left (by assumption) | exact And.left (And.right (by assumption)) | exact And.right (And.right (by assumption)) | exact And.right (by assumption) | exact And.left (And.right (And.right (by assumption))) | exact And.right (And.right (And.right (by assumption))) | exact And.left (And.right (And.right (And.right (by assumption)))) | exact And.left (And.right (And.right (And.right (And.right (by assumption))))) | refine Nat.lt_trans ?_ (by assumption))); done)) | (refine Nat.ne_of_lt ?_; with_reducible ((repeat (first | assumption | exact And.left (by assumption) | exact And.left (And.right (by assumption)) | exact And.right (And.right (by assumption)) | exact And.right (by assumption) | exact And.left (And.right (And.right (by assumption))) | exact And.right (And.right (And.right (by assumption))) | exact And.left (And.right (And.right (And.right (by assumption)))) | exact And.left (And.right (And.right (And.right (And.right (by assumption))))) | refine Nat.lt_trans ?_ (by assumption))); done)) | omega)) (by first | assumption | (refine Ne.symm ?_; assumption) | (refine neN ?_; (try dsimp only); first | (refine Nat.ne_of_gt ?_; with_reducible ((repeat (first | assumption | exact And.left (by assumption) | exact And.left (And.right (by assumption)) | exact And.right (And.right (by assumption)) | exact And.right (by assumption) | exact And.left (And.right (And.right (by assumption))) | exact And.right (And.right (And.right (by assumption))) | exact And.left (And.right (And.right (And.right (by assumption)))) | exact And.left (And.right (And.right (And.right (And.right (by assumption))))) | refine Nat.lt_trans ?_ (by assumption))); done)) | (refine Nat.ne_of_lt ?_; with_reducible ((repeat (first | assumption | exact And.left (by assumption) | exact And.left (And.right (by assumption)) | exact And.right (And.right (by assumption)) | exact And.right (by assumption) | exact And.left (And.right (And.right (by assumption))) | exact And.right (And.right (And.right (by assumption))) | exact And.left (And.right (And.right (And.right (by assumption)))) | exact And.left (And.right (And.right (And.right (And.right (by assumption))))) | refine Nat.lt_trans ?_ (by assumption))); done)) | omega)) (by first | assumption | (refine Ne.symm ?_; assumption) | (refine neN ?_; (try dsimp only); first | (refine Nat.ne_of_gt ?_; with_reducible ((repeat (first | assumption | exact And.left (by assumption) | exact And.left (And.right (by assumption)) | exact And.right (And.right (by assumption)) | exact And.right (by assumption) | exact And.left (And.right (And.right (by assumption))) | exact And.right (And.right (And.right (by assumption))) | exact And.left (And.right (And.right (And.right (by assumption)))) | exact And.left (And.right (And.right (And.right (And.right (by assumption))))) | refine Nat.lt_trans ?_ (by assumption))); done)) | (refine Nat.ne_of_lt ?_; with_reducible ((repeat (first | assumption | exact And.left (by assumption) | exact And.left (And.right (by assumption)) | exact And.right (And.right (by assumption)) | exact And.right (by assumption) | exact And.left (And.right (And.right (by assumption))) | exact And.right (And.right (And.right (by assumption))) | exact And.left (And.right (And.right (And.right (by assumption)))) | exact And.left (And.right (And.right (And.right (And.right (by assumption))))) | refine Nat.lt_trans ?_ (by assumption))); done)) | omega)) (by first | assumption | (refine Ne.symm ?_; assumption) | (refine neN ?_; (try dsimp only); first | (refine Nat.ne_of_gt ?_; with_reducible ((repeat (first | assumption | exact And.left (by assumption) | exact And.left (And.right (by assumption)) | exact And.right (And.right (by assumption)) | exact And.right (by assumption) | exact And.left (And.right (And.right (by assumption))) | exact And.right (And.right (And.right (by assumption))) | exact And.left (And.right (And.right (And.right (by assumption)))) | exact And.left (And.right (And.right (And.right (And.right (by assumption))))) | refine Nat.lt_trans ?_ (by assumption))); done)) | (refine Nat.ne_of_lt ?_; with_reducible ((repeat (first | assumption | exact And.left (by assumption) | exact And.left (And.right (by assumption)) | exact And.right (And.right (by assumption)) | exact And.right (by assumption) | exact And.left (And.right (And.right (by assumption))) | exact And.right (And.right (And.right (by assumption))) | exact And.left (And.right (And.right (And.right (by assumption)))) | exact And.left (And.right (And.right (And.right (And.right (by assumption))))) | refine Nat.lt_trans ?_ (by assumption))); done)) | omega)) hn hn2 ha b1 hi9 (rep_flat _ _) (b2 (by omega)) hl60 (by k_room) (by k_units) ?_
      intro vals2 k2 h2 tk2 hi2 F2 N2
      simp only [innerIL, List.cons_append, List.nil_append] at N2
      clear F9 N9
      (try dsimp only)
      ((repeat' (first | (k_unfold; (try dsimp only)) | ((with_reducible first | show wpAny _ _ (exec _ _) _ _ _ | show wpAny _ _ (execs _ _) _ _ _); k_fold) | (k_end; wrow_close) | walk1 | (dsimp only; walk1) | (leave1; (try dsimp only)))) <;> (repeat (k_unfold; (try dsimp only))))
      (try dsimp only)
      rename Fr _ _ _ _ => F9
      rename News _ _ _ _ => N9
      refine (i2d_post N9 (by k_mem) (by k_mem) (by exact rfl) (by k_mem) hi2 (by assumption) (by assumption) (by first | assumption | (refine Ne.symm ?_; assumption) | (refine neN ?_; (try dsimp only); first | (refine Nat.ne_of_gt ?_; with_reducible ((repeat (first | assumption | exact And.left (by assumption) | exact And.left (And.right (by assumption)) | exact And.right (And.right (by assumption)) | exact And.right (by assumption) | exact And.left (And.right (And.right (by assumption))) | exact And.right (And.right (And.right (by assumption))) | exact And.left (And.right (And.right (And.right (by assumption)))) | exact And.left (And.right (And.right (And.right (And.right (by assumption))))) | refine Nat.lt_trans ?_ (by assumption))); done)) | (refine Nat.ne_of_lt ?_; with_reducible ((repeat (first | assumption | exact And.left (by assumption) | exact And.left (And.right (by assumption)) | exact And.right (And.right (by assumption)) | exact And.right (by assumption) | exact And.left (And.right (And.right (by assumption))) | exact And.right (And.right (And.right (by assumption))) | exact And.left (And.right (And.right (And.right (by assumption)))) | exact And.left (And.right (And.right (And.right (And.right (by assumption))))) | refine Nat.lt_trans ?_ (by assumption))); done)) | omega)) (by first | assumption | (refine Ne.symm ?_; assumption) | (refine neN ?_; (try dsimp only); first | (refine Nat.ne_of_gt ?_; with_reducible ((repeat (first | assumption | exact And.left (by assumption) | exact And.left (And.right (by assumption)) | exact And.right (And.right (by assumption)) | exact And.right (by assumption) | exact And.left (And.right (And.right (by assumption))) | exact And.right (And.right (And.right (by assumption))) | exact And.left (And.right (And.right (And.right (by assumption)))) | exact And.left (And.right (And.right (And.right (And.right (by assumption))))) | refine Nat.lt_trans ?_ (by assumption))); done)) | (refine Nat.ne_of_lt ?_; with_reducible ((repeat (first | assumption | exact And.left (by assumption) | exact And.left (And.right (by assumption)) | exact And.right (And.right (by assumption)) | exact And.right (by assumption) | exact And.left (And.right (And.right (by assumption))) | exact And.right (And.right (And.right (by assumption))) | exact And.left (And.right (And.right (And.right (by assumption)))) | exact And.left (And.right (And.right (And.right (And.right (by assumption))))) | refine Nat.lt_trans ?_ (by assumption))); done)) | omega)) (by first | assumption | (refine Ne.symm ?_; assumption) | (refine neN ?_; (try dsimp only); first | (refine Nat.ne_of_gt ?_; with_reducible ((repeat (first | assumption | exact And.left (by assumption) | exact And.left (And.right (by assumption)) | exact And.right (And.right (by assumption)) | exact And.right (by assumption) | exact And.left (And.right (And.right (by assumption))) | exact And.right (And.right (And.right (by assumption))) | exact And.left (And.right (And.right (And.right (by assumption)))) | exact And.left (And.right (And.right (And.right (And.right (by assumption))))) | refine Nat.lt_trans ?_ (by assumption))); done)) | (refine Nat.ne_of_lt ?_; with_reducible ((repeat (first | assumption | exact And.left (by assumption) | exact And.left (And.right (by assumption)) | exact And.right (And.right (by assumption)) | exact And.right (by assumption) | exact And.left (And.right (And.right (by assumption))) | exact And.right (And.right (And.right (by assumption))) | exact And.left (And.right (And.right (And.right (by assumption)))) | exact And.left (And.right (And.right (And.right (And.right (by assumption))))) | refine Nat.lt_trans ?_ (by assumption))); done)) | omega))).elim (fun sel9 H9 => ret _ sel9 _ _ F9.keep H9.1 H9.2)
    · rename Fr _ _ _ _ => F9
      rename News _ _ _ _ => N9
      rename IntsAre _ _ => hi9
      rename ((a : Int) = 0) => hane
      have hl0 := b3 (by omega)
      (try dsimp only)
      have hdz : digsOf n len a = (List.replicate (Int.toNat (len : Int)) [(0 : Int)]).flatten := by rw [hl0]; rfl
      rw [← hdz] at hi9
      refine (i2d_post N9 (by k_mem) (by k_mem) (by exact rfl) (by k_mem) hi9 (by assumption) (by assumption) (by first | assumption | (refine Ne.symm ?_; assumption) | (refine neN ?_; (try dsimp only); first | (refine Nat.ne_of_gt ?_; with_reducible ((repeat (first | assumption | exact And.left (by assumption) | exact And.left (And.right (by assumption)) | exact And.right (And.right (by assumption)) | exact And.right (by assumption) | exact And.left (And.right (And.right (by assumption))) | exact And.right (And.right (And.right (by assumption))) | exact And.left (And.right (And.right (And.right (by assumption)))) | exact And.left (And.right (And.right (And.right (And.right (by assumption))))) | refine Nat.lt_trans ?_ (by assumption))); done)) | (refine Nat.ne_of_lt ?_; with_reducible ((repeat (first | assumption | exact And.left (by assumption) | exact And.left (And.right (by assumption)) | exact And.right (And.right (by assumption)) | exact And.right (by assumption) | exact And.left (And.right (And.right (by assumption))) | exact And.right (And.right (And.right (by assumption))) | exact And.left (And.right (And.right (And.right (by assumption)))) | exact And.left (And.right (And.right (And.right (And.right (by assumption))))) | refine Nat.lt_trans ?_ (by assumption))); done)) | omega)) (by first | assumption | (refine Ne.symm ?_; assumption) | (refine neN ?_; (try dsimp only); first | (refine Nat.ne_of_gt ?_; with_reducible ((repeat (first | assumption | exact And.left (by assumption) | exact And.left (And.right (by assumption)) | exact And.right (And.right (by assumption)) | exact And.right (by assumption) | exact And.left (And.right (And.right (by assumption))) | exact And.right (And.right (And.right (by assumption))) | exact And.left (And.right (And.right (And.right (by assumption)))) | exact And.left (And.right (And.right (And.right (And.right (by assumption))))) | refine Nat.lt_trans ?_ (by assumption))); done)) | (refine Nat.ne_of_lt ?_; with_reducible ((repeat (first | assumption | exact And.left (by assumption) | exact And.left (And.right (by assumption)) | exact And.right (And.right (by assumption)) | exact And.right (by assumption) | exact And.left (And.right (And.right (by assumption))) | exact And.right (And.right (And.right (by assumption))) | exact And.left (And.right (And.right (And.right (by assumption)))) | exact And.left (And.right (And.right (And.right (And.right (by assumption))))) | refine Nat.lt_trans ?_ (by assumption))); done)) | omega)) (by first | assumption | (refine Ne.symm ?_; assumption) | (refine neN ?_; (try dsimp only); first | (refine Nat.ne_of_gt ?_; with_reducible ((repeat (first | assumption | exact And.left (by assumption) | exact And.left (And.right (by assumption)) | exact And.right (And.right (by assumption)) | exact And.right (by assumption) | exact And.left (And.right (And.right (by assumption))) | exact And.right (And.right (And.right (by assumption))) | exact And.left (And.right (And.right (And.right (by assumption)))) | exact And.left (And.right (And.right (And.right (And.right (by assumption))))) | refine Nat.lt_trans ?_ (by assumption))); done)) | (refine Nat.ne_of_lt ?_; with_reducible ((repeat (first | assumption | exact And.left (by assumption) | exact And.left (And.right (by assumption)) | exact And.right (And.right (by assumption)) | exact And.right (by assumption) | exact And.left (And.right (And.right (by assumption))) | exact And.right (And.right (And.right (by assumption))) | exact And.left (And.right (And.right (And.right (by assumption)))) | exact And.left (And.right (And.right (And.right (And.right (by assumption))))) | refine Nat.lt_trans ?_ (by assumption))); done)) | omega))).elim (fun sel9 H9 => ret _ sel9 _ _ F9.keep H9.1 H9.2)
section
variable {dp un : Nat} {gd : Option (List Code)} {env : Env} {outer : List Env} {A₀ : Around} {base h₀ : Heap} {L : Addr} {m : Str → Option Value} {tp : Program} {tl : List Str} {mean : ExcName → Option Value} {mg mb : Str → Option Value} {s : Shared} {w : World}
theorem d2i_call {Q E : Value → Shared → Prop} {news : List (Addr × Obj)} {rd c lst cA cI cN : Addr} {oc oA oI oN : Obj} {name qual : Str} {params : Arguments} {body : List Stmt} {scope : Scope} {doc pm ct : Value} {vs tab : Array Value} {tq : Tok} {n len : Nat} {un' t1 t2 : Tok} {vals : List Value} {ns : List Int} {k : Nat} {f : Nat → Nat}
    (B : Below A₀ base outer h₀) (F : Fr h₀ L s.heap m) (X : (hd.heap_1 w.params).In h₀) (N : News h₀ L s.heap news) (T : Top tp tl mean mg mb h₀) (hf : env.frame = some L) (hke : env.scope.kind = .function)
    (m1 : (rd, { cls := .type "function", data := .func (fnX name qual params body scope [("n", cN), ("inner", cI), ("digits", cA)] .none .none doc pm none (.ref c) ct) }) ∈ news) (m2 : (c, oc) ∈ news) (m3 : (lst, listOf vals.toArray k) ∈ news) (m4 : (cA, oA) ∈ news) (m5 : (cI, oI) ∈ news) (m6 : (cN, oN) ∈ news)
    (m7 : (44, tabObj tab) ∈ news)
    (hdef : nestedDef ((hd.heap_1 w.params).lookup 49) 0 = some (params, body, scope)) (hcd : oc.data = .fields vs) (hvs : vs[1]? = some (.str qual tq)) (hA : oA.data = .cell (some (.ref lst))) (hI : oI.data = .cell (some (.ref rd))) (hN : oN.data = .cell (some (.int (n : Int) un')))
    (n1 : lst ≠ rd) (n2 : lst ≠ c) (n3 : lst ≠ cA) (n4 : lst ≠ cI) (n5 : lst ≠ cN) (q1 : rd ≠ 44) (q2 : c ≠ 44) (q3 : lst ≠ 44) (q4 : cA ≠ 44) (q5 : cI ≠ 44) (q6 : cN ≠ 44)
    (hn : 0 < n) (hn2 : n < 5000) (hi : IntsAre vals ns) (hfx : ∀ i, f i < 2 ^ n) (hfn : ∀ i, ns.getD i 0 = (f i : Int)) (hlen : ns.length = len) (hl0 : 0 < len) (hl60 : len ≤ 60)
    (hd : dp + 65 < recursionLimit) (hu : un + 300 < cLine)
    (ret : ∀ t h' tk', Fr h₀ L h' m → News h₀ L h' (innerDL rd c lst cA cI cN oc oA oI oN name qual params body scope doc pm ct vals k ++ [(44, tabObj tab)]) → Q (.int ((hv n f 0 len : Nat) : Int) t) { s with heap := h', toks := tk' }) :
    wpAny (model Challenge.rw_pe0259_03.row.prog w) (Ar dp un gd (env :: outer)) (call (.ref rd) [.int 0 t1, .int (len : Int) t2]) Q E s := by
  refine use_g (innerD_c w rd c lst cA cI cN oc oA oI oN name qual params body scope doc pm ct vs tq n un' hdef hcd hvs hA hI hN n1 n2 n3 n4 n5 hn hn2 vals ns k f hi (by omega) hfx hfn len 0 len t1 t2 hl0 (by omega) (by omega)) (oth := [(44, tabObj tab)]) B F X N T hf hke ?_ ?_ ?_ (by omega) (by omega) ?_
  · exact List.forall_mem_cons.mpr ⟨m1, List.forall_mem_cons.mpr ⟨m2, List.forall_mem_cons.mpr ⟨m3, List.forall_mem_cons.mpr ⟨m4, List.forall_mem_cons.mpr ⟨m5, List.forall_mem_cons.mpr ⟨m6, List.forall_mem_nil _⟩⟩⟩⟩⟩⟩
  · exact List.forall_mem_cons.mpr ⟨m7, List.forall_mem_nil _⟩
  · exact List.forall_mem_cons.mpr ⟨List.forall_mem_cons.mpr ⟨q1.symm, List.forall_mem_cons.mpr ⟨q2.symm, List.forall_mem_cons.mpr ⟨q3.symm, List.forall_mem_cons.mpr ⟨q4.symm, List.forall_mem_cons.mpr ⟨q5.symm, List.forall_mem_cons.mpr ⟨q6.symm, List.forall_mem_nil _⟩⟩⟩⟩⟩⟩, List.forall_mem_nil _⟩
  rintro v sel' h' tk' F' N' - - ⟨⟨t, rfl⟩, rfl⟩
  exact ret t h' tk' F' N'
end
theorem tab_post {g h : Heap} {L : Addr} {news : List (Addr × Obj)} {P line col : Nat} {qual : Str} {c : Addr} {oc : Obj} {vs tab : Array Value} {t : Tok} (N : News g L h news)
    (m2 : (P, tabObj tab) ∈ news) (htab : tab = #[rawInt line, rawInt col, .ref c]) (m3 : (c, oc) ∈ news) (hcd : oc.data = .fields vs) (hvs : vs[1]? = some (.str qual t)) (q1 : c ≠ P) :
    ∃ sel', (∀ p ∈ sel', h.get? p.1 = some p.2 ∧ g.get? p.1 = none) ∧ TabSt P line col qual sel' := by
  subst htab
  refine ⟨_, ?_, .inr ⟨c, oc, vs, t, rfl, hcd, hvs, q1⟩⟩
  have hm : ∀ p ∈ _, p ∈ news := List.forall_mem_cons.mpr ⟨m2, List.forall_mem_cons.mpr ⟨m3, List.forall_mem_nil _⟩⟩
  exact fun p hp => ⟨(N p (hm p hp)).1, (N p (hm p hp)).2.2⟩
theorem digits2int_c (w : World) (lst : Addr) (vals : List Value) (ns : List Int) (k n len : Nat) (f : Nat → Nat) (tn : Tok) (tb : List (Addr × Obj)) (TS : TabSt 44 50 4 "_digits2int.<locals>.inner" tb) (hlt : ∀ p ∈ tb, lst ≠ p.1) (hn : 0 < n) (hn2 : n < 5000) (hv1 : IntsAre vals ns) (hlen : ns.length = len) (hl : len ≤ 60)
    (hfx : ∀ i, f i < 2 ^ n) (hfn : ∀ i, ns.getD i 0 = (f i : Int)) :
    Con w 70 400 49 [.ref lst, .int n tn] ((lst, listOf vals.toArray k) :: tb) (fun _ v blk => (∃ t, v = .int ((hv n f 0 len : Nat) : Int) t) ∧ TabSt 44 50 4 "_digits2int.<locals>.inner" blk) := by
  have hl9 := hv1.length
  rcases TS with rfl | ⟨c0, oc0, vs0, t0, rfl, hcd0, hvs0, hcP⟩
  all_goals
    have h44 : lst ≠ 44 := hlt (44, _) (.head _)
    try have h45 : lst ≠ c0 := hlt (c0, _) (.tail _ (.head _))
    unfold Con
    k_fill
    intro dp un gd outer base g tp tl mean mg mb s R B hg hsz hsel X T hd hu ret
    refine' enter_gc hg hsz hsel X T ?k6 ?k7 ?k8 ?k9 ?kB ?kD ?_ ?c2 ?c3 ?c4
    (case k6 => k_is); (case k7 => k_is); (case k8 => ktr_room); (case k9 => exact BindsTo.of_eq rfl); (case kB => exact rfl); (case kD => decide +kernel); (case c2 => exact rfl); (case c3 => exact rfl); (case c4 => exact rfl)
    k_whole
    intro L' h' tk' cells' F' N' Y' l1
    (try k_lt l1); k_cells Y'; (try simp only [List.cons_append, List.nil_append] at N')
    have codeHd := codeHd_of_K (c := 48) (P := 44) X (by kernel_rfl)
    (try dsimp only); (try k_fold)
    ((repeat' ((fail_if_success (with_reducible show wpAny _ _ (call (Value.ref _) _) _ _ _)); (first | (k_unfold; (try dsimp only)) | ((with_reducible first | show wpAny _ _ (exec _ _) _ _ _ | show wpAny _ _ (execs _ _) _ _ _); k_fold) | (k_end; wrow_close) | walk1 | (dsimp only; walk1) | (leave1; (try dsimp only))))) <;> (repeat (k_unfold; (try dsimp only))))
    · rename Fr _ _ _ _ => F9
      rename News _ _ _ _ => N9
      rename (0 < ns.length) => hpos
      refine d2i_call B F9 X N9 T rfl rfl (by k_mem) (by k_mem) (by k_mem) (by k_mem) (by k_mem) (by k_mem) (by k_mem) (by exact rfl) (by assumption) (by assumption) (by assumption) (by assumption) (by assumption)
        (by first | assumption | (refine Ne.symm ?_; assumption) | (refine neN ?_; (try dsimp only); first | (refine Nat.ne_of_gt ?_; with_reducible ((repeat (first | assumption | exact And.left (by assumption) | exact And.left (And.right (by assumption)) | exact And.right (And.right (by assumption)) | exact And.right (by assumption) | exact And.left (And.right (And.right (by assumption))) | exact And.right (And.right (And.right (by assumption))) | exact And.left (And.right (And.right (And.right (by assumption)))) | exact And.left (And.right (And.right (And.right (And.right (by assumption))))) | refine Nat.lt_trans ?_ (by assumption))); done)) | (refine Nat.ne_of_lt ?_; with_reducible ((repeat (first | assumption | exact And.left (by assumption) | exact And.left (And.right (by assumption)) | exact And.right (And.right (by assumption)) | exact And.right (by assumption) | exact And.left (And.right (And.right (by assumption))) | exact And.right (And.right (And.right (by assumption))) | exact And.left (And.right (And.right (And.right (by assumption)))) | exact And.left (And.right (And.right (And.right (And.right (by assumption))))) | refine Nat.lt_trans ?_ (by assumption))); done)) | omega)) (by first | assumption | (refine Ne.symm ?_; assumption) | (refine neN ?_; (try dsimp only); first | (refine Nat.ne_of_gt ?_; with_reducible ((repeat (first | assumption | exact And.left (by assumption) | exact And.left (And.right (by assumption)) | exact And.right (And.right (by assumption)) | exact And.right (by assumption) | exact And.left (And.right (And.right (by assumption))) | exact And.right (And.right (And.right (by assumption))) | exact And.left (And.right (And.right (And.right (by assumption)))) | exact And.left (And.right (And.right (And.right (And.right (by assumption))))) | refine Nat.lt_trans ?_ (by assumption))); done)) | (refine Nat.ne_of_lt ?_; with_reducible ((repeat (first | assumption | exact And.left (by assumption) | exact And.left (And.right (by assumption)) | exact And.right (And.right (by assumption)) | exact And.right (by assumption) | exact And.left (And.right (And.right (by assumption))) | exact And.right (And.right (And.right (by assumption))) | exact And.left (And.right (And.right (And.right (by assumption)))) | exact And.left (And.right (And.right (And.right (And.right (by assumption))))) | refine Nat.lt_trans ?_ (by assumption))); done)) | omega)) (by first | assumption | (refine Ne.symm ?_; assumption) | (refine neN ?_; (try dsimp only); first | (refine Nat.ne_of_gt ?_; with_reducible ((repeat (first | assumption | exact And.left (by assumption) | exact And.left (And.right (by assumption)) | exact And.right (And.right (by assumption)) | exact And.right (by assumption) | exact And.left (And.right (And.right (by assumption))) | exact And.right (And.right (And.right (by assumption))) | exact And.left (And.right (And.right (And.right (by assumption)))) | exact And.left (And.right (And.right (And.right (And.right (by assumption))))) | refine Nat.lt_trans ?_ (by assumption))); done)) | (refine Nat.ne_of_lt ?_; with_reducible ((repeat (first | assumption | exact And.left (by assumption) | exact And.left (And.right (by assumption)) | exact And.right (And.right (by assumption)) | exact And.right (by assumption) | exact And.left (And.right (And.right (by assumption))) | exact And.right (And.right (And.right (by assumption))) | exact And.left (And.right (And.right (And.right (by assumption)))) | exact And.left (And.right (And.right (And.right (And.right (by assumption))))) | refine Nat.lt_trans ?_ (by assumption))); done)) | omega)) (by first | assumption | (refine Ne.symm ?_; assumption) | (refine neN ?_; (try dsimp only); first | (refine Nat.ne_of_gt ?_; with_reducible ((repeat (first | assumption | exact And.left (by assumption) | exact And.left (And.right (by assumption)) | exact And.right (And.right (by assumption)) | exact And.right (by assumption) | exact And.left (And.right (And.right (by assumption))) | exact And.right (And.right (And.right (by assumption))) | exact And.left (And.right (And.right (And.right (by assumption)))) | exact And.left (And.right (And.right (And.right (And.right (by assumption))))) | refine Nat.lt_trans ?_ (by assumption))); done)) | (refine Nat.ne_of_lt ?_; with_reducible ((repeat (first | assumption | exact And.left (by assumption) | exact And.left (And.right (by assumption)) | exact And.right (And.right (by assumption)) | exact And.right (by assumption) | exact And.left (And.right (And.right (by assumption))) | exact And.right (And.right (And.right (by assumption))) | exact And.left (And.right (And.right (And.right (by assumption)))) | exact And.left (And.right (And.right (And.right (And.right (by assumption))))) | refine Nat.lt_trans ?_ (by assumption))); done)) | omega)) (by first | assumption | (refine Ne.symm ?_; assumption) | (refine neN ?_; (try dsimp only); first | (refine Nat.ne_of_gt ?_; with_reducible ((repeat (first | assumption | exact And.left (by assumption) | exact And.left (And.right (by assumption)) | exact And.right (And.right (by assumption)) | exact And.right (by assumption) | exact And.left (And.right (And.right (by assumption))) | exact And.right (And.right (And.right (by assumption))) | exact And.left (And.right (And.right (And.right (by assumption)))) | exact And.left (And.right (And.right (And.right (And.right (by assumption))))) | refine Nat.lt_trans ?_ (by assumption))); done)) | (refine Nat.ne_of_lt ?_; with_reducible ((repeat (first | assumption | exact And.left (by assumption) | exact And.left (And.right (by assumption)) | exact And.right (And.right (by assumption)) | exact And.right (by assumption) | exact And.left (And.right (And.right (by assumption))) | exact And.right (And.right (And.right (by assumption))) | exact And.left (And.right (And.right (And.right (by assumption)))) | exact And.left (And.right (And.right (And.right (And.right (by assumption))))) | refine Nat.lt_trans ?_ (by assumption))); done)) | omega)) (by first | assumption | (refine Ne.symm ?_; assumption) | (refine neN ?_; (try dsimp only); first | (refine Nat.ne_of_gt ?_; with_reducible ((repeat (first | assumption | exact And.left (by assumption) | exact And.left (And.right (by assumption)) | exact And.right (And.right (by assumption)) | exact And.right (by assumption) | exact And.left (And.right (And.right (by assumption))) | exact And.right (And.right (And.right (by assumption))) | exact And.left (And.right (And.right (And.right (by assumption)))) | exact And.left (And.right (And.right (And.right (And.right (by assumption))))) | refine Nat.lt_trans ?_ (by assumption))); done)) | (refine Nat.ne_of_lt ?_; with_reducible ((repeat (first | assumption | exact And.left (by assumption) | exact And.left (And.right (by assumption)) | exact And.right (And.right (by assumption)) | exact And.right (by assumption) | exact And.left (And.right (And.right (by assumption))) | exact And.right (And.right (And.right (by assumption))) | exact And.left (And.right (And.right (And.right (by assumption)))) | exact And.left (And.right (And.right (And.right (And.right (by assumption))))) | refine Nat.lt_trans ?_ (by assumption))); done)) | omega)) (by first | assumption | (refine Ne.symm ?_; assumption) | (refine neN ?_; (try dsimp only); first | (refine Nat.ne_of_gt ?_; with_reducible ((repeat (first | assumption | exact And.left (by assumption) | exact And.left (And.right (by assumption)) | exact And.right (And.right (by assumption)) | exact And.right (by assumption) | exact And.left (And.right (And.right (by assumption))) | exact And.right (And.right (And.right (by assumption))) | exact And.left (And.right (And.right (And.right (by assumption)))) | exact And.left (And.right (And.right (And.right (And.right (by assumption))))) | refine Nat.lt_trans ?_ (by assumption))); done)) | (refine Nat.ne_of_lt ?_; with_reducible ((repeat (first | assumption | exact And.left (by assumption) | exact And.left (And.right (by assumption)) | exact And.right (And.right (by assumption)) | exact And.right (by assumption) | exact And.left (And.right (And.right (by assumption))) | exact And.right (And.right (And.right (by assumption))) | exact And.left (And.right (And.right (And.right (by assumption)))) | exact And.left (And.right (And.right (And.right (And.right (by assumption))))) | refine Nat.lt_trans ?_ (by assumption))); done)) | omega)) (by first | assumption | (refine Ne.symm ?_; assumption) | (refine neN ?_; (try dsimp only); first | (refine Nat.ne_of_gt ?_; with_reducible ((repeat (first | assumption | exact And.left (by assumption) | exact And.left (And.right (by assumption)) | exact And.right (And.right (by assumption)) | exact And.right (by assumption) | exact And.left (And.right (And.right (by assumption))) | exact And.right (And.right (And.right (by assumption))) | exact And.left (And.right (And.right (And.right (by assumption)))) | exact And.left (And.right (And.right (And.right (And.right (by assumption))))) | refine Nat.lt_trans ?_ (by assumption))); done)) | (refine Nat.ne_of_lt ?_; with_reducible ((repeat (first | assumption | exact And.left (by assumption) | exact And.left (And.right (by assumption)) | exact And.right (And.right (by assumption)) | exact And.right (by assumption) | exact And.left (And.right (And.right (by assumption))) | exact And.right (And.right (And.right (by assumption))) | exact And.left (And.right (And.right (And.right (by assumption)))) | exact And.left (And.right (And.right (And.right (And.right (by assumption))))) | refine Nat.lt_trans ?_ (by assumption))); done)) | omega)) (by first | assumption | (refine Ne.symm ?_; assumption) | (refine neN ?_; (try dsimp only); first | (refine Nat.ne_of_gt ?_; with_reducible ((repeat (first | assumption | exact And.left (by assumption) | exact And.left (And.right (by assumption)) | exact And.right (And.right (by assumption)) | exact And.right (by assumption) | exact And.left (And.right (And.right (by assumption))) | exact And.right (And.right (And.right (by assumption))) | exact And.left (And.right (And.right (And.right (by assumption)))) | exact And.left (And.right (And.right (And.right (And.right (by assumption))))) | refine Nat.lt_trans ?_ (by assumption))); done)) | (refine Nat.ne_of_lt ?_; with_reducible ((repeat (first | assumption | exact And.left (by assumption) | exact And.left (And.right (by assumption)) | exact And.right (And.right (by assumption)) | exact And.right (by assumption) | exact And.left (And.right (And.right (by assumption))) | exact And.right (And.right (And.right (by assumption))) | exact And.left (And.right (And.right (And.right (by assumption)))) | exact And.left (And.right (And.right (And.right (And.right (by assumption))))) | refine Nat.lt_trans ?_ (by assumption))); done)) | omega)) (by first | assumption | (refine Ne.symm ?_; assumption) | (refine neN ?_; (try dsimp only); first | (refine Nat.ne_of_gt ?_; with_reducible ((repeat (first | assumption | exact And.left (by assumption) | exact And.left (And.right (by assumption)) | exact And.right (And.right (by assumption)) | exact And.right (by assumption) | exact And.left (And.right (And.right (by assumption))) | exact And.right (And.right (And.right (by assumption))) | exact And.left (And.right (And.right (And.right (by assumption)))) | exact And.left (And.right (And.right (And.right (And.right (by assumption))))) | refine Nat.lt_trans ?_ (by assumption))); done)) | (refine Nat.ne_of_lt ?_; with_reducible ((repeat (first | assumption | exact And.left (by assumption) | exact And.left (And.right (by assumption)) | exact And.right (And.right (by assumption)) | exact And.right (by assumption) | exact And.left (And.right (And.right (by assumption))) | exact And.right (And.right (And.right (by assumption))) | exact And.left (And.right (And.right (And.right (by assumption)))) | exact And.left (And.right (And.right (And.right (And.right (by assumption))))) | refine Nat.lt_trans ?_ (by assumption))); done)) | omega)) (by first | assumption | (refine Ne.symm ?_; assumption) | (refine neN ?_; (try dsimp only); first | (refine Nat.ne_of_gt ?_; with_reducible ((repeat (first | assumption | exact And.left (by assumption) | exact And.left (And.right (by assumption)) | exact And.right (And.right (by assumption)) | exact And.right (by assumption) | exact And.left (And.right (And.right (by assumption))) | exact And.right (And.right (And.right (by assumption))) | exact And.left (And.right (And.right (And.right (by assumption)))) | exact And.left (And.right (And.right (And.right (And.right (by assumption))))) | refine Nat.lt_trans ?_ (by assumption))); done)) | (refine Nat.ne_of_lt ?_; with_reducible ((repeat (first | assumption | exact And.left (by assumption) | exact And.left (And.right (by assumption)) | exact And.right (And.right (by assumption)) | exact And.right (by assumption) | exact And.left (And.right (And.right (by assumption))) | exact And.right (And.right (And.right (by assumption))) | exact And.left (And.right (And.right (And.right (by assumption)))) | exact And.left (And.right (And.right (And.right (And.right (by assumption))))) | refine Nat.lt_trans ?_ (by assumption))); done)) | omega)) hn hn2 hv1 hfx hfn rfl hpos (by omega) (by k_room) (by k_units) ?_
      intro t2 h2 tk2 F2 N2
      simp only [innerDL, List.cons_append, List.nil_append] at N2
      clear F9 N9
      (try dsimp only)
      ((repeat' (first | (k_unfold; (try dsimp only)) | ((with_reducible first | show wpAny _ _ (exec _ _) _ _ _ | show wpAny _ _ (execs _ _) _ _ _); k_fold) | (k_end; wrow_close) | walk1 | (dsimp only; walk1) | (leave1; (try dsimp only)))) <;> (repeat (k_unfold; (try dsimp only))))
      (try dsimp only)
      rename Fr _ _ _ _ => F9
      rename News _ _ _ _ => N9
      subst hlen
      refine (tab_post N9 (by k_mem) (by exact rfl) (by k_mem) (by assumption) (by assumption) (by first | assumption | (refine Ne.symm ?_; assumption) | (refine neN ?_; (try dsimp only); first | (refine Nat.ne_of_gt ?_; with_reducible ((repeat (first | assumption | exact And.left (by assumption) | exact And.left (And.right (by assumption)) | exact And.right (And.right (by assumption)) | exact And.right (by assumption) | exact And.left (And.right (And.right (by assumption))) | exact And.right (And.right (And.right (by assumption))) | exact And.left (And.right (And.right (And.right (by assumption)))) | exact And.left (And.right (And.right (And.right (And.right (by assumption))))) | refine Nat.lt_trans ?_ (by assumption))); done)) | (refine Nat.ne_of_lt ?_; with_reducible ((repeat (first | assumption | exact And.left (by assumption) | exact And.left (And.right (by assumption)) | exact And.right (And.right (by assumption)) | exact And.right (by assumption) | exact And.left (And.right (And.right (by assumption))) | exact And.right (And.right (And.right (by assumption))) | exact And.left (And.right (And.right (And.right (by assumption)))) | exact And.left (And.right (And.right (And.right (And.right (by assumption))))) | refine Nat.lt_trans ?_ (by assumption))); done)) | omega))).elim (fun sel9 H9 => ret _ sel9 _ _ F9.keep H9.1 ⟨⟨_, rfl⟩, H9.2⟩)
    · rename Fr _ _ _ _ => F9
      rename News _ _ _ _ => N9
      rename (¬ 0 < ns.length) => hpos
      have hl0 : len = 0 := by omega
      have hdz : hv n f 0 len = 0 := by rw [hl0]; rfl
      (try dsimp only)
      refine (tab_post N9 (by k_mem) (by exact rfl) (by k_mem) (by assumption) (by assumption) (by first | assumption | (refine Ne.symm ?_; assumption) | (refine neN ?_; (try dsimp only); first | (refine Nat.ne_of_gt ?_; with_reducible ((repeat (first | assumption | exact And.left (by assumption) | exact And.left (And.right (by assumption)) | exact And.right (And.right (by assumption)) | exact And.right (by assumption) | exact And.left (And.right (And.right (by assumption))) | exact And.right (And.right (And.right (by assumption))) | exact And.left (And.right (And.right (And.right (by assumption)))) | exact And.left (And.right (And.right (And.right (And.right (by assumption))))) | refine Nat.lt_trans ?_ (by assumption))); done)) | (refine Nat.ne_of_lt ?_; with_reducible ((repeat (first | assumption | exact And.left (by assumption) | exact And.left (And.right (by assumption)) | exact And.right (And.right (by assumption)) | exact And.right (by assumption) | exact And.left (And.right (And.right (by assumption))) | exact And.right (And.right (And.right (by assumption))) | exact And.left (And.right (And.right (And.right (by assumption)))) | exact And.left (And.right (And.right (And.right (And.right (by assumption))))) | refine Nat.lt_trans ?_ (by assumption))); done)) | omega))).elim (fun sel9 H9 => ret _ sel9 _ _ F9.keep H9.1 ⟨⟨_, by rw [hdz]; exact rfl⟩, H9.2⟩)
/-- a new pair of ints -/
noncomputable def PairAt (T : Addr) (q r : Int) (blk : List (Addr × Obj)) : Prop := ∃ tq tr, blk = [(T, { cls := .type "tuple", data := .seq #[.int q tq, .int r tr] })]
theorem noPy {x : Int} {b : Nat} (h : b < 2 ^ 4000) : Builtin.divisionGoesByPylong x (b : Int) = false := PyProof.noPylong_of_log2 (by
  by_cases h0 : b = 0
  · subst h0; decide +kernel
  · have : b.log2 < 4000 := (Nat.log2_lt h0).mpr h
    simp; omega)
theorem div2n1n_c (w : World) (a b n : Nat) (ta tb tn : Tok) (hb : 0 < b) (ha : a < 2 ^ 4000) (hb2 : b < 2 ^ 4000) :
    Con w 4 60 28 [.int a ta, .int b tb, .int n tn] [] (fun _ v blk => ∃ T, v = .ref T ∧ PairAt T (a / b : Nat) (a % b : Nat) blk) := by
  have h1 := bits_lt ha
  have hp := noPy (x := a) hb2
  clear ha hb2
  unfold Con
  k_fill
  intro dp un gd outer base g tp tl mean mg mb s R B hg hsz hsel X T hd hu ret
  refine' enter_g B hg hsz hsel X T ?k6 ?k7 ?k8 ?k9 ?kB ?_ ?c2 ?c3 ?c4 ?c5
  (case k6 => k_is); (case k7 => k_is); (case k8 => ktr_room); (case k9 => exact BindsTo.of_eq rfl); (case c5 => decide); (case kB => exact locs rfl); (case c2 => exact rfl); (case c3 => exact rfl); (case c4 => exact rfl)
  k_whole
  intro L' h' tk' F' N' l1
  (try dsimp only); (try k_fold)
  ((repeat' ((fail_if_success (with_reducible show wpAny _ _ (call (Value.builtin "divmod") _) _ _ _)); (first | (k_unfold; (try dsimp only)) | ((with_reducible first | show wpAny _ _ (exec _ _) _ _ _ | show wpAny _ _ (execs _ _) _ _ _); k_fold) | (k_end; wrow_close) | walk1 | (dsimp only; walk1) | (leave1; (try dsimp only))))) <;> (repeat (k_unfold; (try dsimp only))))
  rename Fr _ _ _ _ => F1
  rename News _ _ _ _ => N1
  refine divmod_N F1 N1 (by omega) ?_ (.inl hp)
  intro h2 F2 N2
  rw [fdiv_nn, fmod_nn] at N2
  (try dsimp only)
  ((repeat' (first | (k_unfold; (try dsimp only)) | ((with_reducible first | show wpAny _ _ (exec _ _) _ _ _ | show wpAny _ _ (execs _ _) _ _ _); k_fold) | (k_end; wrow_close) | walk1 | (dsimp only; walk1) | (leave1; (try dsimp only)))) <;> (repeat (k_unfold; (try dsimp only))))
  (try dsimp only)
  exact ret _ _ _ _ F2.keep (fun r hr => ⟨(N2 r hr).1, (N2 r hr).2.2⟩) ⟨_, rfl, _, _, rfl⟩
section
variable {prog : Program} {w : World} {A : Around} {E : Value → Shared → Prop} {s : Shared} {t u : Tok} {Q : Value → Shared → Prop}
theorem add_nn {x y : Nat} (h : Q (.int ((x + y : Nat) : Int) s.toks) { s with toks := s.toks + 1 }) : wpAny (model prog w) A (binaryOp .Add (.int (x : Int) t) (.int (y : Int) u)) Q E s := by
  refine add_int ?_
  rw [← Int.natCast_add]; exact h
end
/-- the top i of len digits of a -/
noncomputable def topD (n len a i : Nat) : Nat := a / 2 ^ (n * (len - i))
theorem topD_zero {n len a : Nat} (h : a < 2 ^ (n * len)) : topD n len a 0 = 0 := by
  unfold topD; exact Nat.div_eq_of_lt (by simpa using h)
theorem topD_all {n len a : Nat} : topD n len a len = a := by simp [topD]
theorem topD_succ {n len a i : Nat} (h : i < len) : topD n len a (i + 1) = topD n len a i * 2 ^ n + dig n a (len - 1 - i) := by
  unfold topD dig
  rw [show n * (len - i) = n * (len - (i + 1)) + n from by rw [← Nat.mul_succ]; congr 1; omega, Nat.pow_add, ← Nat.div_div_eq_div_mul, show len - (i + 1) = len - 1 - i from sub_one_sub len i]
  have := Nat.div_add_mod (a / 2 ^ (n * (len - 1 - i))) (2 ^ n)
  rw [Nat.mul_comm] at this
  exact this.symm
theorem qdig {n len a b i : Nat} (hb : 0 < b) (h : i < len) : ((topD n len a i % b) * 2 ^ n + dig n a (len - 1 - i)) / b = dig n (a / b) (len - 1 - i) ∧ ((topD n len a i % b) * 2 ^ n + dig n a (len - 1 - i)) % b = topD n len a (i + 1) % b := by
  have e := topD_succ (n := n) (a := a) h
  have hd : dig n a (len - 1 - i) < 2 ^ n := Nat.mod_lt _ (Nat.two_pow_pos _)
  have e2 : topD n len a (i + 1) = (topD n len a i % b * 2 ^ n + dig n a (len - 1 - i)) + b * (topD n len a i / b * 2 ^ n) := by
    rw [e]
    have := Nat.div_add_mod (topD n len a i) b
    have h3 : topD n len a i * 2 ^ n = (b * (topD n len a i / b) + topD n len a i % b) * 2 ^ n := by rw [this]
    rw [h3, Nat.add_mul, Nat.mul_assoc]
    omega
  have hlt : (topD n len a i % b * 2 ^ n + dig n a (len - 1 - i)) / b < 2 ^ n := by
    rw [Nat.div_lt_iff_lt_mul hb]
    have h1 := Nat.mod_lt (topD n len a i) hb
    have h2 : (topD n len a i % b + 1) * 2 ^ n ≤ b * 2 ^ n := Nat.mul_le_mul_right _ h1
    rw [Nat.add_mul, Nat.one_mul] at h2
    rw [Nat.mul_comm (2 ^ n) b]
    omega
  constructor
  · have h4 : topD n len a (i + 1) / b = (topD n len a i % b * 2 ^ n + dig n a (len - 1 - i)) / b + topD n len a i / b * 2 ^ n := by
      rw [e2, Nat.add_mul_div_left _ _ hb]
    have h5 : topD n len a (i + 1) / b = a / b / 2 ^ (n * (len - 1 - i)) := by
      unfold topD
      rw [Nat.div_div_eq_div_mul, Nat.div_div_eq_div_mul, Nat.mul_comm, show len - (i + 1) = len - 1 - i from sub_one_sub len i]
    unfold dig at *
    rw [← h5, h4, Nat.add_mul_mod_self_right, Nat.mod_eq_of_lt hlt]
  · rw [e2, Nat.add_mul_mod_self_left]
theorem hv_dig (n x k : Nat) : ∀ L, hv n (fun i => dig n x i) L k = x / 2 ^ (n * L) % 2 ^ (n * k) := by
  induction k with
  | zero => intro L; simp [hv, Nat.mod_one]
  | succ k ih =>
    intro L
    rw [hv, ih]
    unfold dig
    rw [Nat.mul_succ, Nat.pow_add, ← Nat.div_div_eq_div_mul, Nat.mul_succ, Nat.pow_add, Nat.mul_comm (2 ^ (n * k)), Nat.mod_mul]
theorem ints_get {vs : List Value} {ns : List Int} (h : IntsAre vs ns) {i : Nat} {v : Value} (hv : vs[i]? = some v) : ∃ t, v = .int (ns.getD i 0) t := by
  induction h generalizing i with
  | nil => simp at hv
  | cons a t h ih =>
    cases i with
    | zero => simp at hv; exact ⟨t, hv.symm⟩
    | succ i => simpa using ih (by simpa using hv)
theorem tab_data {P line col : Nat} {qual : Str} {tb : List (Addr × Obj)} (S : TabSt P line col qual tb) : ∀ p ∈ tb, (p.1 = P ∧ ∃ ps, p.2 = tabObj ps ∧ ∀ x t, ps[1]? ≠ some (.str x t)) ∨ ∃ vs t, p.2.data = .fields vs ∧ vs[1]? = some (.str qual t) := by
  rcases S with rfl | ⟨c, oc, vs, t, rfl, h1, h2, -⟩
  · exact List.forall_mem_cons.mpr ⟨.inl ⟨rfl, _, rfl, by simp⟩, List.forall_mem_nil _⟩
  · exact List.forall_mem_cons.mpr ⟨.inl ⟨rfl, _, rfl, by simp [rawInt]⟩, List.forall_mem_cons.mpr ⟨.inr ⟨vs, t, h1, h2⟩, List.forall_mem_nil _⟩⟩
theorem tabs_off {h : Heap} {P line col P' line' col' : Nat} {qual qual' : Str} {T3 T4 : List (Addr × Obj)} (S3 : TabSt P line col qual T3) (S4 : TabSt P' line' col' qual' T4) (hP : P ≠ P') (hq : qual ≠ qual')
    (h3 : ∀ p ∈ T3, h.get? p.1 = some p.2) (h4 : ∀ p ∈ T4, h.get? p.1 = some p.2) : ∀ p ∈ T4, ∀ q ∈ T3, p.1 ≠ q.1 := by
  intro p hp q hq2 e
  have e2 := h4 p hp
  rw [e, h3 q hq2] at e2
  have e3 : q.2 = p.2 := Option.some.inj e2
  rcases tab_data S4 p hp with ⟨a1, ps, a2, a3⟩ | ⟨vs, t, a1, a2⟩ <;> rcases tab_data S3 q hq2 with ⟨c1, qs, c2, c3⟩ | ⟨us, u, c1, c2⟩
  · exact hP (c1.symm.trans (e.symm.trans a1))
  · rw [e3, a2] at c1
    have : ps = us := Data.fields.inj c1
    subst this
    exact a3 _ _ c2
  · rw [← e3, c2] at a1
    have : qs = vs := Data.fields.inj a1
    subst this
    exact c3 _ _ a2
  · rw [e3, a1] at c1
    have : vs = us := Data.fields.inj c1
    subst this
    rw [a2] at c2
    exact hq (Value.str.inj (Option.some.inj c2)).1.symm
theorem ints_app {vs us : List Value} {ns ms : List Int} (h : IntsAre vs ns) (h2 : IntsAre us ms) : IntsAre (vs ++ us) (ns ++ ms) := by
  induction h with
  | nil => exact h2
  | cons a t h ih => exact .cons a t ih
theorem ints_rev {vs : List Value} {ns : List Int} (h : IntsAre vs ns) : IntsAre vs.reverse ns.reverse := by
  induction h with
  | nil => exact .nil
  | cons a t h ih => rw [List.reverse_cons, List.reverse_cons]; exact ints_app ih (.cons a t .nil)
/-- the locals of _divmod_pos in its loop -/
noncomputable def pm (a b n r : Int) (D Dq : Addr) (ta tb tn tr : Tok) (dv qv : Option Value) : Str → Option Value :=
  fun y => if y = "a_digit" then dv else if y = "q_digit" then qv else if y = "r" then some (.int r tr) else if y = "q_digits" then some (.ref Dq) else if y = "a_digits" then some (.ref D) else if y = "n" then some (.int n tn)
    else if y = "a" then some (.int a ta) else if y = "b" then some (.int b tb) else none
/-- the quotient's digits that i turns have made, the highest first -/
noncomputable def qTo (n len q i : Nat) : List Int := (List.range i).map fun j => ((dig n q (len - 1 - j) : Nat) : Int)
theorem qTo_succ {n len q i : Nat} : qTo n len q (i + 1) = qTo n len q i ++ [((dig n q (len - 1 - i) : Nat) : Int)] := by
  unfold qTo; rw [List.range_succ, List.map_append]; rfl
theorem qTo_rev {n len q : Nat} : (qTo n len q len).reverse = digsOf n len q := by
  apply List.ext_getElem
  · simp [qTo, digsOf]
  · intro i h1 h2
    simp only [qTo, List.length_reverse, List.length_map, List.length_range] at h1
    simp only [qTo, digsOf, List.getElem_reverse, List.getElem_map, List.getElem_range, List.length_map, List.length_range]
    congr 2; omega
theorem digsOf_getD {n len q : Nat} (i : Nat) (h : q < 2 ^ (n * len)) : (digsOf n len q).getD i 0 = ((dig n q i : Nat) : Int) := by
  unfold digsOf
  rw [List.getD_eq_getElem?_getD]
  by_cases hi : i < len
  · simp [hi]
  · have : dig n q i = 0 := by
      unfold dig
      rw [Nat.div_eq_of_lt (Nat.lt_of_lt_of_le h (Nat.pow_le_pow_right (by omega) (Nat.mul_le_mul_left _ (by omega))))]
      exact Nat.zero_mod _
    simp [hi, this]
/-- a new pair of ints and the tables of the two defs -/
noncomputable def PairTabs (v : Value) (q r : Int) (blk : List (Addr × Obj)) : Prop :=
  ∃ T T3 T4 tq tr, v = .ref T ∧ TabSt 37 35 4 "_int2digits.<locals>.inner" T3 ∧ TabSt 44 50 4 "_digits2int.<locals>.inner" T4 ∧ blk = (T, { cls := .type "tuple", data := .seq #[.int q tq, .int r tr] }) :: (T3 ++ T4)
theorem pair_post {g h : Heap} {L T : Addr} {news T3 T4 : List (Addr × Obj)} {q r : Int} {tq tr : Tok} (N : News g L h news) (m1 : (T, { cls := .type "tuple", data := .seq #[.int q tq, .int r tr] }) ∈ news) (m2 : ∀ p ∈ T3 ++ T4, p ∈ news)
    (S3 : TabSt 37 35 4 "_int2digits.<locals>.inner" T3) (S4 : TabSt 44 50 4 "_digits2int.<locals>.inner" T4) :
    ∃ sel', (∀ p ∈ sel', h.get? p.1 = some p.2 ∧ g.get? p.1 = none) ∧ PairTabs (.ref T) q r sel' := by
  refine ⟨_, ?_, T, T3, T4, tq, tr, rfl, S3, S4, rfl⟩
  intro p hp
  rcases List.mem_cons.mp hp with rfl | hp
  · exact ⟨(N _ m1).1, (N _ m1).2.2⟩
  · exact ⟨(N _ (m2 _ hp)).1, (N _ (m2 _ hp)).2.2⟩
theorem divmod_pos_c (w : World) (a b n len : Nat) (ta tb : Tok) (T3 T4 : List (Addr × Obj)) (S3 : TabSt 37 35 4 "_int2digits.<locals>.inner" T3) (S4 : TabSt 44 50 4 "_digits2int.<locals>.inner" T4)
    (hb : 0 < b) (hn : n = Builtin.Int.intBits (b : Int)) (hn2 : n < 1900) (ha : a < 2 ^ 4000) (hlen : len = (Builtin.Int.intBits (a : Int) + n - 1) / n) (hl60 : len ≤ 60) :
    Con w 90 600 56 [.int a ta, .int b tb] (T3 ++ T4) (fun _ v blk => PairTabs v (a / b : Nat) (a % b : Nat) blk) := by
  have hbn : b < 2 ^ n := by rw [hn]; exact lt_bits b
  have hn0 : 0 < n := by
    rcases Nat.eq_zero_or_pos n with h | h
    · rw [h] at hbn; omega
    · exact h
  obtain ⟨b1, b2, b3⟩ := len_le hn0 hlen
  unfold Con
  k_fill
  intro dp un gd outer base g tp tl mean mg mb s R B hg hsz hsel X T hd hu ret
  refine' enter_g B hg hsz hsel X T ?k6 ?k7 ?k8 ?k9 ?kB ?_ ?c2 ?c3 ?c4 ?c5
  (case k6 => k_is); (case k7 => k_is); (case k8 => ktr_room); (case k9 => exact BindsTo.of_eq rfl); (case c5 => decide); (case kB => exact locs rfl); (case c2 => exact rfl); (case c3 => exact rfl); (case c4 => exact rfl)
  k_whole
  intro L' h' tk' F' N' l1
  (try dsimp only); (try k_fold)
  ((repeat' ((fail_if_success (with_reducible show wpAny _ _ (call (Value.ref 42) _) _ _ _)); (first | (k_unfold; (try dsimp only)) | ((with_reducible first | show wpAny _ _ (exec _ _) _ _ _ | show wpAny _ _ (execs _ _) _ _ _); k_fold) | (k_end; wrow_close) | walk1 | (dsimp only; walk1) | (leave1; (try dsimp only))))) <;> (repeat (k_unfold; (try dsimp only))))
  rename Fr _ _ _ _ => F1
  rename News _ _ _ _ => N1
  rw [← hn] at F1
  rw [← hn]
  have off0 := tabs_off S3 S4 (by decide) (by decide +kernel) (fun p hp => (N1 p (List.mem_append_left _ hp)).1) (fun p hp => (N1 p (List.mem_append_right _ hp)).1)
  refine use_g (int2digits_c w a n len _ _ T3 S3 hn0 (by omega) ha hlen hl60) (oth := T4) B F1 X N1 T rfl rfl (fun p hp => List.mem_append_left _ hp) (fun p hp => List.mem_append_right _ hp) off0 (by k_room) (by k_units) ?_
  rintro v2 blk2 h2 tk2 F2 N2 ne2 - ⟨D, vals, kd, T3', rfl, rfl, hvals, S3', hD⟩
  simp only [List.cons_append, List.nil_append] at N2
  clear F1 N1
  (try dsimp only)
  ((repeat' ((fail_if_success (with_reducible show wpAny _ _ (exec (Stmt.For _ _ _ _ _) _) _ _ _)); (first | (k_unfold; (try dsimp only)) | ((with_reducible first | show wpAny _ _ (exec _ _) _ _ _ | show wpAny _ _ (execs _ _) _ _ _); k_fold) | (k_end; wrow_close) | walk1 | (dsimp only; walk1) | (leave1; (try dsimp only))))) <;> (repeat (k_unfold; (try dsimp only))))
  rename Fr _ _ _ _ => F4
  rename News _ _ _ _ => N4
  refine wpAny_For ?_
  ((repeat' ((fail_if_success (with_reducible show wpAny _ _ (pyIter _) _ _ _)); (first | (k_unfold; (try dsimp only)) | ((with_reducible first | show wpAny _ _ (exec _ _) _ _ _ | show wpAny _ _ (execs _ _) _ _ _); k_fold) | (k_end; wrow_close) | walk1 | (dsimp only; walk1) | (leave1; (try dsimp only))))) <;> (repeat (k_unfold; (try dsimp only))))
  rename Fr _ _ _ _ => F5
  rename News _ _ _ _ => N5
  rename (_ < _ ∧ AllLt _ (T3' ++ T4)) => l9
  rename (_ < _ ∧ _ < _ ∧ AllLt _ (T3' ++ T4)) => l8
  have hvl : vals.length = len := by rw [hvals.length]; simp [digsOf]
  rw [show ((vals.length : Nat) : Int) = ((vals.toArray.size : Nat) : Int) from by simp] at N5
  rename_i Dq _ _ I _
  have hDq : ∀ p ∈ T3' ++ T4, p.1 ≠ Dq := fun p hp => Nat.ne_of_lt (allLt_mem l9.2 p hp)
  have hDDq : D ≠ Dq := Nat.ne_of_lt l9.1
  have hnI : ∀ p ∈ (Dq, listOf #[] 0) :: (D, listOf vals.toArray kd) :: (T3' ++ T4), p.1 ≠ I := List.forall_mem_cons.mpr ⟨Nat.ne_of_lt l8.1, List.forall_mem_cons.mpr ⟨Nat.ne_of_lt l8.2.1, fun p hp => Nat.ne_of_lt (allLt_mem l8.2.2 p hp)⟩⟩
  refine' for_rev (env := envOf _ _ L' 56 _) (lo := listOf vals.toArray kd) (its := vals.toArray) rfl rfl ⟨_, rfl⟩ hnI rfl rfl rfl F5 N5
    (fun i m news => ∃ vq kq dv qv ta tb tn tr, IntsAre vq (qTo n len (a / b) i) ∧ (∀ p ∈ (Dq, listOf (List.toArray vq) kq) :: (D, listOf vals.toArray kd) :: (T3' ++ T4), p ∈ news) ∧ ∀ y, m y = pm a b n (topD n len a i % b : Nat) D Dq ta tb tn tr dv qv y) ?hJ ?h0 ?turn ?done
  case hJ => rintro i m nw ⟨vq, kq, dv, qv, ta, tb, tn, tr, h1, h2, h3⟩; exact h2 _ (.tail _ (.head _))
  case h0 =>
    refine' ⟨[], 0, _, _, _, _, _, _, .nil, fun p hp => hp, ?meq⟩
    case meq =>
      rw [topD_zero b1, Nat.zero_mod]
      (intro y; unfold pm; (rcases Classical.em (y = "a_digit") with rfl | h0); exact rfl; (rcases Classical.em (y = "q_digit") with rfl | h1); exact rfl; (rcases Classical.em (y = "r") with rfl | h2); exact rfl; (rcases Classical.em (y = "q_digits") with rfl | h3); exact rfl; (rcases Classical.em (y = "a_digits") with rfl | h4); exact rfl; (rcases Classical.em (y = "n") with rfl | h5); exact rfl; (rcases Classical.em (y = "a") with rfl | h6); exact rfl; (rcases Classical.em (y = "b") with rfl | h7); exact rfl; (try simp only [if_neg h0, if_neg h1, if_neg h2, if_neg h3, if_neg h4, if_neg h5, if_neg h6, if_neg h7]); (first | done | exact rfl | (show List.lookup y (_ :: _) = none; simp only [List.lookup, beq_eq_false_iff_ne.mpr h0, beq_eq_false_iff_ne.mpr h1, beq_eq_false_iff_ne.mpr h2, beq_eq_false_iff_ne.mpr h3, beq_eq_false_iff_ne.mpr h4, beq_eq_false_iff_ne.mpr h5, beq_eq_false_iff_ne.mpr h6, beq_eq_false_iff_ne.mpr h7]) | (simp only [List.lookup, beq_eq_false_iff_ne.mpr h0, beq_eq_false_iff_ne.mpr h1, beq_eq_false_iff_ne.mpr h2, beq_eq_false_iff_ne.mpr h3, beq_eq_false_iff_ne.mpr h4, beq_eq_false_iff_ne.mpr h5, beq_eq_false_iff_ne.mpr h6, beq_eq_false_iff_ne.mpr h7]; done)))
  case turn =>
    intro i v m₁ news₁ h6 tk6 oI hi hv hJ hI F6 N6
    obtain ⟨vq, kq, dv, qv, ta, tb, tn, tr, hvq, hsub, hm⟩ := hJ
    have hi2 : i < len := by rw [List.size_toArray, hvl] at hi; exact hi
    obtain ⟨td, rfl⟩ := ints_get hvals (by rw [List.size_toArray, hvl] at hv; simpa using hv)
    rw [digsOf_getD _ b1] at F6
    have N7 := News.sub_app N6 hsub
    simp only [List.cons_append, List.nil_append] at N7
    try clear F5 N5 N6
    have F7 : Fr g L' h6 (pm a b n (topD n len a i % b : Nat) D Dq ta tb tn tr (some (.int ((dig n a (len - 1 - i) : Nat) : Int) td)) qv) := Fr.congr F6 (fun y => by
      (try dsimp only); rw [hm]; unfold pm; split <;> rfl)
    clear F6
    unfold pm at F7
    (try dsimp only); (try k_fold)
    have hlq : vq.length ≤ 60 := by rw [hvq.length]; simp [qTo]; omega
    have hrb := Nat.mod_lt (topD n len a i) hb
    have hsh : n + n ≤ 2 ^ 27 := by
      have e2 : (2 : Nat) ^ 27 = 134217728 := by decide
      omega
    ((repeat' ((fail_if_success (with_reducible show wpAny _ _ (call (Value.ref 28) _) _ _ _)); (first | ((with_reducible show wpAny _ _ (binaryOp Operator.LShift _ _) _ _ _); refine shl_nn (Nat.lt_trans hrb hbn) hsh ?_) | ((with_reducible show wpAny _ _ (binaryOp Operator.Add (Value.int (Nat.cast _) _) (Value.int (Nat.cast _) _)) _ _ _); refine add_nn ?_) | (k_unfold; (try dsimp only)) | ((with_reducible first | show wpAny _ _ (exec _ _) _ _ _ | show wpAny _ _ (execs _ _) _ _ _); k_fold) | (k_end; wrow_close) | walk1 | (dsimp only; walk1) | (leave1; (try dsimp only))))) <;> (repeat (k_unfold; (try dsimp only))))
    rename Fr _ _ _ _ => F8
    rename News _ _ _ _ => N8
    have hx : topD n len a i % b * 2 ^ n + dig n a (len - 1 - i) < 2 ^ 4000 := by
      have h1 : dig n a (len - 1 - i) < 2 ^ n := Nat.mod_lt _ (Nat.two_pow_pos _)
      have h2 : (topD n len a i % b + 1) * 2 ^ n ≤ 2 ^ n * 2 ^ n := Nat.mul_le_mul_right _ (by omega)
      rw [Nat.add_mul, Nat.one_mul, ← Nat.pow_add] at h2
      have h3 : 2 ^ (n + n) ≤ 2 ^ 4000 := Nat.pow_le_pow_right (by omega) (by omega)
      omega
    have hb4 : b < 2 ^ 4000 := Nat.lt_of_lt_of_le hbn (Nat.pow_le_pow_right (by omega) (by omega))
    refine use_g (div2n1n_c w _ b n _ _ _ hb hx hb4) (oth := _) B F8 X N8 T rfl rfl (fun p hp => nomatch hp) (fun p hp => hp) (fun p hp q hq => nomatch hq) (by k_room) (by k_units) ?_
    rintro v2 blk2 h7 tk7 F9 N9 ne9 - ⟨T9, rfl, tq9, tr9, rfl⟩
    rw [(qdig hb hi2).1, (qdig hb hi2).2] at N9
    simp only [List.cons_append, List.nil_append] at N9
    clear F8 N8
    try clear N7
    have hT9 : T9 ≠ Dq := ne9 _ (.head _) (Dq, _) (.head _)
    have hIDq : Dq ≠ I := Nat.ne_of_lt l8.1
    have hall : ∀ p ∈ T3' ++ T4 ++ [(I, oI)], p.1 ≠ Dq := fun p hp => by
      rcases List.mem_append.mp hp with hp | hp
      · exact hDq p hp
      · rw [List.mem_singleton.mp hp]; exact hIDq.symm
    (try dsimp only)
    ((repeat' ((fail_if_success (with_reducible show Left _)); (first | (k_unfold; (try dsimp only)) | ((with_reducible first | show wpAny _ _ (exec _ _) _ _ _ | show wpAny _ _ (execs _ _) _ _ _); k_fold) | (k_end; wrow_close) | walk1 | (dsimp only; walk1) | (leave1; (try dsimp only))))) <;> (repeat (k_unfold; (try dsimp only))))
    (try dsimp only)
    unfold Left
    rename Fr _ _ _ _ => F9
    rename News _ _ _ _ => N9
    simp only [List.push_toArray] at N9
    refine ⟨_, _, _, (Dq, listOf (vq ++ [Value.int ((dig n (a / b) (len - 1 - i) : Nat) : Int) tq9]).toArray (kq + 1)) :: (D, listOf vals.toArray kd) :: (T3' ++ T4), rfl, F9, fun p hp => N9 p (.tail _ hp), ?_, ?_⟩
    · exact List.forall_mem_cons.mpr ⟨hIDq, List.forall_mem_cons.mpr ⟨Nat.ne_of_lt l8.2.1, fun p hp => Nat.ne_of_lt (allLt_mem l8.2.2 p hp)⟩⟩
    · refine' ⟨_, _, _, _, _, _, _, _, by rw [qTo_succ]; exact ints_app hvq (.cons _ _ .nil), fun p hp => hp, ?meq⟩
      case meq => (intro y; unfold pm; (rcases Classical.em (y = "a_digit") with rfl | h0); exact rfl; (rcases Classical.em (y = "q_digit") with rfl | h1); exact rfl; (rcases Classical.em (y = "r") with rfl | h2); exact rfl; (rcases Classical.em (y = "q_digits") with rfl | h3); exact rfl; (rcases Classical.em (y = "a_digits") with rfl | h4); exact rfl; (rcases Classical.em (y = "n") with rfl | h5); exact rfl; (rcases Classical.em (y = "a") with rfl | h6); exact rfl; (rcases Classical.em (y = "b") with rfl | h7); exact rfl; (try simp only [if_neg h0, if_neg h1, if_neg h2, if_neg h3, if_neg h4, if_neg h5, if_neg h6, if_neg h7]); (first | done | exact rfl | (show List.lookup y (_ :: _) = none; simp only [List.lookup, beq_eq_false_iff_ne.mpr h0, beq_eq_false_iff_ne.mpr h1, beq_eq_false_iff_ne.mpr h2, beq_eq_false_iff_ne.mpr h3, beq_eq_false_iff_ne.mpr h4, beq_eq_false_iff_ne.mpr h5, beq_eq_false_iff_ne.mpr h6, beq_eq_false_iff_ne.mpr h7]) | (simp only [List.lookup, beq_eq_false_iff_ne.mpr h0, beq_eq_false_iff_ne.mpr h1, beq_eq_false_iff_ne.mpr h2, beq_eq_false_iff_ne.mpr h3, beq_eq_false_iff_ne.mpr h4, beq_eq_false_iff_ne.mpr h5, beq_eq_false_iff_ne.mpr h6, beq_eq_false_iff_ne.mpr h7]; done)))
  case done =>
    intro m₁ news₁ h6 tk6 hJ F6 N6
    obtain ⟨vq, kq, dv, qv, ta, tb, tn, tr, hvq, hsub, hm⟩ := hJ
    have hszl : vals.toArray.size = len := by simp [hvl]
    rw [hszl] at hvq hm
    have N7 := cb_drop N6 hsub
    have F7 := Fr.congr F6 hm
    try clear F5 N5 N6 F6
    unfold pm at F7
    rw [topD_all] at F7
    (try dsimp only)
    have hlq : vq.length ≤ 60 := by rw [hvq.length]; simp [qTo]; omega
    ((repeat' ((fail_if_success (with_reducible show wpAny _ _ (call (Value.builtin "list.reverse") _) _ _ _)); (first | (k_unfold; (try dsimp only)) | ((with_reducible first | show wpAny _ _ (exec _ _) _ _ _ | show wpAny _ _ (execs _ _) _ _ _); k_fold) | (k_end; wrow_close) | walk1 | (dsimp only; walk1) | (leave1; (try dsimp only))))) <;> (repeat (k_unfold; (try dsimp only))))
    rename Fr _ _ _ _ => F8
    rename News _ _ _ _ => N8
    have hall : ∀ p ∈ (D, listOf vals.toArray kd) :: (T3' ++ T4), p.1 ≠ Dq := List.forall_mem_cons.mpr ⟨hDDq, hDq⟩
    refine kl_reverse (its := vq.toArray) (l := vq.reverse) F8 N8 (by simp) (Upd.head hall) (by rw [sizeLine_eq]; simp; omega) ?_
    intro h9 F9 N9
    clear F8 N8
    have hvr : IntsAre vq.reverse (digsOf n len (a / b)) := by rw [← qTo_rev]; exact ints_rev hvq
    (try dsimp only)
    ((repeat' ((fail_if_success (with_reducible show wpAny _ _ (call (Value.ref 49) _) _ _ _)); (first | (k_unfold; (try dsimp only)) | ((with_reducible first | show wpAny _ _ (exec _ _) _ _ _ | show wpAny _ _ (execs _ _) _ _ _); k_fold) | (k_end; wrow_close) | walk1 | (dsimp only; walk1) | (leave1; (try dsimp only))))) <;> (repeat (k_unfold; (try dsimp only))))
    rename Fr _ _ _ _ => F8
    rename News _ _ _ _ => N8
    have hDqT : ∀ p ∈ T4, Dq ≠ p.1 := fun p hp => (hDq p (List.mem_append_right _ hp)).symm
    have hqa : a / b < 2 ^ (n * len) := Nat.lt_of_le_of_lt (Nat.div_le_self _ _) b1
    refine use_g (digits2int_c w Dq vq.reverse (digsOf n len (a / b)) kq n len (fun i => dig n (a / b) i) _ T4 S4 hDqT hn0 (by omega) hvr (by simp [digsOf]) hl60 (fun i => Nat.mod_lt _ (Nat.two_pow_pos _)) (fun i => digsOf_getD i hqa)) (oth := (D, listOf vals.toArray kd) :: T3') B F8 X N8 T rfl rfl ?_ ?_ ?_ (by k_room) (by k_units) ?_
    · exact List.forall_mem_cons.mpr ⟨.head _, fun p hp => .tail _ (.tail _ (List.mem_append_right _ hp))⟩
    · exact List.forall_mem_cons.mpr ⟨.tail _ (.head _), fun p hp => .tail _ (.tail _ (List.mem_append_left _ hp))⟩
    · refine List.forall_mem_cons.mpr ⟨List.forall_mem_cons.mpr ⟨hDDq, fun q hq => ne2 _ (.head _) q hq⟩, fun p hp => List.forall_mem_cons.mpr ⟨hDq p (List.mem_append_left _ hp), fun q hq => ne2 p (.tail _ hp) q hq⟩⟩
    rintro v3 T4' h10 tk10 F10 N10 - - ⟨⟨t10, rfl⟩, S4'⟩
    have hval : hv n (fun i => dig n (a / b) i) 0 len = a / b := by rw [hv_dig, Nat.mul_zero, Nat.pow_zero, Nat.div_one, Nat.mod_eq_of_lt hqa]
    rw [hval]
    replace N10 : News g L' h10 ((D, listOf vals.toArray kd) :: (T3' ++ T4')) := fun p hp => by
      rcases List.mem_cons.mp hp with rfl | hp
      · exact N10 _ (List.mem_append_right _ (.head _))
      · rcases List.mem_append.mp hp with hp | hp
        · exact N10 _ (List.mem_append_right _ (.tail _ hp))
        · exact N10 _ (List.mem_append_left _ hp)
    try clear F8 N8
    try clear F9 N9
    (try dsimp only)
    ((repeat' (first | (k_unfold; (try dsimp only)) | ((with_reducible first | show wpAny _ _ (exec _ _) _ _ _ | show wpAny _ _ (execs _ _) _ _ _); k_fold) | (k_end; wrow_close) | walk1 | (dsimp only; walk1) | (leave1; (try dsimp only)))) <;> (repeat (k_unfold; (try dsimp only))))
    (try dsimp only)
    rename Fr _ _ _ _ => F9
    rename News _ _ _ _ => N9
    refine (pair_post N9 (.head _) (fun p hp => .tail _ (.tail _ hp)) S3' S4').elim (fun sel9 H9 => ret _ sel9 _ _ F9.keep H9.1 H9.2)
theorem Con.monoDU {w : World} {D U D' U' : Nat} {f : Addr} {args : List Value} {sel : List (Addr × Obj)} {Post : Nat → Value → List (Addr × Obj) → Prop} (C : Con w D U f args sel Post) (h1 : D ≤ D') (h2 : U ≤ U') : Con w D' U' f args sel Post :=
  fun dp un gd outer base g tp tl mean mg mb s R a1 a2 a3 a4 a5 a6 a7 a8 ret => C dp un gd outer base g tp tl mean mg mb s R a1 a2 a3 a4 a5 a6 (by omega) (by omega) ret
theorem bits59 {a n : Nat} (ha : a < 2 ^ 59) (hn : 0 < n) : (Builtin.Int.intBits (a : Int) + n - 1) / n ≤ 60 := by
  have h1 := bits_lt ha
  have h2 : (Builtin.Int.intBits (a : Int) + n - 1) / n ≤ (60 * n) / n := Nat.div_le_div_right (by
    have : 59 * 1 ≤ 59 * n := Nat.mul_le_mul_left _ hn
    omega)
  rw [Nat.mul_div_cancel _ hn] at h2
  exact h2
theorem dm_nonneg (w : World) (a b : Nat) (ta tb : Tok) (T3 T4 : List (Addr × Obj)) (S3 : TabSt 37 35 4 "_int2digits.<locals>.inner" T3) (S4 : TabSt 44 50 4 "_digits2int.<locals>.inner" T4) (hb : 0 < b) (ha : a < 2 ^ 59) (hb2 : b < 2 ^ 59) :
    Con w 95 640 63 [.int a ta, .int b tb] (T3 ++ T4) (fun _ v blk => PairTabs v ((a / b : Nat) : Int) ((a % b : Nat) : Int) blk) := by
  have hbb := bits_lt hb2
  have hb0 : 0 < Builtin.Int.intBits (b : Int) := by
    have := lt_bits b
    rcases Nat.eq_zero_or_pos (Builtin.Int.intBits (b : Int)) with h | h
    · rw [h] at this; omega
    · exact h
  unfold Con
  k_fill
  intro dp un gd outer base g tp tl mean mg mb s R B hg hsz hsel X T hd hu ret
  refine' enter_g B hg hsz hsel X T ?k6 ?k7 ?k8 ?k9 ?kB ?_ ?c2 ?c3 ?c4 ?c5
  (case k6 => k_is); (case k7 => k_is); (case k8 => ktr_room); (case k9 => exact BindsTo.of_eq rfl); (case c5 => decide); (case kB => exact locs rfl); (case c2 => exact rfl); (case c3 => exact rfl); (case c4 => exact rfl)
  k_whole
  intro L' h' tk' F' N' l1
  (try dsimp only); (try k_fold)
  ((repeat' ((fail_if_success (with_reducible show wpAny _ _ (call (Value.ref 56) _) _ _ _)); (first | (k_unfold; (try dsimp only)) | ((with_reducible first | show wpAny _ _ (exec _ _) _ _ _ | show wpAny _ _ (execs _ _) _ _ _); k_fold) | (k_end; wrow_close) | walk1 | (dsimp only; walk1) | (leave1; (try dsimp only))))) <;> (repeat (k_unfold; (try dsimp only))))
  · exact absurd (by assumption : (b : Int) = 0) (by omega)
  rename Fr _ _ _ _ => F1
  rename News _ _ _ _ => N1
  refine use_g (divmod_pos_c w a b _ _ _ _ T3 T4 S3 S4 hb rfl (by omega) (Nat.lt_of_lt_of_le ha (Nat.pow_le_pow_right (by omega) (by omega))) rfl (bits59 ha hb0)) (oth := []) B F1 X N1 T rfl rfl (fun p hp => hp) (fun p hp => nomatch hp) (fun p hp => nomatch hp) (by k_room) (by k_units) ?_
  rintro v2 blk2 h2 tk2 F2 N2 - - H2
  rw [List.append_nil] at N2
  (try dsimp only)
  ((repeat' (first | (k_unfold; (try dsimp only)) | ((with_reducible first | show wpAny _ _ (exec _ _) _ _ _ | show wpAny _ _ (execs _ _) _ _ _); k_fold) | (k_end; wrow_close) | walk1 | (dsimp only; walk1) | (leave1; (try dsimp only)))) <;> (repeat (k_unfold; (try dsimp only))))
  (try dsimp only)
  exact ret _ _ _ _ F2.keep (fun r hr => ⟨(N2 r hr).1, (N2 r hr).2.2⟩) H2
theorem dm_neg (w : World) (a b : Nat) (ta tb : Tok) (T3 T4 : List (Addr × Obj)) (S3 : TabSt 37 35 4 "_int2digits.<locals>.inner" T3) (S4 : TabSt 44 50 4 "_digits2int.<locals>.inner" T4) (hb : 0 < b) (ha : a < 2 ^ 59) (hb2 : b < 2 ^ 59) :
    Con w 100 660 63 [.int (-(a : Int) - 1) ta, .int b tb] (T3 ++ T4) (fun _ v blk => PairTabs v (-((a / b : Nat) : Int) - 1) (b - 1 - ((a % b : Nat) : Int)) blk) := by
  unfold Con
  k_fill
  intro dp un gd outer base g tp tl mean mg mb s R B hg hsz hsel X T hd hu ret
  refine' enter_g B hg hsz hsel X T ?k6 ?k7 ?k8 ?k9 ?kB ?_ ?c2 ?c3 ?c4 ?c5
  (case k6 => k_is); (case k7 => k_is); (case k8 => ktr_room); (case k9 => exact BindsTo.of_eq rfl); (case c5 => decide); (case kB => exact locs rfl); (case c2 => exact rfl); (case c3 => exact rfl); (case c4 => exact rfl)
  k_whole
  intro L' h' tk' F' N' l1
  (try dsimp only); (try k_fold)
  ((repeat' ((fail_if_success (with_reducible show wpAny _ _ (call (Value.ref 63) _) _ _ _)); (first | (k_unfold; (try dsimp only)) | ((with_reducible first | show wpAny _ _ (exec _ _) _ _ _ | show wpAny _ _ (execs _ _) _ _ _); k_fold) | (k_end; wrow_close) | walk1 | (dsimp only; walk1) | (leave1; (try dsimp only))))) <;> (repeat (k_unfold; (try dsimp only))))
  · exact absurd (by assumption : (b : Int) = 0) (by omega)
  rename Fr _ _ _ _ => F1
  rename News _ _ _ _ => N1
  rw [show Builtin.bitNot (-(a : Int) - 1) = (a : Int) from by unfold Builtin.bitNot; omega]
  refine use_g (dm_nonneg w a b _ _ T3 T4 S3 S4 hb ha hb2) (oth := []) B F1 X N1 T rfl rfl (fun p hp => hp) (fun p hp => nomatch hp) (fun p hp => nomatch hp) (by k_room) (by k_units) ?_
  rintro v2 blk2 h2 tk2 F2 N2 - - ⟨T9, T3', T4', tq9, tr9, rfl, S3', S4', rfl⟩
  simp only [List.cons_append, List.append_nil] at N2
  clear F1 N1
  (try dsimp only)
  ((repeat' (first | (k_unfold; (try dsimp only)) | ((with_reducible first | show wpAny _ _ (exec _ _) _ _ _ | show wpAny _ _ (execs _ _) _ _ _); k_fold) | (k_end; wrow_close) | walk1 | (dsimp only; walk1) | (leave1; (try dsimp only)))) <;> (repeat (k_unfold; (try dsimp only))))
  (try dsimp only)
  rename Fr _ _ _ _ => F9
  rename News _ _ _ _ => N9
  rw [show Builtin.bitNot ((a / b : Nat) : Int) = -((a / b : Nat) : Int) - 1 from rfl, show (b : Int) + Builtin.bitNot ((a % b : Nat) : Int) = b - 1 - ((a % b : Nat) : Int) from by unfold Builtin.bitNot; omega] at N9
  refine (pair_post N9 (.head _) (fun p hp => .tail _ (.tail _ hp)) S3' S4').elim (fun sel9 H9 => ret _ sel9 _ _ F9.keep H9.1 H9.2)
theorem int_divmod_c (w : World) (a b : Int) (ta tb : Tok) (T3 T4 : List (Addr × Obj)) (S3 : TabSt 37 35 4 "_int2digits.<locals>.inner" T3) (S4 : TabSt 44 50 4 "_digits2int.<locals>.inner" T4) (hb : 0 < b) (ha : a.natAbs < 2 ^ 59) (hb2 : b.natAbs < 2 ^ 59) :
    Con w 100 660 63 [.int a ta, .int b tb] (T3 ++ T4) (fun _ v blk => PairTabs v (a / b) (a % b) blk) := by
  obtain ⟨b, rfl⟩ := Int.eq_ofNat_of_zero_le (Int.le_of_lt hb)
  rcases Int.lt_or_le a 0 with h | h
  · obtain ⟨m, rfl⟩ : ∃ m : Nat, a = -(m : Int) - 1 := ⟨(-a - 1).toNat, by omega⟩
    have hb' : 0 < b := by omega
    have h1 := Nat.div_add_mod m b
    have h2 := Nat.mod_lt m hb'
    have h3 : (b : Int) * ((m / b : Nat) : Int) + ((m % b : Nat) : Int) = m := by exact_mod_cast h1
    obtain ⟨e1, e2⟩ := (Int.ediv_emod_unique (a := -(m : Int) - 1) (b := (b : Int)) (q := -((m / b : Nat) : Int) - 1) (r := b - 1 - ((m % b : Nat) : Int)) (by omega)).mpr
      ⟨by rw [Int.mul_sub, Int.mul_neg, Int.mul_one]; omega, by omega, by omega⟩
    rw [e1, e2]
    refine Con.monoDU (dm_neg w m b ta tb T3 T4 S3 S4 hb' (by omega) (by simpa using hb2)) (Nat.le_refl _) (Nat.le_refl _)
  · obtain ⟨m, rfl⟩ := Int.eq_ofNat_of_zero_le h
    refine Con.monoDU (dm_nonneg w m b ta tb T3 T4 S3 S4 (by omega) (by simpa using ha) (by simpa using hb2)) (by omega) (by omega)
noncomputable abbrev LexA.adrs (a : LexA) : List Addr := [a.x, a.dx, a.pb, a.st, a.std]
section
variable {w : World} {dp un : Nat} {gd : Option (List Code)} {env : Env} {outer : List Env} {A₀ : Around} {base h₀ : Heap} {L : Addr} {m : Str → Option Value} {tp : Program} {tl : List Str} {mean : ExcName → Option Value} {mg mb : Str → Option Value} {s : Shared} {Q E : Value → Shared → Prop}
  {a : LexA} {text : Str} {adr : List Addr} {RO : Nat → List (Addr × Obj) → Prop} {lin : Int} {wsp : Str} {ws : List Str} {p : Nat} {aa blk : List (Addr × Obj)}
theorem off_sel (M : MachSt w a RO lin wsp ws p blk) (Rd : Reader w a.rd text adr RO) (off : ∀ q ∈ aa, q.1 ∉ a.adrs ++ adr) : ∀ q ∈ aa, ∀ r ∈ blk, q.1 ≠ r.1 := fun q hq r hr e => by
  refine off q hq ?_
  show q.1 ∈ [a.x, a.dx, a.pb, a.st, a.std] ++ adr
  rw [← M.adrs Rd, e]
  exact List.mem_map_of_mem hr
theorem mach_push (Rd : Reader w a.rd text adr RO) (O : a.Ok adr) (M : MachSt w a RO lin wsp ws p blk) (off : ∀ q ∈ aa, q.1 ∉ a.adrs ++ adr) {y : Str} {t : Tok} (hlen : ws.length < 10000)
    (B : Below A₀ base outer h₀) (F : Fr h₀ L s.heap m) (X : (hd.heap_1 w.params).In h₀) (N : News h₀ L s.heap (aa ++ blk)) (T : Top tp tl mean mg mb h₀) (hf : env.frame = some L) (hke : env.scope.kind = .function)
    (hd : dp + 10 < recursionLimit) (hu : un + 50 < cLine)
    (ret : ∀ blk' h' tk', Fr h₀ L h' m → News h₀ L h' (aa ++ blk') → MachSt w a RO lin wsp (ws ++ [y]) p blk' → Q .none { s with heap := h', toks := tk' }) :
    wpAny (model Challenge.rw_pe0259_03.row.prog w) (Ar dp un gd (env :: outer)) (call (.ref 98) [.ref a.x, .str y t]) Q E s := by
  refine use_g (push_token_c w a text adr RO Rd O lin wsp ws p blk M y t hlen) (oth := aa) B F X N T hf hke (fun q hq => List.mem_append_right _ hq) (fun q hq => List.mem_append_left _ hq) (off_sel M Rd off) (by omega) (by omega) ?_
  rintro v blk' h' tk' F' N' - - ⟨rfl, M'⟩
  exact ret blk' h' tk' F' (News.swap N') M'
theorem mach_get1 (Rd : Reader w a.rd text adr RO) (O : a.Ok adr) {y : Str} (M : MachSt w a RO lin wsp (y :: ws) p blk) (off : ∀ q ∈ aa, q.1 ∉ a.adrs ++ adr) (hlen : ws.length < 10000)
    (B : Below A₀ base outer h₀) (F : Fr h₀ L s.heap m) (X : (hd.heap_1 w.params).In h₀) (N : News h₀ L s.heap (aa ++ blk)) (T : Top tp tl mean mg mb h₀) (hf : env.frame = some L) (hke : env.scope.kind = .function)
    (hd : dp + 10 < recursionLimit) (hu : un + 50 < cLine)
    (ret : ∀ t blk' h' tk', Fr h₀ L h' m → News h₀ L h' (aa ++ blk') → MachSt w a RO lin wsp ws p blk' → Q (.str y t) { s with heap := h', toks := tk' }) :
    wpAny (model Challenge.rw_pe0259_03.row.prog w) (Ar dp un gd (env :: outer)) (call (.ref 91) [.ref a.x]) Q E s := by
  refine use_g (get_token_1 w a text adr RO Rd O lin wsp y ws p blk M hlen) (oth := aa) B F X N T hf hke (fun q hq => List.mem_append_right _ hq) (fun q hq => List.mem_append_left _ hq) (off_sel M Rd off) (by omega) (by omega) ?_
  rintro v blk' h' tk' F' N' - - ⟨⟨t, rfl⟩, M'⟩
  exact ret t blk' h' tk' F' (News.swap N') M'
theorem mach_get0 (Rd : Reader w a.rd text adr RO) (O : a.Ok adr) {c : Int} (M : MachSt w a RO (c + nlTo text p) wsp [] p blk) (off : ∀ q ∈ aa, q.1 ∉ a.adrs ++ adr) (hp : p ≤ text.length) (hlen : text.length < 100000)
    (B : Below A₀ base outer h₀) (F : Fr h₀ L s.heap m) (X : (hd.heap_1 w.params).In h₀) (N : News h₀ L s.heap (aa ++ blk)) (T : Top tp tl mean mg mb h₀) (hf : env.frame = some L) (hke : env.scope.kind = .function)
    (hd : dp + 25 < recursionLimit) (hu : un + 250 < cLine)
    (ret : ∀ t p' blk' h' tk', p' ≤ text.length → codes text p' = (lex0 wsp (codes text p)).2 → Fr h₀ L h' m → News h₀ L h' (aa ++ blk') → MachSt w a RO (c + nlTo text p') wsp [] p' blk' → Q (.str (lex0 wsp (codes text p)).1 t) { s with heap := h', toks := tk' }) :
    wpAny (model Challenge.rw_pe0259_03.row.prog w) (Ar dp un gd (env :: outer)) (call (.ref 91) [.ref a.x]) Q E s := by
  refine use_g (get_token_0 w a text adr RO Rd O c wsp p blk M hp hlen) (oth := aa) B F X N T hf hke (fun q hq => List.mem_append_right _ hq) (fun q hq => List.mem_append_left _ hq) (off_sel M Rd off) (by omega) (by omega) ?_
  rintro v blk' h' tk' F' N' - - ⟨t, p', rfl, hp', hc', M'⟩
  exact ret t p' blk' h' tk' hp' hc' F' (News.swap N') M'
end
/-- the iterator's cell put between the ledger's head and the machine's block, and taken out again -/
theorem News.ins {h₀ h : Heap} {L : Addr} {aa blk news₁ : List (Addr × Obj)} {i : Addr × Obj} (N : News h₀ L h (news₁ ++ [i])) (hsub : ∀ p ∈ aa ++ blk, p ∈ news₁) : News h₀ L h ((i :: aa) ++ blk) := fun p hp => by
  rcases List.mem_cons.mp hp with rfl | hp
  · exact N _ (List.mem_append_right _ (.head _))
  · exact N p (List.mem_append_left _ (hsub p hp))
theorem News.outs {h₀ h : Heap} {L : Addr} {aa blk : List (Addr × Obj)} {i : Addr × Obj} (N : News h₀ L h ((i :: aa) ++ blk)) : News h₀ L h ((aa ++ blk) ++ [i]) := fun p hp => by
  rcases List.mem_append.mp hp with hp | hp
  · exact N p (.tail _ hp)
  · rw [List.mem_singleton.mp hp]; exact N _ (.head _)
theorem strs_get {vs : List Value} {xs : List Str} (h : StrsAre vs xs) {i : Nat} {v : Value} (hv : vs[i]? = some v) : ∃ t x, xs[i]? = some x ∧ v = .str x t := by
  induction h generalizing i with
  | nil => simp at hv
  | cons a t h ih =>
    cases i with
    | zero => simp at hv; exact ⟨t, a, rfl, hv.symm⟩
    | succ i => simpa using ih (by simpa using hv)
/-- a ring of words, the one at place j in front -/
noncomputable def ringL (ws : List Str) (j : Nat) : List Str := (List.range ws.length).map fun i => ws.getD ((i + j) % ws.length) Str.empty
theorem ringL_zero (ws : List Str) : ringL ws 0 = ws := by
  apply List.ext_getElem
  · simp [ringL]
  · intro i h1 h2
    simp [ringL, Nat.mod_eq_of_lt h2, List.getD_eq_getElem?_getD, h2]
theorem ringL_len (ws : List Str) (j : Nat) : (ringL ws j).length = ws.length := by simp [ringL]
theorem ringL_front {ws : List Str} (hn : 0 < ws.length) (j : Nat) : ∃ r, ringL ws j = ws.getD (j % ws.length) Str.empty :: r ∧ r ++ [ws.getD (j % ws.length) Str.empty] = ringL ws (j + 1) := by
  obtain ⟨k, hk⟩ : ∃ k, ws.length = k + 1 := ⟨ws.length - 1, by omega⟩
  refine ⟨(List.range k).map fun i => ws.getD ((i + 1 + j) % ws.length) Str.empty, ?_, ?_⟩
  · unfold ringL
    rw [hk, List.range_succ_eq_map, List.map_cons, List.map_map]
    simp [Function.comp_def]
  · unfold ringL
    rw [hk, List.range_succ, List.map_append]
    congr 1
    · apply List.map_congr_left
      intro i _
      rw [show i + 1 + j = i + (j + 1) from by omega]
    · simp only [List.map_cons, List.map_nil]
      rw [show k + (j + 1) = j + (k + 1) from by omega, Nat.add_mod_right]
theorem ringL_full {ws : List Str} (m : Nat) : ringL ws (ws.length * m) = ws := by
  have : ringL ws (ws.length * m) = ringL ws 0 := by
    unfold ringL
    apply List.map_congr_left
    intro i _
    rw [Nat.add_mul_mod_self_left, Nat.add_zero]
  rw [this, ringL_zero]
/-- the words noted: every step-th of the ring, as many as there are -/
noncomputable def dealtTo (ws : List Str) (step i : Nat) : List Str := (List.range i).map fun k => ws.getD (k * step % ws.length) Str.empty
theorem dealtTo_succ (ws : List Str) (step i : Nat) : dealtTo ws step (i + 1) = dealtTo ws step i ++ [ws.getD (i * step % ws.length) Str.empty] := by
  unfold dealtTo; rw [List.range_succ, List.map_append]; rfl
theorem not_adrs {w : World} {a : LexA} {text : Str} {adr : List Addr} {RO : Nat → List (Addr × Obj) → Prop} {lin : Int} {wsp : Str} {ws : List Str} {p : Nat} {blk : List (Addr × Obj)} {z : Addr} (M : MachSt w a RO lin wsp ws p blk) (Rd : Reader w a.rd text adr RO) (h : ∀ r ∈ blk, r.1 ≠ z) : z ∉ a.adrs ++ adr := fun hm => by
  have hm2 : z ∈ [a.x, a.dx, a.pb, a.st, a.std] ++ adr := hm
  rw [← M.adrs Rd] at hm2
  obtain ⟨r, hr, e⟩ := List.mem_map.mp hm2
  exact h r hr e
theorem of_adrs {w : World} {a : LexA} {text : Str} {adr : List Addr} {RO : Nat → List (Addr × Obj) → Prop} {lin : Int} {wsp : Str} {ws : List Str} {p : Nat} {blk : List (Addr × Obj)} {z : Addr} (M : MachSt w a RO lin wsp ws p blk) (Rd : Reader w a.rd text adr RO) (h : z ∉ a.adrs ++ adr) : ∀ r ∈ blk, r.1 ≠ z := fun r hr e => h (by
  show z ∈ [a.x, a.dx, a.pb, a.st, a.std] ++ adr
  rw [← M.adrs Rd, ← e]
  exact List.mem_map_of_mem hr)
section
variable {prog : Program} {w : World} {A : Around} {s : Shared} {env : Env} {h₀ : Heap} {L : Addr}
/-- a while by what holds between its turns and a number that falls -/
theorem while_J {R : Result → Shared → Prop} {test : Expr} {body : List Stmt} {m : Str → Option Value} {news : List (Addr × Obj)} {n : Nat} (F : Fr h₀ L s.heap m) (N : News h₀ L s.heap news)
    (J : Nat → (Str → Option Value) → List (Addr × Obj) → Prop) (h0 : J n m news)
    (turn : ∀ n m₁ news₁ h tk, J n m₁ news₁ → Fr h₀ L h m₁ → News h₀ L h news₁ →
      wpAny (model prog w) A (isTrue test env (eval test env)) (fun b s₂ =>
        if b = true then wpAny (model prog w) A (execs body env) (fun f s₃ => match f with
            | .next | .cont => Left (∃ n' m' nx h' tk', n' < n ∧ s₃ = { s with heap := h', toks := tk' } ∧ Fr h₀ L h' m' ∧ News h₀ L h' nx ∧ J n' m' nx)
            | .brk => R (.ok .next) s₃
            | .ret v => R (.ok (.ret v)) s₃) (fun _ _ => False) s₂
        else R (.ok .next) s₂) (fun _ _ => False) { s with heap := h, toks := tk }) :
    codeAny (model prog w) A (.whileLoop test body [] env) R s := by
  refine codeAny_whileLoop (fun n s' => ∃ m news h tk, s' = { s with heap := h, toks := tk } ∧ Fr h₀ L h m ∧ News h₀ L h news ∧ J n m news) ?_ n ⟨m, news, s.heap, s.toks, rfl, F, N, h0⟩
  rintro n s' ⟨m₁, news₁, h, tk, rfl, F₁, N₁, hJ⟩
  refine wpAny_mono (turn n m₁ news₁ h tk hJ F₁ N₁) (fun b s₂ z => ?_) (fun _ _ z => z.elim)
  cases b with
  | true =>
    simp only [if_true] at z ⊢
    refine wpAny_mono z (fun f s₃ z => ?_) (fun _ _ z => z.elim)
    cases f with
    | next => obtain ⟨n', m', nx, h', tk', a1, a2, a3, a4, a5⟩ := z; exact ⟨n', a1, m', nx, h', tk', a2, a3, a4, a5⟩
    | cont => obtain ⟨n', m', nx, h', tk', a1, a2, a3, a4, a5⟩ := z; exact ⟨n', a1, m', nx, h', tk', a2, a3, a4, a5⟩
    | brk => exact z
    | ret v => exact z
  | false =>
    simp only [Bool.false_eq_true, if_false] at z ⊢
    exact wpAny_execs_nil z
end
section
variable {prog : Program} {w : World} {A : Around} {E : Value → Shared → Prop} {s : Shared} {t u : Tok} {Q : Value → Shared → Prop}
theorem fdiv_st {x y : Nat} (hy : 0 < y) (hy2 : y < 1000) (h : Q (.int ((x / y : Nat) : Int) s.toks) { s with toks := s.toks + 1 }) : wpAny (model prog w) A (binaryOp .FloorDiv (.int (x : Int) t) (.int (y : Int) u)) Q E s := by
  refine floordiv_int (by omega) ?_ (.inl (PyProof.noPylong_small (by omega)))
  rw [fdiv_nn]; exact h
theorem fdiv2_st {x : Nat} (h : Q (.int ((x / 2 : Nat) : Int) s.toks) { s with toks := s.toks + 1 }) : wpAny (model prog w) A (binaryOp .FloorDiv (.int (x : Int) t) (.int 2 u)) Q E s :=
  fdiv_st (y := 2) (by omega) (by omega) h
theorem mod_st {x y : Nat} (hy : 0 < y) (hy2 : y < 1000) (h : Q (.int ((x % y : Nat) : Int) s.toks) { s with toks := s.toks + 1 }) : wpAny (model prog w) A (binaryOp .Mod (.int (x : Int) t) (.int (y : Int) u)) Q E s := by
  refine mod_int' (by omega) ?_
  rw [fmod_nn]; exact h
theorem pow_st {x y : Nat} (hx : x < 16) (hy : y < 100) (h : Q (.int ((x ^ y : Nat) : Int) s.toks) { s with toks := s.toks + 1 }) : wpAny (model prog w) A (binaryOp .Pow (.int (x : Int) t) (.int (y : Int) u)) Q E s := by
  have hb := bits_lt (a := x) (m := 4) (by omega)
  refine pow_int (Int.natCast_nonneg _) ?_ ?_
  · have e : (2 : Int) ^ 27 = 134217728 := by decide
    rw [e]
    have : ((Builtin.Int.intBits (x : Int) : Nat) : Int) * (y : Int) ≤ 4 * 100 := by
      have h1 : Builtin.Int.intBits (x : Int) * y ≤ 4 * 100 := Nat.mul_le_mul hb (by omega)
      exact_mod_cast h1
    omega
  · rw [Int.toNat_natCast, ← Int.natCast_pow]; exact h
end
theorem join_Tx : ∀ xs : List (List Nat), Txt.join (Str.ofString "") (xs.map Tx) = Tx xs.flatten := by
  intro xs
  show Builtin.Str.glued _ _ = _
  rw [StrLaws.glued_eq_join]
  induction xs with
  | nil => rfl
  | cons x r ih =>
    cases r with
    | nil => simp only [List.map_cons, List.map_nil, List.flatten_cons, List.flatten_nil, List.append_nil]; rfl
    | cons y r =>
      rw [List.map_cons, List.map_cons, join_cons_cons, ← List.map_cons, ih, lit_e, Tx_app, Tx_app, List.append_nil]; rfl
theorem flat_le {b : Nat} : ∀ xs : List (List Nat), (∀ x ∈ xs, x.length ≤ b) → xs.flatten.length ≤ b * xs.length
  | [], _ => by simp
  | x :: r, h => by
    have h1 := h x (.head _)
    have h2 := flat_le r fun y hy => h y (.tail _ hy)
    rw [List.flatten_cons, List.length_append, List.length_cons, Nat.mul_add]
    omega
theorem lens_Tx (xs : List (List Nat)) : ((xs.map Tx).map (·.length)).sum = xs.flatten.length := by
  induction xs with
  | nil => rfl
  | cons x r ih => rw [List.map_cons, List.map_cons, List.sum_cons, ih, List.flatten_cons, List.length_append, Tx_len]
section
variable {prog : Program} {w : World} {A : Around} {E : Value → Shared → Prop} {s : Shared} {t : Tok} {Q : Value → Shared → Prop}
theorem join_T {D : Addr} {its : List Value} {ys : List Str} {xs : List (List Nat)} (hl : s.heap.IsList D its.toArray) (hi : StrsAre its ys) (hy : ys = xs.map Tx) (hw : xs.flatten.length + xs.length ≤ 1048576)
    (h : ∀ t' k, Q (.str (Tx xs.flatten) t') { s with toks := k }) : wpAny (model prog w) A (call (.builtin "str.join") [.str (Str.ofString "") t, .ref D]) Q E s := by
  subst hy
  refine join_listW hl (by simpa using hi) (Nat.zero_le _) (by rw [lens_Tx, List.length_map]; exact hw) ?_
  rw [join_Tx]; exact h
end
theorem spell_len {k : Nat} {m : Int} (hk : k < 20) : (spellL k m).length ≤ 50 := by
  have : ((List.replicate k [92, 32]).flatten).length ≤ 2 * k := by
    have := flat_le (b := 2) (List.replicate k [92, 32]) (fun x hx => by rw [(List.mem_replicate.mp hx).2]; decide)
    rwa [List.length_replicate] at this
  unfold spellL
  split
  · simp; omega
  · split
    · simp; omega
    · simp; omega
/-- the words 0 .. n - 1 as they are written, by manners from b on -/
noncomputable def textW (n : Nat) (b : Int) : List (List Nat) := (List.range n).map fun k => spellL k ((b + (k : Int)) % 3)
noncomputable def textL (n : Nat) (b : Int) : List Nat := (textW n b).flatten ++ [101, 110, 100]
theorem textW_len {n : Nat} {b : Int} (hn : n < 20) : (textW n b).flatten.length ≤ 1000 := by
  have := flat_le (b := 50) (textW n b) (fun x hx => by
    obtain ⟨k, hk, rfl⟩ := List.mem_map.mp hx
    exact spell_len (by have := List.mem_range.mp hk; omega))
  unfold textW at this ⊢
  rw [List.length_map, List.length_range] at this
  omega
section
variable {prog : Program} {w : World} {A : Around} {E : Value → Shared → Prop} {s : Shared} {t u : Tok} {Q : Value → Shared → Prop}
theorem add_Tx {a b : List Nat} {y : Str} (hy : y = Tx b) (hs : a.length + b.length ≤ 1000000) (h : ∀ t' k, Q (.str (Tx (a ++ b)) t') { s with toks := k }) : wpAny (model prog w) A (binaryOp .Add (.str (Tx a) t) (.str y u)) Q E s := by
  subst hy
  refine PyProof.Rows.add_str ?_ (by rw [Tx_len, Tx_len, sizeLine_eq]; omega)
  rw [Tx_app]; exact h
end
theorem ws_9 : inWs "\n\t\r " 9 = true := by decide +kernel
theorem ws_10 : inWs "\n\t\r " 10 = true := by decide +kernel
theorem ws_34 : inWs "\n\t\r " 34 = false := by decide +kernel
theorem ws_92 : inWs "\n\t\r " 92 = false := by decide +kernel
theorem ws_101 : inWs "\n\t\r " 101 = false := by decide +kernel
theorem ws_110 : inWs "\n\t\r " 110 = false := by decide +kernel
theorem ws_100 : inWs "\n\t\r " 100 = false := by decide +kernel
theorem blank_add (a : List Nat) (k : Nat) : Tx a ++ (⟨#[32]⟩ : Str) ++ blank k = Tx a ++ blank (k + 1) := by
  show Tx a ++ Tx [32] ++ Tx _ = Tx a ++ Tx _
  rw [Tx_app, Tx_app, Tx_app, List.append_assoc]; rfl
theorem lexQ_plain (rest : List Nat) (k : Nat) : ∀ a : List Nat, lexQ (List.replicate k 32 ++ 34 :: rest) (Tx a) = (Tx a ++ blank k, rest) := by
  induction k with
  | zero => intro a; rw [List.replicate_zero, List.nil_append, lexQ_cons, if_pos rfl]; simp [Tx_app]
  | succ k ih =>
    intro a
    rw [List.replicate_succ, List.cons_append, lexQ_cons, if_neg (by decide), if_neg (by decide)]
    have := ih (a ++ [32])
    rw [← Tx_app] at this
    exact this.trans (by rw [show Tx [32] = (⟨#[32]⟩ : Str) from rfl, blank_add])
theorem lexQ_esc' (rest : List Nat) (k : Nat) : ∀ a : List Nat, lexQ ((List.replicate k [92, 32]).flatten ++ 34 :: rest) (Tx a) = (Tx a ++ blank k, rest) := by
  induction k with
  | zero => intro a; rw [List.replicate_zero, List.flatten_nil, List.nil_append, lexQ_cons, if_pos rfl]; simp [Tx_app]
  | succ k ih =>
    intro a
    rw [List.replicate_succ, List.flatten_cons, List.cons_append, List.cons_append, lexQ_cons, if_neg (by decide), if_pos rfl]
    have := ih (a ++ [32])
    rw [← Tx_app] at this
    exact this.trans (by rw [show Tx [32] = (⟨#[32]⟩ : Str) from rfl, blank_add])
theorem lexW_esc' (rest : List Nat) (k : Nat) : ∀ a : List Nat, lexW "\n\t\r " ((List.replicate k [92, 32]).flatten ++ 10 :: rest) (Tx a) = (Tx a ++ blank k, rest) := by
  induction k with
  | zero => intro a; rw [List.replicate_zero, List.flatten_nil, List.nil_append, lexW_cons, ws_10, if_pos rfl]; simp [Tx_app]
  | succ k ih =>
    intro a
    rw [List.replicate_succ, List.flatten_cons, List.cons_append, List.cons_append, lexW_cons, ws_92, if_neg (by decide), if_pos rfl]
    have := ih (a ++ [32])
    rw [← Tx_app] at this
    exact this.trans (by rw [show Tx [32] = (⟨#[32]⟩ : Str) from rfl, blank_add])
theorem Tx_nil_app (x : List Nat) : Tx [] ++ Tx x = Tx x := by rw [Tx_app, List.nil_append]
/-- what may be left of a word as it is written -/
noncomputable def preL (pre : List Nat) : Prop := pre = [] ∨ pre = [9]
theorem lex_pre {pre : List Nat} (h : preL pre) (cs : List Nat) : lex0 "\n\t\r " (pre ++ cs) = lex0 "\n\t\r " cs := by
  rcases h with rfl | rfl
  · rfl
  · rw [List.cons_append, lex0_cons, ws_9, if_pos rfl]; rfl
theorem lex_spell (k : Nat) (m : Int) (rest : List Nat) : ∃ pre, preL pre ∧ lex0 "\n\t\r " (spellL k m ++ rest) = (blank k, pre ++ rest) := by
  unfold spellL
  split
  · refine ⟨[], .inl rfl, ?_⟩
    rw [List.cons_append, List.append_assoc, lex0_cons, ws_34, if_neg (by decide), if_pos rfl, show ("" : Str) = Tx [] from lit_e]
    exact (lexQ_plain rest k []).trans (by rw [Tx_nil_app]; rfl)
  · rename_i h
    obtain ⟨j, rfl⟩ : ∃ j, k = j + 1 := ⟨k - 1, by omega⟩
    split
    · refine ⟨[], .inl rfl, ?_⟩
      rw [List.replicate_succ, List.flatten_cons, List.append_assoc, List.cons_append, List.cons_append, lex0_cons, ws_92, if_neg (by decide), if_neg (by decide), if_pos rfl]
      have := lexW_esc' rest j [32]
      rw [show ("" : Str) = Tx [] from lit_e]
      show lexW _ ((List.replicate j [92, 32]).flatten ++ 10 :: rest) (Tx [] ++ Tx [32]) = _
      rw [Tx_nil_app]
      exact this.trans (by rw [Tx_app]; rfl)
    · refine ⟨[9], .inr rfl, ?_⟩
      rw [List.cons_append, List.append_assoc, lex0_cons, ws_34, if_neg (by decide), if_pos rfl, show ("" : Str) = Tx [] from lit_e]
      have := lexQ_esc' (9 :: rest) (j + 1) []
      exact this.trans (by rw [Tx_nil_app]; rfl)
theorem lex_end : lex0 "\n\t\r " [101, 110, 100] = (Tx [101, 110, 100], []) := by
  rw [lex0_cons, ws_101, if_neg (by decide), if_neg (by decide), if_neg (by decide), lexW_cons, ws_110, if_neg (by decide), if_neg (by decide), lexW_cons, ws_100, if_neg (by decide), if_neg (by decide), show ("" : Str) = Tx [] from lit_e]
  show (Tx [] ++ Tx [101] ++ Tx [110] ++ Tx [100], _) = _
  rw [Tx_app, Tx_app, Tx_app]; rfl
theorem lex_nil : lex0 "\n\t\r " [] = (Tx [], []) := by rw [← lit_e]; rfl
/-- the words from the i-th on, as they are written, and end -/
noncomputable def restW (n : Nat) (b : Int) (i : Nat) : List Nat := ((textW n b).drop i).flatten ++ [101, 110, 100]
theorem restW_zero (n : Nat) (b : Int) : restW n b 0 = textL n b := rfl
theorem restW_succ {n : Nat} {b : Int} {i : Nat} (h : i < n) : restW n b i = spellL i ((b + (i : Int)) % 3) ++ restW n b (i + 1) := by
  unfold restW textW
  rw [List.drop_eq_getElem_cons (by simpa using h), List.flatten_cons, List.append_assoc]
  simp
theorem restW_end (n : Nat) (b : Int) : restW n b n = [101, 110, 100] := by
  unfold restW textW
  rw [List.drop_of_length_le (by simp)]; rfl
theorem tab_fields {P line col : Nat} {qual : Str} {tb : List (Addr × Obj)} (S : TabSt P line col qual tb) : ∀ p ∈ tb, ∃ vs, p.2.data = .fields vs := by
  rcases S with rfl | ⟨c, oc, vs, t, rfl, h1, h2, -⟩
  · exact List.forall_mem_cons.mpr ⟨⟨_, rfl⟩, List.forall_mem_nil _⟩
  · exact List.forall_mem_cons.mpr ⟨⟨_, rfl⟩, List.forall_mem_cons.mpr ⟨⟨_, h1⟩, List.forall_mem_nil _⟩⟩
section
variable {w : World} {dp un : Nat} {gd : Option (List Code)} {env : Env} {outer : List Env} {A₀ : Around} {base h₀ : Heap} {L : Addr} {m : Str → Option Value} {tp : Program} {tl : List Str} {mean : ExcName → Option Value} {mg mb : Str → Option Value} {s : Shared} {Q E : Value → Shared → Prop}
  {aa T3 T4 : List (Addr × Obj)}
theorem dm_use {a b : Int} {ta tb : Tok} (S3 : TabSt 37 35 4 "_int2digits.<locals>.inner" T3) (S4 : TabSt 44 50 4 "_digits2int.<locals>.inner" T4) (off : ∀ q ∈ aa, ∀ r ∈ T3 ++ T4, q.1 ≠ r.1)
    (hb : 0 < b) (ha : a.natAbs < 2 ^ 59) (hb2 : b.natAbs < 2 ^ 59)
    (B : Below A₀ base outer h₀) (F : Fr h₀ L s.heap m) (X : (hd.heap_1 w.params).In h₀) (N : News h₀ L s.heap (aa ++ (T3 ++ T4))) (T : Top tp tl mean mg mb h₀) (hf : env.frame = some L) (hke : env.scope.kind = .function)
    (hd : dp + 105 < recursionLimit) (hu : un + 700 < cLine)
    (ret : ∀ D T3' T4' tq tr h' tk', TabSt 37 35 4 "_int2digits.<locals>.inner" T3' → TabSt 44 50 4 "_digits2int.<locals>.inner" T4' → (∀ q ∈ aa, ∀ r ∈ T3' ++ T4', q.1 ≠ r.1) → (∀ q ∈ aa, D ≠ q.1) → (∀ r ∈ T3' ++ T4', D ≠ r.1) → Fr h₀ L h' m →
      News h₀ L h' ((D, { cls := .type "tuple", data := .seq #[.int (a / b) tq, .int (a % b) tr] }) :: (aa ++ (T3' ++ T4'))) → Q (.ref D) { s with heap := h', toks := tk' }) :
    wpAny (model Challenge.rw_pe0259_03.row.prog w) (Ar dp un gd (env :: outer)) (call (.ref 63) [.int a ta, .int b tb]) Q E s := by
  refine use_g (int_divmod_c w a b ta tb T3 T4 S3 S4 hb ha hb2) (oth := aa) B F X N T hf hke (fun q hq => List.mem_append_right _ hq) (fun q hq => List.mem_append_left _ hq) off (by omega) (by omega) ?_
  rintro v blk h' tk' F' N' ne - ⟨D, T3', T4', tq, tr, rfl, S3', S4', rfl⟩
  refine ret D T3' T4' tq tr h' tk' S3' S4' (fun q hq r hr => (ne r (.tail _ hr) q hq).symm) (fun q hq => ne _ (.head _) q hq) (fun r hr e => ?_) F' (fun q hq => ?_)
  · have h1 := (N' (D, _) (.head _)).1
    have h2 := (N' r (List.mem_append_left _ (.tail _ hr))).1
    simp only at h1
    rw [e, h2] at h1
    have h3 := Option.some.inj h1
    have h4 : ∃ vs, r.2.data = .fields vs := by
      rcases List.mem_append.mp hr with hr | hr
      · exact tab_fields S3' r hr
      · exact tab_fields S4' r hr
    obtain ⟨vs, h4⟩ := h4
    rw [h3] at h4
    cases h4
  · rcases List.mem_cons.mp hq with rfl | hq
    · exact N' _ (.head _)
    · rcases List.mem_append.mp hq with hq | hq
      · exact N' q (List.mem_append_right _ hq)
      · exact N' q (List.mem_append_left _ (.tail _ hq))
end
/-- the statements of law from the k-th on, and its scope -/
noncomputable def lawRest (o : Option Obj) (k : Nat) : Option (List Stmt × Scope) := match o with
  | some ⟨_, _, .func fd, _⟩ => (match fd.body with
    | .stmts b => some (b.drop k, fd.scope)
    | _ => none)
  | _ => none
theorem law_out {K : Frag} {f : Addr} {o : Obj} {i : Nat} {x : Option (List Stmt × Scope)} {P : Prop} (hl : K.lookup f = some o) (h : lawRest (K.lookup f) i = x) (k : lawRest (some o) i = x → P) : P := k (hl ▸ h)
/-- what law hands back, and what stands at its end -/
noncomputable def LawEnd (h₀ : Heap) (L : Addr) (Q : Flow → Shared → Prop) (s : Shared) : Prop :=
  ∀ m' h' tk' p1 p2 p3, Fr h₀ L h' m' → News h₀ L h' [(173, tabObj p1), (44, tabObj p2), (37, tabObj p3)] → Q (.ret (.bool true)) { s with heap := h', toks := tk' }
noncomputable abbrev cellIs (o : Obj) (v : Option Value) : Prop := o.data = .cell v
theorem mach_ne {w : World} {a : LexA} {text : Str} {adr : List Addr} {RO : Nat → List (Addr × Obj) → Prop} {lin : Int} {wsp : Str} {ws : List Str} {p : Nat} {lin' wsp' : Value} {its : List Value} {k : Nat} {l : List (Addr × Obj)} {z : Addr} (M : MachSt w a RO lin wsp ws p (lexObjs w a lin' wsp' its k ++ l)) (Rd : Reader w a.rd text adr RO) (h : z ∉ a.adrs ++ adr) :
    a.x ≠ z ∧ a.dx ≠ z ∧ a.pb ≠ z ∧ a.st ≠ z ∧ a.std ≠ z ∧ ∀ q ∈ l, q.1 ≠ z :=
  ⟨of_adrs M Rd h (a.x, _) (.head _), of_adrs M Rd h (a.dx, _) (.tail _ (.head _)), of_adrs M Rd h (a.pb, _) (.tail _ (.tail _ (.head _))), of_adrs M Rd h (a.st, _) (.tail _ (.tail _ (.tail _ (.head _)))), of_adrs M Rd h (a.std, _) (.tail _ (.tail _ (.tail _ (.tail _ (.head _))))), fun q hq => of_adrs M Rd h q (List.mem_append_right _ hq)⟩
theorem small_n {n : Nat} (h : n ≤ 5000) : Builtin.Range.small 0 (n : Int) 1 = true := small_one (by omega) (by omega) (by omega) (by omega)
theorem size_n {n : Nat} (h : n ≤ 5000) : n ≤ sizeLine := by rw [sizeLine_eq]; omega
theorem kn37 {L : Addr} (h : 173 < L) : @LT.lt Nat _ 173 L := h
theorem Off1_mem {D : Addr} : ∀ {l : List (Addr × Obj)}, LCg.Off1 D l → ∀ p ∈ l, p.1 ≠ D
  | [], _, _, h => nomatch h
  | _ :: _, x, p, h => by
    rcases List.mem_cons.mp h with rfl | h
    · exact x.1
    · exact Off1_mem x.2 p h
theorem mem_skip {α : Type} {x : α} {c : List α} (a : List α) (h : x ∈ c) : x ∈ a ++ c := List.mem_append_right a h
theorem strOk_T {x : List Nat} (h : ∀ c ∈ x, c < 0x110000) : PyData.strOk (Tx x) = true := by
  unfold PyData.strOk Tx
  simp only [List.all_toArray, List.all_eq_true, decide_eq_true_eq]
  exact h
theorem News.mid {h₀ h : Heap} {L : Addr} {a b c : List (Addr × Obj)} (N : News h₀ L h (a ++ (b ++ c))) : News h₀ L h ((a ++ c) ++ b) := fun p hp => by
  rcases List.mem_append.mp hp with hp | hp
  · rcases List.mem_append.mp hp with hp | hp
    · exact N p (List.mem_append_left _ hp)
    · exact N p (List.mem_append_right _ (List.mem_append_right _ hp))
  · exact N p (List.mem_append_right _ (List.mem_append_left _ hp))
theorem News.unmid {h₀ h : Heap} {L : Addr} {a b c : List (Addr × Obj)} (N : News h₀ L h ((a ++ c) ++ b)) : News h₀ L h (a ++ (b ++ c)) := fun p hp => by
  rcases List.mem_append.mp hp with hp | hp
  · exact N p (List.mem_append_left _ (List.mem_append_left _ hp))
  · rcases List.mem_append.mp hp with hp | hp
    · exact N p (List.mem_append_right _ hp)
    · exact N p (List.mem_append_left _ (List.mem_append_right _ hp))
theorem mul_small {prog : Program} {w : World} {A : Around} {E : Value → Shared → Prop} {s : Shared} {t u : Tok} {Q : Value → Shared → Prop} {x y : Int} (hx : -100000 ≤ x ∧ x ≤ 100000) (h : Q (.int (x * y) s.toks) { s with toks := s.toks + 1 }) :
    wpAny (model prog w) A (binaryOp .Mult (.int x t) (.int y u)) Q E s := mul_int h (PySem.IntMulOk.of_left (PySem.intBits_le_64 (by omega) (by omega)))
theorem fst_forall {P : Addr → Prop} {l l' : List (Addr × Obj)} (e : l.map Prod.fst = l'.map Prod.fst) (h : ∀ q ∈ l, P q.1) : ∀ q ∈ l', P q.1 := fun q hq => by
  have h1 : q.1 ∈ l'.map Prod.fst := List.mem_map_of_mem hq
  rw [← e] at h1
  obtain ⟨r, hr, er⟩ := List.mem_map.mp h1
  rw [← er]; exact h r hr
theorem ws_of_parts {xs : List (List Nat)} (h : ∀ x ∈ xs, ∃ k, x = List.replicate k 32 ++ [9]) : ∀ c ∈ xs.flatten, c = 32 ∨ c = 9 := fun c hc => by
  obtain ⟨x, hx, hcx⟩ := List.mem_flatten.mp hc
  obtain ⟨k, rfl⟩ := h x hx
  rcases List.mem_append.mp hcx with h | h
  · exact .inl (List.mem_replicate.mp h).2
  · exact .inr (List.mem_singleton.mp h)
theorem tab_head {P : Addr} {line col : Nat} {q : Str} {tb : List (Addr × Obj)} (h : TabSt P line col q tb) : ∃ ps, (P, tabObj ps) ∈ tb := by
  rcases h with rfl | ⟨c, oc, vs, t, rfl, _⟩
  · exact ⟨_, .head _⟩
  · exact ⟨_, .head _⟩
section
variable {w : World} {dp un : Nat} {gd : Option (List Code)} {env : Env} {outer : List Env} {A₀ : Around} {base h₀ : Heap} {L : Addr} {m : Str → Option Value} {tp : Program} {tl : List Str} {mean : ExcName → Option Value} {mg mb : Str → Option Value} {s : Shared} {Q E : Value → Shared → Prop}
/-- a call that leaves what it looks at -/
theorem use_keep {D U : Nat} {f : Addr} {args : List Value} {sel news : List (Addr × Obj)} {Post : Nat → Value → List (Addr × Obj) → Prop} (C : Con w D U f args sel Post) (hk : ∀ n v b, Post n v b → b = sel)
    (B : Below A₀ base outer h₀) (F : Fr h₀ L s.heap m) (X : (hd.heap_1 w.params).In h₀) (N : News h₀ L s.heap news) (T : Top tp tl mean mg mb h₀) (hf : env.frame = some L) (hke : env.scope.kind = .function)
    (hsel : ∀ p ∈ sel, p ∈ news) (hd : dp + D < recursionLimit) (hu : un + U < cLine)
    (ret : ∀ v h' tk', Fr h₀ L h' m → News h₀ L h' news → Post s.heap.objs.size v sel → Q v { s with heap := h', toks := tk' }) :
    wpAny (model Challenge.rw_pe0259_03.row.prog w) (Ar dp un gd (env :: outer)) (call (.ref f) args) Q E s := by
  refine use_g C (oth := news.filter fun p => decide (p.1 ∉ sel.map Prod.fst)) B F X N T hf hke hsel (fun p hp => (List.mem_filter.mp hp).1) (fun p hp q hq e => ?_) hd hu ?_
  · exact of_decide_eq_true (List.mem_filter.mp hp).2 (e ▸ List.mem_map_of_mem hq)
  · intro v sel' h' tk' F' N' _ _ hP
    obtain rfl := hk _ _ _ hP
    refine ret v h' tk' F' (fun p hp => ?_) hP
    by_cases hm : p.1 ∈ sel'.map Prod.fst
    · obtain ⟨r, hr, e⟩ := List.mem_map.mp hm
      have e1 := (N p hp).1
      have e2 := (N r (hsel r hr)).1
      rw [e, e1] at e2
      have : p = r := Prod.ext e.symm (Option.some.inj e2)
      exact N' p (List.mem_append_left _ (this ▸ hr))
    · exact N' p (List.mem_append_right _ (List.mem_filter.mpr ⟨hp, decide_eq_true hm⟩))
end
theorem wsOf_blank (q : Nat) : wsOf (List.replicate q 32) = ⟨[], q, q, 0⟩ := by
  have : ∀ (q : Nat) (c : List Int) (b n nt : Nat), (List.replicate q 32).foldl wsStep ⟨c, b, n, nt⟩ = ⟨c, b + q, n + q, nt⟩ := by
    intro q
    induction q with
    | zero => intro c b n nt; rfl
    | succ q ih =>
      intro c b n nt
      rw [List.replicate_succ, List.foldl_cons]
      show (List.replicate q 32).foldl wsStep ⟨c, b + 1, n + 1, nt⟩ = _
      rw [ih, Nat.add_assoc, Nat.add_comm 1 q, Nat.add_assoc, Nat.add_comm 1 q]
  have h := this q [] 0 0 0
  rw [Nat.zero_add] at h
  exact h
theorem strs_drop {vs : List Value} {xs : List Str} (h : StrsAre vs xs) (k : Nat) : StrsAre (vs.drop k) (xs.drop k) := by
  induction h generalizing k with
  | nil => simp; exact .nil
  | cons a t h ih =>
    cases k with
    | zero => exact .cons a t h
    | succ k => exact ih k
theorem strs_take {vs : List Value} {xs : List Str} (h : StrsAre vs xs) (k : Nat) : StrsAre (vs.take k) (xs.take k) := by
  induction h generalizing k with
  | nil => simp; exact .nil
  | cons a t h ih =>
    cases k with
    | zero => exact .nil
    | succ k => exact .cons a t (ih k)
section
open PySem.StrLaws PySem.Builtin.Str
theorem occ_cnt (x : Str) (c : Nat) : ∀ (m a free : Nat) (found : Array Nat), free ≤ a → found.size ≤ a → a + m ≤ x.length + 1 →
    (forIn (List.range' a m) (found, free) (occBody x ⟨#[c]⟩ x.length (x.length + 1))).run.fst.size = found.size + ((x.cps.toList.drop a).take m).count c
  | 0, a, free, found, _, _, _ => by simp
  | m + 1, a, free, found, h1, h2, h3 => by
    rw [List.range'_succ, List.forIn_cons]
    unfold occBody
    by_cases hc : x.cps.toList[a]? = some c
    · obtain ⟨hlt, hx⟩ := List.getElem?_eq_some_iff.mp hc
      have hs := (subAt_one x c a).mpr hc
      rw [if_pos ⟨⟨⟨by show found.size < _; omega, h1⟩, hs.1⟩, hs.2⟩]
      have ih := occ_cnt x c m (a + 1) (a + 1) (found.push a) (Nat.le_refl _) (by rw [Array.size_push]; omega) (by omega)
      rw [List.drop_eq_getElem_cons hlt, List.take_succ_cons, hx, List.count_cons_self]
      have e : (found.push a).size = found.size + 1 := Array.size_push ..
      rw [e] at ih
      exact ih.trans (by omega)
    · have hs : ¬ ((((found, free).fst.size < x.length + 1 ∧ (found, free).snd ≤ a) ∧ a + (⟨#[c]⟩ : Str).length ≤ x.length) ∧ subAt x ⟨#[c]⟩ a = true) := fun h => hc ((subAt_one x c a).mp ⟨h.1.2, h.2⟩)
      rw [if_neg hs]
      have ih := occ_cnt x c m (a + 1) free found (by omega) (by omega) (by omega)
      have e : ((x.cps.toList.drop a).take (m + 1)).count c = ((x.cps.toList.drop (a + 1)).take m).count c := by
        rcases Nat.lt_or_ge a x.cps.toList.length with hlt | hge
        · rw [List.drop_eq_getElem_cons hlt, List.take_succ_cons, List.count_cons_of_ne]
          intro e
          exact hc (by rw [List.getElem?_eq_getElem hlt, e])
        · rw [List.drop_of_length_le hge, List.drop_of_length_le (by omega)]; simp
      rw [e]
      exact ih
theorem count_one (x : Str) (c : Nat) : Txt.count x ⟨#[c]⟩ = ((x.cps.toList.count c : Nat) : Int) := by
  unfold Txt.count
  rw [occ_eq, Array.length_toList, occ_cnt x c _ 0 0 #[] (Nat.le_refl _) (Nat.zero_le _) (by omega)]
  have : (x.cps.toList.take (x.length + 1)) = x.cps.toList := List.take_of_length_le (by rw [← len_cps]; omega)
  simp [this]
theorem nl_all {x : Str} {p : Nat} {pre : List Nat} (hpre : preL pre) (h : codes x p = pre ++ [101, 110, 100]) : nlTo x p = ((x.cps.toList.count 10 : Nat) : Int) := by
  unfold nlTo
  have e : x.cps.toList.count 10 = (x.cps.toList.take p).count 10 + (codes x p).count 10 := by
    rw [← List.count_append, List.take_append_drop]
  have e2 : (codes x p).count 10 = 0 := by
    rw [h]
    rcases hpre with rfl | rfl <;> decide
  rw [e, e2]; rfl
end
open LCg
section
variable {prog : Program} {w : World} {A : Around} {s : Shared} {h₀ : Heap} {L : Addr} {m : Str → Option Value} {env : Env} {elt ct : Expr} {x : Str} {scope : Scope} {cl : List (Str × Addr)} {S : List (Addr × Obj) → Prop} {P : Nat → Value → Prop} {Fin : List Value → List (Addr × Obj) → Prop}
/-- a comprehension by what holds between its turns -/
theorem rest_of (n : Nat) (J : Nat → List Value → List (Addr × Obj) → Prop)
    (turn : ∀ i ys news v I oI C oC D m₂ h tk (E' : Value → Shared → Prop), i < n → J i ys news → P i v → NsObj oC m₂ → m₂ x = some v → Fr h₀ L h m → News h₀ L h ((I, oI) :: (C, oC) :: (D, lst ys) :: news) → Off3 I C D news → ((@Ne Nat I C) ∧ (@Ne Nat I D) ∧ (@Ne Nat C D)) →
      wpAny (model prog w) A (eval elt (compEnvC scope cl C env)) (CompEnd h₀ L m { s with heap := h, toks := tk } I oI C oC D (lst ys) S (fun y news' => J (i + 1) (ys ++ [y]) news')) E' { s with heap := h, toks := tk })
    (done : ∀ ys news, J n ys news → Fin ys news) : ∀ k i ys news, i + k = n → J i ys news → CompRest prog w A h₀ L m env elt x scope cl s S P Fin k i ys news := by
  intro k
  induction k with
  | zero => intro i ys news hi hJ; have : i = n := by omega
            subst this; exact CompRest.zero (done _ _ hJ)
  | succ k ih =>
    intro i ys news hi hJ
    refine CompRest.succ fun v I oI C oC D m₂ h tk E' hP hns hx F N o3 ne => ?_
    refine wpAny_mono (turn i ys news v I oI C oC D m₂ h tk E' (by omega) hJ hP hns hx F N o3 ne) (fun y s₂ z => ?_) fun _ _ e => e
    obtain ⟨h', tk', news', e1, e2, e3, e4, e5, e6⟩ := z
    exact ⟨h', tk', news', e1, e2, e3, e4, e5, ih (i + 1) _ _ (by omega) e6⟩
end
noncomputable def leadL (ws : List Nat) : List (List Nat) := ws.map fun q => List.replicate q 32 ++ [9]
noncomputable def stairL (o n : Nat) : List (List Nat) := (List.range n).map fun k => List.replicate (o * k) 32 ++ [9]
noncomputable def lvlOf (S : WsSt) (ts : Int) : Int := S.b + ts * (ilTo S.count ts (S.count.length - ts.toNat) + S.nt)
/-- the lead is told -/
noncomputable def told (ws : List Nat) (o lack : Nat) : Bool :=
  let S := wsOf (leadL ws).flatten
  let S' := wsOf (stairL o ws.length).flatten
  decide (S.count.length < 10000) && decide (S'.count.length < 10000) && decide ((leadL ws).flatten.length < 2000) && decide ((stairL o ws.length).flatten.length < 2000) && decide (S.count = S'.count ∧ (S.b : Int) = S'.b) && decide ((lvlOf S ws.length).natAbs < 2 ^ 59) &&
    decide (lvlOf S ws.length / (ws.length : Int) = (S.nt : Int) + lack ∧ lvlOf S ws.length % (ws.length : Int) = 0)
theorem lead_ws3 (ws : List Nat) : ∀ c ∈ (leadL ws).flatten, c = 32 ∨ c = 9 := ws_of_parts fun x hx => by
  obtain ⟨j, _, rfl⟩ := List.mem_map.mp hx
  exact ⟨_, rfl⟩
theorem stair_ws3 (o n : Nat) : ∀ c ∈ (stairL o n).flatten, c = 32 ∨ c = 9 := ws_of_parts fun x hx => by
  obtain ⟨j, _, rfl⟩ := List.mem_map.mp hx
  exact ⟨_, rfl⟩
theorem pair_eqv (a b c d : Int) : PyData.eqv (.tuple [.int a, .int b]) (.tuple [.int c, .int d]) = decide (a = c ∧ b = d) := by
  simp only [PyData.eqv, PyData.eqvAll]
  by_cases h : a = c <;> by_cases h' : b = d <;> simp [h, h']
theorem pair_shaped (a b : Int) : SeqAt.shaped (.tuple [.int a, .int b]) = true := by
  simp [SeqAt.shaped, PyData.canLay0, PyData.canLayAll0, PyData.depth, PyData.depthAll]
theorem eq_pairs {prog : Program} {w : World} {A : Around} {E : Value → Shared → Prop} {s : Shared} {Q : Value → Shared → Prop} {x y : Addr} {o1 o2 : Obj} {n1 n2 : Nat} {a b c d : Int} {t1 t2 t3 t4 : Tok}
    (e1 : s.heap.get? x = some o1) (c1 : o1.cls = .type "tuple") (d1 : o1.data = .seq #[.int a t1, .int b t2] n1) (e2 : s.heap.get? y = some o2) (c2 : o2.cls = .type "tuple") (d2 : o2.data = .seq #[.int c t3, .int d t4] n2) (hu : A.units + 64 < cLine)
    (h : Q (.bool (decide (a = c ∧ b = d))) s) : wpAny (model prog w) A (compareOp .Eq (.ref x) (.ref y)) Q E s :=
  eq_dataH (reads_tuple_at e1 c1 d1 (.cons (.int _ _) (.cons (.int _ _) .nil))) (reads_tuple_at e2 c2 d2 (.cons (.int _ _) (.cons (.int _ _) .nil))) (pair_shaped _ _) (pair_shaped _ _) hu (by rw [pair_eqv]; exact h)
theorem blank_mul (o i : Nat) : Txt.mul (blank o) (i : Int) = blank (o * i) := by
  rw [Tx_mul, List.flatten_replicate_replicate, Nat.mul_comm]
/-- the locals of _law_lead_is_told -/
noncomputable def ldm (P : Addr) (lack : Nat) (t2 : Tok) (size lead stairs : Option Value) : Str → Option Value :=
  fun y => if y = "shortest" then some (.ref P) else if y = "lacking" then some (.int lack t2) else if y = "size" then size else if y = "lead" then lead else if y = "stairs" then stairs else none
theorem lead_c (w : World) (P : Addr) (its : List Value) (k : Nat) (ws : List Nat) (o lack : Nat) (t1 t2 : Tok) (T3 T4 : List (Addr × Obj)) (S3 : TabSt 37 35 4 "_int2digits.<locals>.inner" T3) (S4 : TabSt 44 50 4 "_digits2int.<locals>.inner" T4)
    (hP : ∀ r ∈ T3 ++ T4, P ≠ r.1) (hi : StrsAre its (ws.map blank)) (hs : 0 < ws.length ∧ ws.length < 20) (ho : o < 20) (hk : lack < 1000) (hw : ∀ q ∈ ws, q < 220) (hT : told ws o lack = true) :
    Con w 120 900 214 [.ref P, .str (blank o) t1, .int lack t2] ((P, listOf its.toArray k) :: (T3 ++ T4)) (fun _ v blk => ∃ T3' T4', v = .bool true ∧ TabSt 37 35 4 "_int2digits.<locals>.inner" T3' ∧ TabSt 44 50 4 "_digits2int.<locals>.inner" T4' ∧
      (∀ r ∈ T3' ++ T4', P ≠ r.1) ∧ blk = (P, listOf its.toArray k) :: (T3' ++ T4')) := by
  unfold told at hT
  simp only [Bool.and_eq_true, decide_eq_true_eq] at hT
  obtain ⟨⟨⟨⟨⟨⟨hT1, hT2⟩, hT3⟩, hT4⟩, hT5⟩, hT6⟩, hT7⟩ := hT
  have hil : its.length = ws.length := by rw [hi.length, List.length_map]
  obtain ⟨n, hn⟩ : ∃ n, ws.length = n := ⟨_, rfl⟩
  rw [hn] at hs hT2 hT4 hT5 hT6 hT7 hil
  have hits : (List.toArray its).size = n := by rw [List.size_toArray]; exact hil
  unfold Con
  k_fill
  intro dp un gd outer base g tp tl mean mg mb s R B hg hsz hsel X T hd hu ret
  refine' enter_gc hg hsz hsel X T ?k6 ?k7 ?k8 ?k9 ?kB ?kD ?_ ?c2 ?c3 ?c4
  (case k6 => k_is); (case k7 => k_is); (case k8 => ktr_room); (case k9 => exact BindsTo.of_eq rfl); (case kB => exact rfl); (case kD => decide +kernel); (case c2 => exact rfl); (case c3 => exact rfl); (case c4 => exact rfl)
  k_whole
  intro L' h' tk' cells' F' N' Y' l1
  (try k_lt l1); k_cells Y'; (try simp only [List.cons_append, List.nil_append] at N')
  rename (Obj.data _ = Data.cell _) => d1
  rename_i oO
  have hdO : oO.data = .cell (some (.str (blank o) t1)) := d1
  clear d1
  have F0 : Fr g L' h' (ldm P lack t2 none none none) := Fr.congr F' (fun y => by
    unfold ldm
    show (if y = "lacking" then (some (Value.int lack t2) : Option Value) else if y = "shortest" then some (Value.ref P) else none) = _
    by_cases h0 : y = "shortest"
    · subst h0; rfl
    · by_cases h1 : y = "lacking"
      · subst h1; rfl
      · simp only [if_neg h0, if_neg h1, ite_self])
  clear F'
  unfold ldm at F0
  (try dsimp only); (try k_fold)
  ((repeat' ((fail_if_success (with_reducible show wpAny _ _ (eval (Expr.ListComp _ _ _ _) _) _ _ _)); (first | (k_unfold; (try dsimp only)) | ((with_reducible first | show wpAny _ _ (exec _ _) _ _ _ | show wpAny _ _ (execs _ _) _ _ _); k_fold) | (k_end; wrow_close) | walk1 | (dsimp only; walk1) | (leave1; (try dsimp only))))) <;> (repeat (k_unfold; (try dsimp only))))
  rename Fr _ _ _ _ => F1
  rename News _ _ _ _ => N1
  refine LCg.ListComp_U (F₀ := F1) (by with_unfolding_all rfl) (by decide) (by rfl) (by decide) (by rfl) ?_
  ((repeat' ((fail_if_success (with_reducible show LCg.CompSrc _ _ _ _ _ _ _ _ _ _ _ _ _ _)); (first | (k_unfold; (try dsimp only)) | ((with_reducible first | show wpAny _ _ (exec _ _) _ _ _ | show wpAny _ _ (execs _ _) _ _ _); k_fold) | (k_end; wrow_close) | walk1 | (dsimp only; walk1) | (leave1; (try dsimp only))))) <;> (repeat (k_unfold; (try dsimp only))))
  rename Fr _ _ _ _ => F2
  rename News _ _ _ _ => N2
  refine LCg.CompSrc.ledger (k := k) (its := its.toArray) rfl F2 N2 (by k_mem) (by rw [List.size_toArray, hil]; exact size_n (Nat.le_trans (Nat.le_of_lt hs.2) (by decide))) (fun g' => ?_)
  obtain ⟨NW, hNW⟩ : ∃ NW, NW = (L' + 1, oO) :: (P, listOf its.toArray k) :: (T3 ++ T4) := ⟨_, rfl⟩
  refine rest_of its.toArray.size (fun i ys news => StrsAre ys ((leadL (ws.take i)).map Tx) ∧ news = NW) ?_ ?_ _ 0 [] _ (Nat.zero_add _) ⟨.nil, hNW.symm⟩
  · rintro i ys news v I oI C oC D m₂ h8 tk8 E' hi2 ⟨hys, rfl⟩ hv hns hx F11 N11 o3' ne
    obtain ⟨tz, z, hzx, rfl⟩ := strs_get hi (by simpa using hv)
    rw [List.getElem?_map] at hzx
    obtain ⟨q, hq, rfl⟩ := Option.map_eq_some_iff.mp hzx
    have hqb := hw q (List.mem_of_getElem? hq)
    subst hNW
    clear F2 N2
    try clear F1 N1
    (try dsimp only); (try k_fold)
    ((repeat' ((fail_if_success (with_reducible show LCg.CompEnd _ _ _ _ _ _ _ _ _ _ _ _ _ _)); (first | ((with_reducible show wpAny _ _ (binaryOp Operator.Add (Value.str _ _) (Value.str _ _)) _ _ _); refine add_Tx lit_t (by rw [List.length_replicate]; simp only [List.length_cons, List.length_nil]; omega) ?_; intro _ _) | (k_unfold; (try dsimp only)) | ((with_reducible first | show wpAny _ _ (exec _ _) _ _ _ | show wpAny _ _ (execs _ _) _ _ _); k_fold) | (k_end; wrow_close) | walk1 | (dsimp only; walk1) | (leave1; (try dsimp only))))) <;> (repeat (k_unfold; (try dsimp only))))
    rename Fr _ _ _ _ => F14
    rename News _ _ _ _ => N14
    refine LCg.CompEnd.intro F14 N14 _ (fun q hq => hq) o3' (.inr ⟨_, .tail _ (.head _), rfl, _, rfl⟩) ⟨?_, rfl⟩
    rw [List.take_add_one, hq]
    show StrsAre _ (List.map Tx (leadL (_ ++ [q])))
    unfold leadL
    rw [List.map_append, List.map_append]
    exact kct_snoc hys
  · rintro ys news ⟨hys, rfl⟩ Dc h8 tk8 F11 N11 oD
    subst hNW
    rw [hits, ← hn, List.take_length] at hys
    clear F2 N2
    try clear F1 N1
    (try dsimp only); (try k_fold)
    ((repeat' ((fail_if_success (with_reducible show wpAny _ _ (call (Value.builtin "str.join") _) _ _ _)); (first | (k_unfold; (try dsimp only)) | ((with_reducible first | show wpAny _ _ (exec _ _) _ _ _ | show wpAny _ _ (execs _ _) _ _ _); k_fold) | (k_end; wrow_close) | walk1 | (dsimp only; walk1) | (leave1; (try dsimp only))))) <;> (repeat (k_unfold; (try dsimp only))))
    rename Fr _ _ _ _ => F12
    rename News _ _ _ _ => N12
    refine join_T (xs := leadL ws) (News.isList N12 (.head _)) hys rfl (by unfold leadL at hT3 ⊢; rw [List.length_map]; omega) ?_
    intro t12 tk12
    (try dsimp only)
    ((repeat' ((fail_if_success (with_reducible show wpAny _ _ (call (Value.ref 167) _) _ _ _)); (first | (k_unfold; (try dsimp only)) | ((with_reducible first | show wpAny _ _ (exec _ _) _ _ _ | show wpAny _ _ (execs _ _) _ _ _); k_fold) | (k_end; wrow_close) | walk1 | (dsimp only; walk1) | (leave1; (try dsimp only))))) <;> (repeat (k_unfold; (try dsimp only))))
    rename Fr _ _ _ _ => F13
    rename News _ _ _ _ => N13
    refine use_g (ws_new w (Tx (leadL ws).flatten) _ (by rw [Tx_len]; omega) (by rw [Tx_cps]; exact lead_ws3 ws)) (oth := (L' + 1, oO) :: (P, listOf its.toArray k) :: (T3 ++ T4)) B F13 X N13 T rfl rfl (fun p hp => nomatch hp) (fun p hp => .tail _ hp) (fun p hp q hq => nomatch hq) (by k_room) (by k_units) ?_
    rintro v14 bL h14 tk14 F14 N14 ne14 - ⟨xL, rfl, WL⟩
    rw [Tx_cps] at WL
    clear F13 N13
    try clear F12 N12 F11 N11
    replace N14 : News g L' h14 ((L' + 1, oO) :: (P, listOf its.toArray k) :: (bL ++ (T3 ++ T4))) := fun q hq => by
      rcases List.mem_cons.mp hq with rfl | hq
      · exact N14 _ (List.mem_append_right _ (.head _))
      · rcases List.mem_cons.mp hq with rfl | hq
        · exact N14 _ (List.mem_append_right _ (.tail _ (.head _)))
        · rcases List.mem_append.mp hq with hq | hq
          · exact N14 _ (List.mem_append_left _ hq)
          · exact N14 _ (List.mem_append_right _ (.tail _ (.tail _ hq)))
    (try dsimp only)
    ((repeat' ((fail_if_success (with_reducible show wpAny _ _ (eval (Expr.ListComp _ _ _ _) _) _ _ _)); (first | (k_unfold; (try dsimp only)) | ((with_reducible first | show wpAny _ _ (exec _ _) _ _ _ | show wpAny _ _ (execs _ _) _ _ _); k_fold) | (k_end; wrow_close) | walk1 | (dsimp only; walk1) | (leave1; (try dsimp only))))) <;> (repeat (k_unfold; (try dsimp only))))
    rename Fr _ _ _ _ => F15
    rename News _ _ _ _ => N15
    refine LCg.ListComp_U (F₀ := F15) (by with_unfolding_all rfl) (by decide) (by rfl) (by decide) (by rfl) ?_
    ((repeat' ((fail_if_success (with_reducible show LCg.CompSrc _ _ _ _ _ _ _ _ _ _ _ _ _ _)); (first | (k_unfold; (try dsimp only)) | ((with_reducible first | show wpAny _ _ (exec _ _) _ _ _ | show wpAny _ _ (execs _ _) _ _ _); k_fold) | (k_end; wrow_close) | walk1 | (dsimp only; walk1) | (leave1; (try dsimp only))))) <;> (repeat (k_unfold; (try dsimp only))))
    rename IsRange _ _ _ _ _ _ _ _ => R16
    rename Fr _ _ _ _ => F16
    rename News _ _ _ _ => N16
    refine LCg.CompSrc.range (n := n) rfl F16 N16 R16 (small_n (Nat.le_trans (Nat.le_of_lt hs.2) (by decide))) (by rw [rangeSize_nat, Int.sub_zero, Int.toNat_natCast]) (size_n (Nat.le_trans (Nat.le_of_lt hs.2) (by decide))) (fun g'' => ?_)
    obtain ⟨NV, hNV⟩ : ∃ NV, NV = (L' + 1, oO) :: (P, listOf its.toArray k) :: (bL ++ (T3 ++ T4)) := ⟨_, rfl⟩
    refine rest_of n (fun i ys news => StrsAre ys ((stairL o i).map Tx) ∧ news = NV) ?_ ?_ _ 0 [] _ (Nat.zero_add _) ⟨.nil, hNV.symm⟩
    · rintro i ys news v I oI C oC D m₂ h18 tk18 E' hi2 ⟨hys, rfl⟩ ⟨tv, rfl⟩ hns hx F21 N21 o3' ne
      rw [Int.zero_add] at hx
      subst hNV
      clear F16 N16
      try clear F15 N15
      try clear N14 F14
      have hlo : (blank o).length < 20 := (blank_len o).symm ▸ ho
      (try dsimp only); (try k_fold)
      ((repeat' ((fail_if_success (with_reducible show wpAny _ _ (binaryOp Operator.Add (Value.str _ _) (Value.str _ _)) _ _ _)); (first | (k_unfold; (try dsimp only)) | ((with_reducible first | show wpAny _ _ (exec _ _) _ _ _ | show wpAny _ _ (execs _ _) _ _ _); k_fold) | (k_end; wrow_close) | walk1 | (dsimp only; walk1) | (leave1; (try dsimp only))))) <;> (repeat (k_unfold; (try dsimp only))))
      rw [blank_mul]
      have hoi : o * i ≤ 19 * 19 := Nat.mul_le_mul (by omega) (by omega)
      ((repeat' ((fail_if_success (with_reducible show LCg.CompEnd _ _ _ _ _ _ _ _ _ _ _ _ _ _)); (first | ((with_reducible show wpAny _ _ (binaryOp Operator.Add (Value.str _ _) (Value.str _ _)) _ _ _); refine add_Tx lit_t (by rw [List.length_replicate]; simp only [List.length_cons, List.length_nil]; omega) ?_; intro _ _) | (k_unfold; (try dsimp only)) | ((with_reducible first | show wpAny _ _ (exec _ _) _ _ _ | show wpAny _ _ (execs _ _) _ _ _); k_fold) | (k_end; wrow_close) | walk1 | (dsimp only; walk1) | (leave1; (try dsimp only))))) <;> (repeat (k_unfold; (try dsimp only))))
      rename Fr _ _ _ _ => F22
      rename News _ _ _ _ => N22
      refine LCg.CompEnd.intro F22 N22 _ (fun q hq => hq) o3' trivial ⟨?_, rfl⟩
      unfold stairL
      rw [List.range_succ, List.map_append, List.map_append]
      exact kct_snoc hys
    · rintro ys news ⟨hys, rfl⟩ Dc2 h18 tk18 F21 N21 oD2
      subst hNV
      clear F16 N16
      try clear F15 N15
      try clear N14 F14
      (try dsimp only); (try k_fold)
      ((repeat' ((fail_if_success (with_reducible show wpAny _ _ (call (Value.builtin "str.join") _) _ _ _)); (first | (k_unfold; (try dsimp only)) | ((with_reducible first | show wpAny _ _ (exec _ _) _ _ _ | show wpAny _ _ (execs _ _) _ _ _); k_fold) | (k_end; wrow_close) | walk1 | (dsimp only; walk1) | (leave1; (try dsimp only))))) <;> (repeat (k_unfold; (try dsimp only))))
      rename Fr _ _ _ _ => F22
      rename News _ _ _ _ => N22
      refine join_T (xs := stairL o n) (News.isList N22 (.head _)) hys rfl (by unfold stairL at hT4 ⊢; rw [List.length_map, List.length_range]; omega) ?_
      intro t22 tk22
      (try dsimp only)
      ((repeat' ((fail_if_success (with_reducible show wpAny _ _ (call (Value.ref 167) _) _ _ _)); (first | (k_unfold; (try dsimp only)) | ((with_reducible first | show wpAny _ _ (exec _ _) _ _ _ | show wpAny _ _ (execs _ _) _ _ _); k_fold) | (k_end; wrow_close) | walk1 | (dsimp only; walk1) | (leave1; (try dsimp only))))) <;> (repeat (k_unfold; (try dsimp only))))
      rename Fr _ _ _ _ => F23
      rename News _ _ _ _ => N23
      refine use_g (ws_new w (Tx (stairL o n).flatten) _ (by rw [Tx_len]; omega) (by rw [Tx_cps]; exact stair_ws3 o n)) (oth := (L' + 1, oO) :: (P, listOf its.toArray k) :: (bL ++ (T3 ++ T4))) B F23 X N23 T rfl rfl (fun p hp => nomatch hp) (fun p hp => .tail _ hp) (fun p hp q hq => nomatch hq) (by k_room) (by k_units) ?_
      rintro v24 bS h24 tk24 F24 N24 ne24 - ⟨xS, rfl, WS⟩
      rw [Tx_cps] at WS
      clear F23 N23
      try clear F22 N22 F21 N21
      have hbX : ∃ nw, nw = ((L' + 1, oO) :: (P, listOf its.toArray k) :: (bL ++ (bS ++ (T3 ++ T4)))) ∧ News g L' h24 nw := ⟨_, rfl, fun q hq => by
        rcases List.mem_cons.mp hq with rfl | hq
        · exact N24 _ (List.mem_append_right _ (.head _))
        · rcases List.mem_cons.mp hq with rfl | hq
          · exact N24 _ (List.mem_append_right _ (.tail _ (.head _)))
          · rcases List.mem_append.mp hq with hq | hq
            · exact N24 _ (List.mem_append_right _ (.tail _ (.tail _ (List.mem_append_left _ hq))))
            · rcases List.mem_append.mp hq with hq | hq
              · exact N24 _ (List.mem_append_left _ hq)
              · exact N24 _ (List.mem_append_right _ (.tail _ (.tail _ (List.mem_append_right _ hq))))⟩
      obtain ⟨nw, hnw, N25⟩ := hbX
      clear N24
      rw [hnw] at N25
      obtain ⟨dL, nL, cL, rL, trL, tn0L, tnL, tt0L, tntL, toL, tiL, tbL, vsL, hvsL, hbL⟩ := id WL
      obtain ⟨dS, nS, cS, rS, trS, tn0S, tnS, tt0S, tntS, toS, tiS, tbS, vsS, hvsS, hbS⟩ := id WS
      rw [hbL, hbS] at N25
      simp only [List.cons_append, List.nil_append] at N25
      (try dsimp only)
      ((repeat' ((fail_if_success (with_reducible show wpAny _ _ (call (Value.ref 143) _) _ _ _)); (first | (k_unfold; (try dsimp only)) | ((with_reducible first | show wpAny _ _ (exec _ _) _ _ _ | show wpAny _ _ (execs _ _) _ _ _); k_fold) | (k_end; wrow_close) | walk1 | (dsimp only; walk1) | (leave1; (try dsimp only))))) <;> (repeat (k_unfold; (try dsimp only))))
      rename Fr _ _ _ _ => F26
      rename News _ _ _ _ => N26
      have hsel : ∀ p ∈ bL ++ bS, p ∈ nw := fun p hp => by
        rw [hnw]
        refine .tail _ (.tail _ ?_)
        rcases List.mem_append.mp hp with hp | hp
        · exact List.mem_append_left _ hp
        · exact List.mem_append_right _ (List.mem_append_left _ hp)
      refine use_keep (equal_c w xL xS _ _ bL bS WL WS hT1 hT2) (fun _ _ _ h => h.2) (news := nw) B F26 X (by rw [hnw, hbL, hbS]; exact N26) T rfl rfl hsel (by k_room) (by k_units) ?_
      rintro v27 h27 tk27 F27 N27 ⟨rfl, -⟩
      rw [decide_eq_true hT5]
      rw [hnw, hbL, hbS] at N27
      simp only [List.cons_append, List.nil_append] at N27
      clear F26 N26
      try clear N25
      (try dsimp only)
      ((repeat' ((fail_if_success (with_reducible show wpAny _ _ (call (Value.ref 136) _) _ _ _)); (first | (k_unfold; (try dsimp only)) | ((with_reducible first | show wpAny _ _ (exec _ _) _ _ _ | show wpAny _ _ (execs _ _) _ _ _); k_fold) | (k_end; wrow_close) | walk1 | (dsimp only; walk1) | (leave1; (try dsimp only))))) <;> (repeat (k_unfold; (try dsimp only))))
      rename Fr _ _ _ _ => F28
      rename News _ _ _ _ => N28
      have CL : ∀ t, Con w 10 100 136 [.ref xL, .int (n : Int) t] bL (fun _ v b => (∃ t, v = .int (lvlOf (wsOf (leadL ws).flatten) n) t) ∧ b = bL) := fun t => indent_c w xL _ bL WL _ t (by omega) (by omega) hT1
      refine use_keep (CL _) (fun _ _ _ h => h.2) (news := nw) B F28 X (by rw [hnw, hbL, hbS]; exact N28) T rfl rfl (fun p hp => hsel p (List.mem_append_left _ hp)) (by k_room) (by k_units) ?_
      rintro v29 h29 tk29 F29 N29 ⟨⟨t29, rfl⟩, -⟩
      clear F28 N28
      try clear F27 N27
      (try dsimp only)
      rw [hnw, hbL, hbS] at N29
      simp only [List.cons_append, List.nil_append] at N29
      ((repeat' ((fail_if_success (with_reducible show wpAny _ _ (call (Value.ref 63) _) _ _ _)); (first | (k_unfold; (try dsimp only)) | ((with_reducible first | show wpAny _ _ (exec _ _) _ _ _ | show wpAny _ _ (execs _ _) _ _ _); k_fold) | (k_end; wrow_close) | walk1 | (dsimp only; walk1) | (leave1; (try dsimp only))))) <;> (repeat (k_unfold; (try dsimp only))))
      rename Fr _ _ _ _ => F30
      rename News _ _ _ _ => N30
      refine dm_use (aa := (L' + 1, oO) :: (P, listOf its.toArray k) :: (bL ++ bS)) (T3 := T3) (T4 := T4) S3 S4 ?_ (by omega) hT6 (by omega) B F30 X ?_ T rfl rfl (by k_room) (by k_units) ?_
      · refine List.forall_mem_cons.mpr ⟨fun r hr => Nat.ne_of_gt (Nat.lt_succ_of_lt (allLt_mem l1.2 r hr)), List.forall_mem_cons.mpr ⟨hP, fun q hq r hr => ?_⟩⟩
        rcases List.mem_append.mp hq with hq | hq
        · exact ne14 q hq r (.tail _ (.tail _ hr))
        · exact ne24 q hq r (.tail _ (.tail _ (List.mem_append_right _ hr)))
      · rw [hbL, hbS]
        simp only [List.cons_append, List.nil_append]
        exact N30
      intro D31 T3' T4' tq31 tr31 h31 tk31 S3' S4' off31 offD31 offD31' F31 N31
      rw [hT7.1, hT7.2, hbL, hbS] at N31
      simp only [List.cons_append, List.nil_append] at N31
      clear F30 N30
      try clear F29 N29
      (try dsimp only)
      ((repeat' ((fail_if_success (with_reducible show wpAny _ _ (compareOp _ _ _) _ _ _)); (first | (k_unfold; (try dsimp only)) | ((with_reducible first | show wpAny _ _ (exec _ _) _ _ _ | show wpAny _ _ (execs _ _) _ _ _); k_fold) | (k_end; wrow_close) | walk1 | (dsimp only; walk1) | (leave1; (try dsimp only))))) <;> (repeat (k_unfold; (try dsimp only))))
      rename Fr _ _ _ _ => F32
      rename News _ _ _ _ => N32
      refine eq_pairs (News.get N32 (by k_mem)) rfl rfl (News.get N32 (by k_mem)) rfl rfl (by k_units) ?_
      rw [decide_eq_true ⟨rfl, rfl⟩]
      (try dsimp only)
      ((repeat' (first | (k_unfold; (try dsimp only)) | ((with_reducible first | show wpAny _ _ (exec _ _) _ _ _ | show wpAny _ _ (execs _ _) _ _ _); k_fold) | (k_end; wrow_close) | walk1 | (dsimp only; walk1) | (leave1; (try dsimp only)))) <;> (repeat (k_unfold; (try dsimp only))))
      (try dsimp only)
      rename Fr _ _ _ _ => F33
      rename News _ _ _ _ => N33
      refine ret _ ((P, listOf its.toArray k) :: (T3' ++ T4')) _ _ F33.keep ?_ ⟨T3', T4', rfl, S3', S4', fun r hr => off31 (P, listOf its.toArray k) (.tail _ (.head _)) r hr, rfl⟩
      intro r hr
      have hr2 : r = (P, listOf its.toArray k) ∨ r ∈ T3' ++ T4' := List.mem_cons.mp hr
      have z := N33 r (by
        rcases hr2 with rfl | hr2
        · exact .tail _ (.tail _ (.tail _ (.head _)))
        · iterate 12 apply List.Mem.tail
          exact hr2)
      exact ⟨z.1, z.2.2⟩
open LCg
section
variable {prog : Program} {w : World} {A : Around} {E : Value → Shared → Prop} {s : Shared} {h₀ : Heap} {L : Addr} {m : Str → Option Value} {env : Env}
theorem newEnv_cell {M : Model} {scope : Scope} {globals : Addr} {cl : List (Str × Addr)} {x qual : Str} {Q : Env → Shared → Prop}
    (hcf : ∀ n, cellsFrom n scope.names cl = (x, n) :: cl) (hpc : ∀ h : Heap, pushCells h scope.names = h.push { cls := .type "cell", data := .cell none })
    (hQ : Q { scope := scope, locals := s.heap.objs.size, globals := globals, cells := (x, s.heap.objs.size + 1) :: cl, qual := qual, func := none, code := env.code, frame := env.frame, builtins := env.builtins }
      { s with heap := (s.heap.push { cls := .type "dict", data := .dict #[] }).push { cls := .type "cell", data := .cell none } }) :
    wpAny M A (newFunctionEnv scope globals cl [] qual none .none (some env)) Q E s := by
  simp only [newFunctionEnv, Option.isSome_some, if_true]
  refine wpAny_bind (wpAny_alloc ?_)
  refine wpAny_bind (wpAny_layCells _ (fun name kind cells => by cases hkc : kind == NameKind.cell <;> simp [hkc]) _ _ _ _ ?_)
  rw [hcf, hpc]
  dsimp only
  rw [Heap.size_push]
  simp only [List.forIn_nil]
  exact wpAny_bind (wpAny_pure (wpAny_pure hQ))
/-- a list comprehension over a range whose variable stands in a cell -/
theorem ListComp_cell {elt iter : Expr} {x : Str} {px : Pos} {scope : Scope} {cl : List (Str × Addr)} {pos : Pos} {n : Nat} {NW : List (Addr × Obj)} {J : Nat → List Value → Prop} {Q : Value → Shared → Prop}
    (hclos : closureFor scope env = pure cl) (hkind : scope.kind = .function) (hnames : ∀ y ∈ scope.names, y.2 = .local → scope.names.lookup y.1 = some .local)
    (hcf : ∀ n, cellsFrom n scope.names cl = (x, n) :: cl) (hpc : ∀ h : Heap, pushCells h scope.names = h.push { cls := .type "cell", data := .cell none })
    (hxk : ∀ C K, (compEnvC scope ((x, K) :: cl) C env).kindOf x = some .cell)
    (hsz : n ≤ sizeLine) (h0 : J 0 [])
    (h : wpAny (model prog w) A (eval iter env) (fun xv s₁ => ∃ r b t u v', xv = .ref r ∧ A.handled = none ∧ Fr h₀ L s₁.heap m ∧ News h₀ L s₁.heap NW ∧ IsRange s₁.heap r 0 b 1 t u v' ∧ Builtin.Range.small 0 b 1 = true ∧ Builtin.Range.rangeSize 0 b 1 = ((n : Nat) : Int) ∧
      (∀ i ys t I oI C oC K oK D hp tk (E' : Value → Shared → Prop), i < n → J i ys → oK.data = .cell (some (.int (i : Int) t)) → Fr h₀ L hp m → News h₀ L hp ((I, oI) :: (C, oC) :: (K, oK) :: (D, lst ys) :: NW) → (∀ q ∈ NW, q.1 ≠ I ∧ q.1 ≠ C ∧ q.1 ≠ K ∧ q.1 ≠ D) →
        ((@Ne Nat I C) ∧ (@Ne Nat I K) ∧ (@Ne Nat I D) ∧ (@Ne Nat C K) ∧ (@Ne Nat C D) ∧ (@Ne Nat K D)) →
        wpAny (model prog w) A (eval elt (compEnvC scope ((x, K) :: cl) C env)) (fun y s' => ∃ h' tk', s' = { s₁ with heap := h', toks := tk' } ∧ Fr h₀ L h' m ∧ News h₀ L h' ((I, oI) :: (C, oC) :: (K, oK) :: (D, lst ys) :: NW) ∧ J (i + 1) (ys ++ [y])) E' { s₁ with heap := hp, toks := tk }) ∧
      (∀ ys D hp tk, J n ys → Fr h₀ L hp m → News h₀ L hp ((D, lst ys) :: NW) → (∀ q ∈ NW, q.1 ≠ D) → Q (.ref D) { s₁ with heap := hp, toks := tk })) E s)
    (hs : ∀ x, foldedSetIterable iter env x = pure x := by intro _; rfl) :
    wpAny (model prog w) A (eval (.ListComp elt [⟨.Name x px, iter, [], 0⟩] scope pos) env) Q E s := by
  rw [eval_ListComp]
  refine wpAny_comprehension_free (use := none) rfl hs hclos hkind hnames (wpAny_mono h (fun xv s₁ h₁ => ?_) fun _ _ e => e)
  obtain ⟨r, b, t, u, v', rfl, hh, F, N, hr, hsm, hn, turn, done⟩ := h₁
  refine wpAny_pyIter_range hr hsm ?_
  obtain ⟨I, hI⟩ : ∃ I, I = s₁.heap.objs.size := ⟨_, rfl⟩
  generalize hH1 : s₁.heap.push { cls := .type "range_iterator", data := .fields #[rawInt 0, rawInt (Builtin.Range.rangeSize 0 b 1), rawInt 1] } = H1
  have hs1 : H1.objs.size = I + 1 := by rw [← hH1, Heap.size_push, hI]
  rw [← hI]
  have hIt : IsRangeIter H1 I 0 n 1 := by rw [← hH1, hI]; show Heap.get? _ _ = _; rw [hn]; exact Heap.get?_push_size _ rfl
  refine wpAny_newObj_type ?_
  generalize hH2 : H1.push { cls := .type "list", dict := none, data := .seq ([] : List Value).toArray } = H2
  have hs2 : H2.objs.size = I + 2 := by rw [← hH2, Heap.size_push, hs1]
  refine newEnv_cell hcf hpc ?_
  generalize hH4 : (H2.push { cls := .type "dict", data := .dict #[] }).push { cls := .type "cell", data := .cell none } = H4
  have up1 : ∀ a o, s₁.heap.get? a = some o → H1.get? a = some o := fun a o e => by rw [← hH1]; exact Heap.get?_push_of_some _ e
  have up2 : ∀ a o, H1.get? a = some o → H2.get? a = some o := fun a o e => by rw [← hH2]; exact Heap.get?_push_of_some _ e
  have up4 : ∀ a o, H2.get? a = some o → H4.get? a = some o := fun a o e => by rw [← hH4]; exact Heap.get?_push_of_some _ (Heap.get?_push_of_some _ e)
  have up : ∀ a o, s₁.heap.get? a = some o → H4.get? a = some o := fun a o e => up4 _ _ (up2 _ _ (up1 _ _ e))
  have fresh₀ : ∀ a, I ≤ a → h₀.get? a = none := fun a ha => by
    cases e : h₀.get? a with
    | none => rfl
    | some o' => exact absurd (Heap.lt_size (F.keep a o' e)) (Nat.not_lt.mpr (hI ▸ ha))
  have hLlt : L < I := hI ▸ F.ns.lt
  have gI : IsRangeIter H4 I (0 + (0 : Nat) * 1) ((n : Int) - (0 : Nat)) 1 := by
    have e : H4.get? I = some _ := up4 _ _ (up2 _ _ hIt)
    show H4.get? I = some _
    rw [e]; simp
  have gD : H4.get? (I + 1) = some (lst []) := up4 _ _ (by rw [← hs1, ← hH2]; exact Heap.get?_push_size _ rfl)
  have gC : H4.Ns (I + 2) (fun _ => none) := by
    have : (H2.push { cls := .type "dict", data := .dict #[] }).Ns H2.objs.size (fun _ => none) := Heap.Ns.new H2 (.type "dict")
    rw [hs2] at this
    rw [← hH4]; exact this.keeps fun a o e => Heap.get?_push_of_some _ e
  have gK : H4.IsCell (I + 3) none := by
    have : (H2.push { cls := .type "dict", data := .dict #[] }).objs.size = I + 3 := by rw [Heap.size_push, hs2]
    rw [← hH4, ← this]
    exact ⟨_, Heap.get?_push_size _ rfl, rfl⟩
  have offN : ∀ q ∈ NW, q.1 < I := fun q hq => hI ▸ Heap.lt_size (N q hq).1
  have W := range_walks (prog := prog) (w := w) (I := I) hh 0 n
  have nI : ∀ k : Nat, I ≠ I + (k + 1) := fun k => Nat.ne_of_lt (Nat.lt_add_of_pos_right (Nat.succ_pos k))
  have lI : ∀ j : Nat, L < I + j := fun j => Nat.lt_of_lt_of_le hLlt (Nat.le_add_right _ _)
  have fI : ∀ j : Nat, h₀.get? (I + j) = none := fun j => fresh₀ _ (Nat.le_add_right _ _)
  have nn : ∀ i j : Nat, i < j → @Ne Nat (I + i) (I + j) := fun i j h => Nat.ne_of_lt (Nat.add_lt_add_left h I)
  have below : ∀ (a : Addr) (j : Nat), a < I → @Ne Nat a (I + j) := fun a j h => Nat.ne_of_lt (Nat.lt_of_lt_of_le h (Nat.le_add_right _ _))
  rw [hs1, hs2]
  have loop : codeAny (model prog w) A (.compLoop (.ListComp elt [⟨.Name x px, iter, [], 0⟩] scope pos) 0 (.ref I) (.ref (I + 1)) (compEnvC scope ((x, I + 3) :: cl) (I + 2) env))
      (compPost (model prog w) A E none Q (.ref (I + 1)) (I + 2)) { s₁ with heap := H4 } := by
    refine codeAny_compLoop_tests
      (fun k s' => ∃ h' tk i ys, s' = { s₁ with heap := h', toks := tk } ∧ i ≤ n ∧ k = n + 1 - i ∧ ys.length = i ∧ IsRangeIter h' I (0 + (i : Nat) * 1) ((n : Int) - (i : Nat)) 1 ∧ Fr h₀ L h' m ∧ (∃ mc, h'.Ns (I + 2) mc) ∧ (∃ vc, h'.IsCell (I + 3) vc) ∧
        News h₀ L h' ((I + 1, lst ys) :: NW) ∧ J i ys) ?_ (n + 1)
      ⟨H4, _, 0, [], rfl, Nat.zero_le _, rfl, rfl, gI, F.keeps up, ⟨_, gC⟩, ⟨_, gK⟩, fun p hp => ?_, h0⟩
    · rintro k s' ⟨h', tk, i, ys, rfl, hi, rfl, hyl, hst', F', ⟨mc, hc'⟩, ⟨vc, hk'⟩, N', hJ⟩
      by_cases hlt : i < n
      · refine W.item i _ _ _ hlt hst' fun v h₂ tk₂ hPv hst₂ hk₂ => ?_
        obtain ⟨tv, rfl⟩ := hPv
        rw [Int.zero_add]
        have kp : ∀ a o, a ≠ I → h'.get? a = some o → h₂.get? a = some o := fun a o ha e => hk₂ a o (by simpa using ha) e
        have hk2 : h₂.IsCell (I + 3) vc := by obtain ⟨o, e, d⟩ := hk'; exact ⟨o, kp _ _ (nI 2).symm e, d⟩
        refine wpAny_assign_Name (wpAny_storeName_cell (by simp [compEnvC, relabel, hkind]) (hxk _ _) (by simp [compEnvC]) hk2 (fun h₃ hk₃ hs₃ => ?_))
        refine wpAny_tests_nil ?_
        simp only [if_true]
        obtain ⟨oK, heK, hdK⟩ := hk₃
        have kp3 : ∀ a o, a ≠ I + 3 → h₂.get? a = some o → h₃.get? a = some o := fun a o ha e => hs₃.extBut a o ha e
        have hst₃ : IsRangeIter h₃ I (0 + ((i + 1 : Nat) : Int) * 1) ((n : Int) - ((i + 1 : Nat) : Int)) 1 := kp3 _ _ (nI 2) hst₂
        obtain ⟨oI, heI⟩ : ∃ o, h₃.get? I = some o := ⟨_, hst₃⟩
        have hc3 : h₃.Ns (I + 2) mc := (hc'.at' fun o e => kp _ o (nI 1).symm e).at' fun o e => kp3 _ o (nn 2 3 (by decide)) e
        obtain ⟨oC, heC, hoC⟩ := ns_obj hc3
        have F₃ : Fr h₀ L h₃ m := (fr_but F' hk₂ (Nat.ne_of_lt hLlt) (fresh₀ _ (Nat.le_refl _))).change hs₃ (Nat.ne_of_gt (lI 3)) (fI 3)
        have N₃ : News h₀ L h₃ ((I, oI) :: (I + 2, oC) :: (I + 3, oK) :: (I + 1, lst ys) :: NW) := fun p hp => by
          rcases List.mem_cons.mp hp with rfl | hp
          · exact ⟨heI, Nat.ne_of_gt hLlt, fresh₀ _ (Nat.le_refl _)⟩
          · rcases List.mem_cons.mp hp with rfl | hp
            · exact ⟨heC, Nat.ne_of_gt (lI 2), fI 2⟩
            · rcases List.mem_cons.mp hp with rfl | hp
              · exact ⟨heK, Nat.ne_of_gt (lI 3), fI 3⟩
              · have z := N' p hp
                have hp1 : p.1 ≠ I ∧ p.1 ≠ I + 3 := by
                  rcases List.mem_cons.mp hp with rfl | hp
                  · exact ⟨(nI 0).symm, nn 1 3 (by decide)⟩
                  · have := offN p hp
                    exact ⟨Nat.ne_of_lt this, below _ 3 this⟩
                exact ⟨kp3 _ _ hp1.2 (kp _ _ hp1.1 z.1), z.2⟩
        have offA : ∀ q ∈ NW, q.1 ≠ I ∧ q.1 ≠ I + 2 ∧ q.1 ≠ I + 3 ∧ q.1 ≠ I + 1 := fun q hq => by
          have h : q.1 < I := offN q hq
          exact ⟨Nat.ne_of_lt h, below _ 2 h, below _ 3 h, below _ 1 h⟩
        refine wpAny_mono (turn i ys tv I oI (I + 2) oC (I + 3) oK (I + 1) h₃ _ _ hlt hJ hdK F₃ N₃ offA ⟨nI 1, nI 2, nI 0, nn 2 3 (by decide), (nn 1 2 (by decide)).symm, (nn 1 3 (by decide)).symm⟩) (fun y s₄ h₄ => ?_) fun _ _ e => e
        obtain ⟨h₄, tk₄, rfl, F₄, N₄, hJ4⟩ := h₄
        have zI := (N₄ (I, oI) (.head _)).1
        have zC := (N₄ (I + 2, oC) (.tail _ (.head _))).1
        have zK := (N₄ (I + 3, oK) (.tail _ (.tail _ (.head _)))).1
        have zD := (N₄ (I + 1, lst ys) (.tail _ (.tail _ (.tail _ (.head _))))).1
        have hst₄ : IsRangeIter h₄ I (0 + ((i + 1 : Nat) : Int) * 1) ((n : Int) - ((i + 1 : Nat) : Int)) 1 := by
          have e : h₃.get? I = some _ := hst₃
          rw [heI] at e
          show h₄.get? I = some _
          rw [zI, e]
        refine append_at (hsz := by show ys.toArray.size ≤ sizeLine; rw [List.size_toArray, hyl]; exact Nat.le_trans hi hsz) zD fun h₅ hs₅ hD₅ => ?_
        refine ⟨n + 1 - (i + 1), turn_lt hlt, h₅, tk₄, i + 1, ys ++ [y], rfl, hlt, rfl, by rw [List.length_append, List.length_singleton, hyl], hs₅.extBut _ _ (nI 0) hst₄, F₄.change hs₅ (Nat.ne_of_gt (lI 1)) (fI 1),
          ⟨_, (hoC.ns zC).at' fun o e => hs₅.extBut _ o (nn 1 2 (by decide)).symm e⟩, ⟨_, oK, hs₅.extBut _ _ (nn 1 3 (by decide)).symm zK, hdK⟩, fun p hp => ?_, hJ4⟩
        rcases List.mem_cons.mp hp with rfl | hp
        · exact ⟨hD₅.trans (congrArg some (lst_snoc ys y)), Nat.ne_of_gt (lI 1), fI 1⟩
        · have z := N₄ p (.tail _ (.tail _ (.tail _ (.tail _ hp))))
          exact ⟨hs₅.extBut _ _ (offA p hp).2.2.2 z.1, z.2⟩
      · obtain rfl : i = n := Nat.le_antisymm hi (Nat.not_lt.mp hlt)
        refine W.done _ _ _ hst' fun h₂ tk₂ hk₂ => ?_
        have kp : ∀ a o, a ≠ I → h'.get? a = some o → h₂.get? a = some o := fun a o ha e => hk₂ a o (by simpa using ha) e
        refine ⟨mc, hc'.at' fun o e => kp _ o (nI 1).symm e, fun h'' hs'' => done ys (I + 1) h'' tk₂ hJ ((fr_but F' hk₂ (Nat.ne_of_lt hLlt) (fresh₀ _ (Nat.le_refl _))).change hs'' (Nat.ne_of_gt (lI 2)) (fI 2)) (fun p hp => ?_) (fun q hq => below _ 1 (offN q hq))⟩
        have z := N' p hp
        have hp1 : p.1 ≠ I ∧ p.1 ≠ I + 2 := by
          rcases List.mem_cons.mp hp with rfl | hp
          · exact ⟨(nI 0).symm, nn 1 2 (by decide)⟩
          · have := offN p hp
            exact ⟨Nat.ne_of_lt this, below _ 2 this⟩
        exact ⟨hs''.extBut _ _ hp1.2 (kp _ _ hp1.1 z.1), z.2⟩
    · rcases List.mem_cons.mp hp with rfl | hp
      · exact ⟨gD, Nat.ne_of_gt (lI 1), fI 1⟩
      · exact ⟨up _ _ (N p hp).1, (N p hp).2⟩
  exact codeAny_compStart_list loop (W.self 0 _ _ _ gI loop)
end
theorem rep_lt : ∀ a b : Nat, (List.replicate a 32 < List.replicate b 32) ↔ a < b
  | 0, 0 => by simp
  | 0, b + 1 => by simp [List.replicate_succ]
  | a + 1, 0 => by simp [List.replicate_succ]
  | a + 1, b + 1 => by
    rw [List.replicate_succ, List.replicate_succ, List.cons_lt_cons_iff]
    have := rep_lt a b
    constructor
    · rintro (h | ⟨-, h⟩)
      · exact absurd h (Nat.lt_irrefl _)
      · have := (rep_lt a b).mp h; omega
    · intro h
      exact .inr ⟨rfl, (rep_lt a b).mpr (by omega)⟩
theorem blanks_lt {prog : Program} {w : World} {A : Around} {P : Nat → Value → Prop} (val : Nat → Int) (hval : ∀ i v, P i v → ∃ (k : Nat) (t : Tok), v = .str (blank k) t ∧ val i = (k : Int)) :
    CmpOf prog w A .Lt P (fun i j => decide (val i < val j)) := fun i j vi vj s Q E hi hj h => by
  obtain ⟨k, t, rfl, e1⟩ := hval i vi hi
  obtain ⟨l, u, rfl, e2⟩ := hval j vj hj
  have hc : Q (.bool ((Tx (List.replicate k 32)).cps.toList < (Tx (List.replicate l 32)).cps.toList)) s := by
    refine cast (congrArg (fun b => Q (.bool b) s) ?_) h
    show decide (val i < val j) = decide ((Tx (List.replicate k 32)).cps.toList < (Tx (List.replicate l 32)).cps.toList)
    rw [Tx_cps, Tx_cps, decide_eq_decide, rep_lt, e1, e2]
    exact Int.ofNat_lt
  exact richCompare_gives (op := .Lt) (typeIs_str s _ t) (typeIs_str s _ u) F.slot_str_lt F.entry_str_lt (F.args_str_lt_2 _ _) (gives_str_lt _ _ t u) (fun x => nomatch x) hc
/-- the least -/
noncomputable def minL (l : List Nat) : Nat := l.min?.getD 0
theorem minL_of {l : List Nat} {M : Nat} (h1 : M ∈ l) (h2 : ∀ a ∈ l, M ≤ a) : M = minL l := by
  unfold minL
  rw [List.min?_eq_some_iff.mpr ⟨h1, h2⟩]
  rfl
section
variable {prog : Program} {w : World} {A : Around} {E : Value → Shared → Prop} {s : Shared} {h₀ : Heap} {L : Addr} {m : Str → Option Value} {news : List (Addr × Obj)}
theorem min_blanks {l : Addr} {vs : List Value} {ns : List Nat} {Q : Value → Shared → Prop} (hh : A.handled = none) (F : Fr h₀ L s.heap m) (N : News h₀ L s.heap news)
    (hl : s.heap.IsList l vs.toArray) (hi : StrsAre vs (ns.map blank)) (hne : ns ≠ [])
    (h : ∀ h' t tk, Fr h₀ L h' m → News h₀ L h' news → Q (.str (blank (minL ns)) t) { s with heap := h', toks := tk }) :
    wpAny (model prog w) A (call (.builtin "min") [.ref l]) Q E s := by
  have hlt : l < s.heap.objs.size := by obtain ⟨_, e, _⟩ := hl; exact Heap.lt_size e
  have hlen : vs.length = ns.length := by rw [hi.length, List.length_map]
  have hpos : 0 < ns.length := List.length_pos_iff.mpr hne
  have at' : ∀ i v, vs.toArray[i]? = some v → ∃ (k : Nat) (t : Tok), v = .str (blank k) t ∧ ((ns.getD i 0 : Nat) : Int) = (k : Int) ∧ ns[i]? = some k := fun i v hv => by
    obtain ⟨t, x, hx, rfl⟩ := strs_get hi (i := i) (v := v) (by simpa using hv)
    rw [List.getElem?_map] at hx
    obtain ⟨k, hk, rfl⟩ := Option.map_eq_some_iff.mp hx
    exact ⟨k, t, rfl, by rw [List.getD_eq_getElem?_getD, hk]; rfl, hk⟩
  have st : ({ s with heap := s.heap.push { cls := .type "list_iterator", data := .fields #[.ref l, .int 0 0] } } : Shared).heap.IsListIter s.heap.objs.size l 0 ∧ ({ s with heap := s.heap.push { cls := .type "list_iterator", data := .fields #[.ref l, .int 0 0] } } : Shared).heap.IsList l vs.toArray := ⟨⟨_, Heap.get?_push_size _ rfl, rfl, rfl⟩, hl.push _⟩
  refine call_min_walk (wpAny_pyIter_list hl ?_)
  refine ⟨_, _, _, _, _, _, _, rfl, Walks.list (A := A.in1) hh _ l (Nat.ne_of_lt hlt) vs.toArray, st, fun b hb => ?_, by simpa [hlen] using hpos, blanks_lt (fun i => ((ns.getD i 0 : Nat) : Int)) (fun i v hv => let ⟨k, t, e1, e2, _⟩ := at' i v hv; ⟨k, t, e1, e2⟩), fun v h' tk hP hk => ?_⟩
  · show b < (s.heap.push _).objs.size
    rw [Heap.size_push]
    rcases List.mem_cons.mp hb with rfl | hb
    · exact Nat.lt_succ_self _
    · rcases List.mem_cons.mp hb with rfl | hb
      · exact Nat.lt_succ_of_lt hlt
      · cases hb
  · obtain ⟨k, t, rfl, e2, e3⟩ := at' _ _ hP
    obtain ⟨h1, h2⟩ := argBest_lt (fun i => ((ns.getD i 0 : Nat) : Int)) (vs.toArray.size - 1)
    have hsz : vs.toArray.size = ns.length := by simpa using hlen
    have : k = minL ns := minL_of (List.mem_of_getElem? e3) fun a ha => by
      obtain ⟨j, hj⟩ := List.getElem?_of_mem ha
      have hjl : j < ns.length := (List.getElem?_eq_some_iff.mp hj).1
      have := h2 j (by omega)
      have e4 : ((ns.getD j 0 : Nat) : Int) = (a : Int) := by rw [List.getD_eq_getElem?_getD, hj]; rfl
      rw [e4, e2] at this
      exact_mod_cast this
    subst this
    have hk2 := old_kept hk
    exact h h' t tk (F.grownK hk2) (N.grown hk2)
end
open LCg
section
variable {prog : Program} {w : World} {A : Around} {s : Shared} {h₀ : Heap} {L : Addr} {m : Str → Option Value} {env : Env} {elt ct : Expr} {x : Str} {scope : Scope} {cl : List (Str × Addr)} {S : List (Addr × Obj) → Prop} {P : Nat → Value → Prop} {Fin : List Value → List (Addr × Obj) → Prop}
open LCt in
/-- the same with a test -/
theorem restT_of (n : Nat) (J : Nat → List Value → List (Addr × Obj) → Prop)
    (turn : ∀ i ys news v I oI C oC D m₂ h tk (E' : Value → Shared → Prop), i < n → J i ys news → P i v → NsObj oC m₂ → m₂ x = some v → Fr h₀ L h m → News h₀ L h ((I, oI) :: (C, oC) :: (D, lst ys) :: news) → Off3 I C D news → ((@Ne Nat I C) ∧ (@Ne Nat I D) ∧ (@Ne Nat C D)) →
      wpAny (model prog w) A (isTrue ct (compEnvC scope cl C env) (eval ct (compEnvC scope cl C env))) (fun ok s' => if ok = true then
        wpAny (model prog w) A (eval elt (compEnvC scope cl C env)) (CompEnd h₀ L m { s with heap := h, toks := tk } I oI C oC D (lst ys) S (fun y news' => J (i + 1) (ys ++ [y]) news')) E' s'
        else CompEnd h₀ L m { s with heap := h, toks := tk } I oI C oC D (lst ys) S (fun _ news' => J (i + 1) ys news') Value.none s') E' { s with heap := h, toks := tk })
    (done : ∀ ys news, J n ys news → Fin ys news) : ∀ k i ys news, i + k = n → J i ys news → CompRestT prog w A h₀ L m env ct elt x scope cl s S P Fin k i ys news := by
  intro k
  induction k with
  | zero => intro i ys news hi hJ; have : i = n := by omega
            subst this; exact CompRestT.zero (done _ _ hJ)
  | succ k ih =>
    intro i ys news hi hJ
    refine CompRestT.succ fun v I oI C oC D m₂ h tk E' hP hns hx F N o3 ne => ?_
    refine wpAny_mono (turn i ys news v I oI C oC D m₂ h tk E' (by omega) hJ hP hns hx F N o3 ne) (fun ok s₂ z => ?_) fun _ _ e => e
    cases ok with
    | true =>
      refine wpAny_mono z (fun y s₃ z => ?_) fun _ _ e => e
      obtain ⟨h', tk', news', e1, e2, e3, e4, e5, e6⟩ := z
      exact ⟨h', tk', news', e1, e2, e3, e4, e5, ih (i + 1) _ _ (by omega) e6⟩
    | false =>
      obtain ⟨h', tk', news', e1, e2, e3, e4, e5, e6⟩ := z
      exact ⟨h', tk', news', e1, e2, e3, e4, e5, ih (i + 1) _ _ (by omega) e6⟩
end
noncomputable def pickL (paid : List Nat) (size r : Nat) : List Nat := paid.filter fun q => q % size == r
/-- the shortest sums by their rest -/
noncomputable def shortest (paid : List Nat) (size : Nat) : List Nat := (List.range size).map fun r => minL (pickL paid size r)
theorem pick_in {paid : List Nat} {size r j q : Nat} (hq : paid[j]? = some q) (h : q % size = r) : pickL (paid.take (j + 1)) size r = pickL (paid.take j) size r ++ [q] := by
  unfold pickL
  rw [List.take_add_one, hq, List.filter_append]
  simp [h]
theorem pick_out {paid : List Nat} {size r j q : Nat} (hq : paid[j]? = some q) (h : q % size ≠ r) : pickL (paid.take (j + 1)) size r = pickL (paid.take j) size r := by
  unfold pickL
  rw [List.take_add_one, hq, List.filter_append]
  simp [h]
theorem shortest_c (w : World) (P : Addr) (its : List Value) (k : Nat) (paid : List Nat) (size : Nat) (t : Tok) (hi : StrsAre its (paid.map blank)) (hs : 0 < size ∧ size < 20) (hlen : paid.length < 1000) (hb : ∀ q ∈ paid, q < 220)
    (hne : ∀ r, r < size → pickL paid size r ≠ []) :
    Con w 20 200 209 [.ref P, .int size t] [(P, listOf its.toArray k)] (fun _ v blk => ∃ D ys k', v = .ref D ∧ StrsAre ys ((shortest paid size).map blank) ∧ D ≠ P ∧ blk = [(D, listOf ys.toArray k'), (P, listOf its.toArray k)]) := by
  unfold Con
  k_fill
  intro dp un gd outer base g tp tl mean mg mb s R B hg hsz hsel X T hd hu ret
  refine' enter_gc hg hsz hsel X T ?k6 ?k7 ?k8 ?k9 ?kB ?kD ?_ ?c2 ?c3 ?c4
  (case k6 => k_is); (case k7 => k_is); (case k8 => ktr_room); (case k9 => exact BindsTo.of_eq rfl); (case kB => exact rfl); (case kD => decide +kernel); (case c2 => exact rfl); (case c3 => exact rfl); (case c4 => exact rfl)
  k_whole
  intro L' h' tk' cells' F' N' Y' l1
  (try k_lt l1); k_cells Y'; (try simp only [List.cons_append, List.nil_append] at N')
  (try dsimp only); (try k_fold)
  ((repeat' ((fail_if_success (with_reducible show wpAny _ _ (eval (Expr.ListComp _ _ _ _) _) _ _ _)); (first | (k_unfold; (try dsimp only)) | ((with_reducible first | show wpAny _ _ (exec _ _) _ _ _ | show wpAny _ _ (execs _ _) _ _ _); k_fold) | (k_end; wrow_close) | walk1 | (dsimp only; walk1) | (leave1; (try dsimp only))))) <;> (repeat (k_unfold; (try dsimp only))))
  rename_i oS oP dS dP _ _
  have hdS : oS.data = .cell (some (.int (size : Int) t)) := dS
  have hdP : oP.data = .cell (some (.ref P)) := dP
  clear dS dP
  have F0 : Fr g L' h' (fun _ => none) := Fr.congr F' (fun y => by rfl)
  clear F'
  obtain ⟨NW, hNW⟩ : ∃ NW, NW = [(L' + 1 + 1, oS), (L' + 1, oP), (P, listOf its.toArray k)] := ⟨_, rfl⟩
  refine ListComp_cell (h₀ := g) (L := L') (m := fun _ => none) (n := size) (NW := NW) (J := fun i ys => StrsAre ys (((List.range i).map fun r => minL (pickL paid size r)).map blank)) (by with_unfolding_all rfl) (by rfl) (by decide) (fun n => by rfl) (fun h => by rfl) (fun C K => by rfl) (by rw [sizeLine_eq]; omega) .nil ?_
  ((repeat' ((fail_if_success (with_reducible show Exists _)); (first | (k_unfold; (try dsimp only)) | ((with_reducible first | show wpAny _ _ (exec _ _) _ _ _ | show wpAny _ _ (execs _ _) _ _ _); k_fold) | (k_end; wrow_close) | walk1 | (dsimp only; walk1) | (leave1; (try dsimp only))))) <;> (repeat (k_unfold; (try dsimp only))))
  rename IsRange _ _ _ _ _ _ _ _ => R4
  rename Fr _ _ _ _ => F4
  rename News _ _ _ _ => N4
  refine ⟨_, _, _, _, _, rfl, rfl, F4, (by rw [hNW]; exact N4), R4, small_n (Nat.le_trans (Nat.le_of_lt hs.2) (by decide)), by rw [rangeSize_nat, Int.sub_zero, Int.toNat_natCast], ?_, ?_⟩
  · intro i ys ti I oI C oC K oK D hp tk E' hi2 hys hdK F5 N5 off5 ne5
    subst hNW
    have hil : its.length < 1100 := by have := hi.length; rw [List.length_map] at this; omega
    (try k_fold)
    ((repeat' ((fail_if_success (with_reducible show wpAny _ _ (eval (Expr.ListComp _ _ _ _) _) _ _ _)); (first | (k_unfold; (try dsimp only)) | ((with_reducible first | show wpAny _ _ (exec _ _) _ _ _ | show wpAny _ _ (execs _ _) _ _ _); k_fold) | (k_end; wrow_close) | walk1 | (dsimp only; walk1) | (leave1; (try dsimp only))))) <;> (repeat (k_unfold; (try dsimp only))))
    rename Fr _ _ _ _ => F6
    rename News _ _ _ _ => N6
    refine LCt.ListComp_T (F₀ := F6) (by with_unfolding_all rfl) (by decide) (by rfl) (by decide) (by rfl) ?_
    ((repeat' ((fail_if_success (with_reducible show LCt.CompSrcT _ _ _ _ _ _ _ _ _ _ _ _ _ _ _)); (first | (k_unfold; (try dsimp only)) | ((with_reducible first | show wpAny _ _ (exec _ _) _ _ _ | show wpAny _ _ (execs _ _) _ _ _); k_fold) | (k_end; wrow_close) | walk1 | (dsimp only; walk1) | (leave1; (try dsimp only))))) <;> (repeat (k_unfold; (try dsimp only))))
    rename Fr _ _ _ _ => F7
    rename News _ _ _ _ => N7
    refine LCt.CompSrcT.ledger (k := k) (its := its.toArray) rfl F7 N7 (by k_mem) (by rw [List.size_toArray, sizeLine_eq]; omega) (fun g' => ?_)
    obtain ⟨NV, hNV⟩ : ∃ NV, NV = [(I, oI), (C, oC), (K, oK), (D, LCg.lst ys), (L' + 1 + 1, oS), (L' + 1, oP), (P, listOf its.toArray k)] := ⟨_, rfl⟩
    refine restT_of its.toArray.size (fun j zs news => StrsAre zs ((pickL (paid.take j) size i).map blank) ∧ news = NV) ?_ ?_ _ 0 [] _ (Nat.zero_add _) ⟨.nil, hNV.symm⟩
    · rintro j zs news v I2 oI2 C2 oC2 D2 m₂ h9 tk9 E2 hj ⟨hzs, rfl⟩ hv hns hx F11 N11 o3' ne
      obtain ⟨tz, z, hzx, rfl⟩ := strs_get hi (by simpa using hv)
      rw [List.getElem?_map] at hzx
      obtain ⟨q, hq, rfl⟩ := Option.map_eq_some_iff.mp hzx
      have hqb := hb q (List.mem_of_getElem? hq)
      have hlq : (blank q).length < 220 := (blank_len q).symm ▸ hqb
      subst hNV
      clear F7 N7
      try clear F6 N6
      try clear F5 N5
      (try dsimp only); (try k_fold)
      ((repeat' ((fail_if_success (with_reducible show LCg.CompEnd _ _ _ _ _ _ _ _ _ _ _ _ _ _)); (first | ((with_reducible show wpAny _ _ (binaryOp Operator.Mod (Value.int (Nat.cast _) _) (Value.int (Nat.cast _) _)) _ _ _); refine mod_st (by omega) (by omega) ?_) | (k_unfold; (try dsimp only)) | ((with_reducible first | show wpAny _ _ (exec _ _) _ _ _ | show wpAny _ _ (execs _ _) _ _ _); k_fold) | (k_end; wrow_close) | walk1 | (dsimp only; walk1) | (leave1; (try dsimp only))))) <;> (repeat (k_unfold; (try dsimp only))))
      · rename _ = _ => hq2
        rw [blank_len] at hq2
        rename Fr _ _ _ _ => F13
        rename News _ _ _ _ => N13
        refine LCg.CompEnd.intro F13 N13 _ (fun q hq => hq) o3' (.inr ⟨_, by k_mem, rfl, _, rfl⟩) ⟨?_, rfl⟩
        rw [pick_in hq (by exact_mod_cast hq2), List.map_append]
        exact kct_snoc hzs
      · rename _ ≠ _ => hq2
        rw [blank_len] at hq2
        rename Fr _ _ _ _ => F13
        rename News _ _ _ _ => N13
        refine LCg.CompEnd.intro F13 N13 _ (fun q hq => hq) o3' (.inr ⟨_, by k_mem, rfl, _, rfl⟩) ⟨?_, rfl⟩
        rw [pick_out hq (fun h => hq2 (by exact_mod_cast h))]
        exact hzs
    · rintro zs news ⟨hzs, rfl⟩ Dc h9 tk9 F11 N11 oD
      subst hNV
      clear F7 N7
      try clear F6 N6
      try clear F5 N5
      (try dsimp only); (try k_fold)
      ((repeat' ((fail_if_success (with_reducible show wpAny _ _ (call (Value.builtin "min") _) _ _ _)); (first | (k_unfold; (try dsimp only)) | ((with_reducible first | show wpAny _ _ (exec _ _) _ _ _ | show wpAny _ _ (execs _ _) _ _ _); k_fold) | (k_end; wrow_close) | walk1 | (dsimp only; walk1) | (leave1; (try dsimp only))))) <;> (repeat (k_unfold; (try dsimp only))))
      rename Fr _ _ _ _ => F12
      rename News _ _ _ _ => N12
      rw [List.size_toArray, hi.length, List.length_map, List.take_length] at hzs
      refine min_blanks rfl F12 N12 (News.isList N12 (.head _)) hzs (hne i hi2) ?_
      intro h13 t13 tk13 F13 N13
      (try dsimp only)
      refine ⟨_, _, rfl, F13, fun q hq => N13 q (.tail _ hq), ?_⟩
      rw [List.range_succ, List.map_append, List.map_append]
      exact kct_snoc hys
  · intro ys D hp tk hys F5 N5 off5
    subst hNW
    (try dsimp only)
    ((repeat' (first | (k_unfold; (try dsimp only)) | ((with_reducible first | show wpAny _ _ (exec _ _) _ _ _ | show wpAny _ _ (execs _ _) _ _ _); k_fold) | (k_end; wrow_close) | walk1 | (dsimp only; walk1) | (leave1; (try dsimp only)))) <;> (repeat (k_unfold; (try dsimp only))))
    (try dsimp only)
    refine ret _ [(D, LCg.lst ys), (P, listOf its.toArray k)] _ _ F5.keep (List.forall_mem_cons.mpr ⟨⟨(N5 _ (.head _)).1, (N5 _ (.head _)).2.2⟩, List.forall_mem_cons.mpr ⟨⟨(N5 (P, listOf its.toArray k) (by k_mem)).1, (N5 (P, listOf its.toArray k) (by k_mem)).2.2⟩, List.forall_mem_nil _⟩⟩) ⟨D, ys, _, rfl, hys, (off5 (P, listOf its.toArray k) (by k_mem)).symm, rfl⟩
/-- the common divisors from 2 on -/
noncomputable def divsTo (one two i : Nat) : List Nat := ((List.range i).map (· + 2)).filter fun d => one % d == 0 && two % d == 0
noncomputable def divs (one two : Nat) : List Nat := divsTo one two (one - 1)
theorem divs_in {one two i : Nat} (h1 : one % (i + 2) = 0) (h2 : two % (i + 2) = 0) : divsTo one two (i + 1) = divsTo one two i ++ [i + 2] := by
  unfold divsTo
  rw [List.range_succ, List.map_append, List.filter_append]
  simp [h1, h2]
theorem divs_out {one two i : Nat} (h : one % (i + 2) ≠ 0 ∨ two % (i + 2) ≠ 0) : divsTo one two (i + 1) = divsTo one two i := by
  unfold divsTo
  rw [List.range_succ, List.map_append, List.filter_append]
  rcases h with h | h <;> simp [h]
noncomputable def freeOf (one : Nat) : Nat → Nat → Nat
  | 0, two => two
  | f + 1, two => if divs one two = [] then two else freeOf one f (two + 1)
theorem ints_snoc1 {vs : List Value} {ns : List Int} {v : Int} {t : Tok} (h : IntsAre vs ns) : IntsAre (vs ++ [.int v t]) (ns ++ [v]) := by
  induction h with
  | nil => exact .cons _ _ .nil
  | cons a t' h ih => exact .cons _ _ ih
theorem free_c (w : World) (one two : Nat) (t1 t2 : Tok) (h1 : 2 ≤ one ∧ one ≤ 7) (h2 : 2 ≤ two ∧ two ≤ 7) (hend : divs one (freeOf one 20 two) = []) :
    Con w 20 200 190 [.int one t1, .int two t2] [] (fun _ v blk => (∃ t, v = .int (freeOf one 20 two : Nat) t) ∧ blk = []) := by
  unfold Con
  k_fill
  intro dp un gd outer base g tp tl mean mg mb s R B hg hsz hsel X T hd hu ret
  refine' enter_gc hg hsz hsel X T ?k6 ?k7 ?k8 ?k9 ?kB ?kD ?_ ?c2 ?c3 ?c4
  (case k6 => k_is); (case k7 => k_is); (case k8 => ktr_room); (case k9 => exact BindsTo.of_eq rfl); (case kB => exact rfl); (case kD => decide +kernel); (case c2 => exact rfl); (case c3 => exact rfl); (case c4 => exact rfl)
  k_whole
  intro L' h' tk' cells' F' N' Y' l1
  (try k_lt l1); k_cells Y'; (try simp only [List.cons_append, List.nil_append] at N')
  have codeHd := codeHd_of_K (c := 41) (P := 37) X (by kernel_rfl)
  (try dsimp only); (try k_fold)
  ((repeat' ((fail_if_success (with_reducible show wpAny _ _ (exec (Stmt.While _ _ _ _) _) _ _ _)); (first | (k_unfold; (try dsimp only)) | ((with_reducible first | show wpAny _ _ (exec _ _) _ _ _ | show wpAny _ _ (execs _ _) _ _ _); k_fold) | (k_end; wrow_close) | walk1 | (dsimp only; walk1) | (leave1; (try dsimp only))))) <;> (repeat (k_unfold; (try dsimp only))))
  rename_i o1 o2 d1 d2
  have hd2 : o1.data = .cell (some (.int (two : Int) t2)) := d1
  have hd1 : o2.data = .cell (some (.int (one : Int) t1)) := d2
  clear d1 d2
  have F0 : Fr g L' h' (fun _ => none) := Fr.congr F' (fun y => by rfl)
  clear F'
  refine wpAny_While ?_
  refine while_J (n := 20) F0 N' (fun f m news => ∃ tw o1 tt, freeOf one f tw = freeOf one 20 two ∧ tw + f = two + 20 ∧ f ≤ 20 ∧ o1.data = .cell (some (.int ((tw : Nat) : Int) tt)) ∧ (∀ q ∈ [(L' + 1 + 1, o1), (L' + 1, o2)], q ∈ news) ∧ ∀ y, m y = none) ⟨two, o1, t2, rfl, rfl, Nat.le_refl _, hd2, fun q hq => hq, fun y => rfl⟩ ?_
  intro f m₁ news₁ h8 tk8 hJ F8 N8
  obtain ⟨tw, o3, tt, hfr, hsum, hf, hd3, hsub, hm⟩ := hJ
  replace F8 : Fr g L' h8 (fun _ => none) := Fr.congr F8 hm
  replace N8 := cb_drop N8 hsub
  clear F0 N' hd2
  (try dsimp only); (try k_fold)
  ((repeat' ((fail_if_success (with_reducible show wpAny _ _ (eval (Expr.ListComp _ _ _ _) _) _ _ _)); (first | (k_unfold; (try dsimp only)) | ((with_reducible first | show wpAny _ _ (exec _ _) _ _ _ | show wpAny _ _ (execs _ _) _ _ _); k_fold) | (k_end; wrow_close) | walk1 | (dsimp only; walk1) | (leave1; (try dsimp only))))) <;> (repeat (k_unfold; (try dsimp only))))
  rename Fr _ _ _ _ => F9
  rename News _ _ _ _ => N9
  refine LCt.ListComp_T (F₀ := F9) (by with_unfolding_all rfl) (by decide) (by rfl) (by decide) (by rfl) ?_
  ((repeat' ((fail_if_success (with_reducible show LCt.CompSrcT _ _ _ _ _ _ _ _ _ _ _ _ _ _ _)); (first | (k_unfold; (try dsimp only)) | ((with_reducible first | show wpAny _ _ (exec _ _) _ _ _ | show wpAny _ _ (execs _ _) _ _ _); k_fold) | (k_end; wrow_close) | walk1 | (dsimp only; walk1) | (leave1; (try dsimp only))))) <;> (repeat (k_unfold; (try dsimp only))))
  rename IsRange _ _ _ _ _ _ _ _ => R4
  rename Fr _ _ _ _ => F4
  rename News _ _ _ _ => N4
  refine LCt.CompSrcT.range (n := one - 1) rfl F4 N4 R4 (small_one (by omega) (by omega) (by omega) (by omega)) (by rw [rangeSize_nat]; omega) (by rw [sizeLine_eq]; omega) (fun g' => ?_)
  obtain ⟨NW, hNW⟩ : ∃ NW, NW = [(L' + 1 + 1, o3), (L' + 1, o2)] := ⟨_, rfl⟩
  refine restT_of (one - 1) (fun i ys news => IntsAre ys ((divsTo one tw i).map fun d : Nat => (d : Int)) ∧ news = NW) ?_ ?_ _ 0 [] _ (Nat.zero_add _) ⟨.nil, hNW.symm⟩
  · rintro i ys news v I oI C oC D m₂ h9 tk9 E' hi ⟨hys, rfl⟩ ⟨tv, rfl⟩ hns hx F11 N11 o3' ne
    rw [show (2 : Int) + (i : Int) = ((i + 2 : Nat) : Int) from by omega] at hx
    subst hNW
    clear F4 N4
    try clear F9 N9
    (try dsimp only); (try k_fold)
    ((repeat' ((fail_if_success (with_reducible show LCg.CompEnd _ _ _ _ _ _ _ _ _ _ _ _ _ _)); (first | ((with_reducible show wpAny _ _ (binaryOp Operator.Mod (Value.int (Nat.cast _) _) (Value.int (Nat.cast _) _)) _ _ _); refine mod_st (by omega) (by omega) ?_) | (k_unfold; (try dsimp only)) | ((with_reducible first | show wpAny _ _ (exec _ _) _ _ _ | show wpAny _ _ (execs _ _) _ _ _); k_fold) | (k_end; wrow_close) | walk1 | (dsimp only; walk1) | (leave1; (try dsimp only))))) <;> (repeat (k_unfold; (try dsimp only))))
    all_goals
      rename Fr _ _ _ _ => F13
      rename News _ _ _ _ => N13
      refine LCg.CompEnd.intro F13 N13 _ (fun q hq => hq) o3' trivial ⟨?_, rfl⟩
    · rw [divs_in (by omega) (by omega), List.map_append]
      exact ints_snoc1 hys
    · rw [divs_out (by omega)]; exact hys
    · rw [divs_out (by omega)]; exact hys
  · rintro ys news ⟨hys, rfl⟩ Dc h9 tk9 F11 N11 oD
    subst hNW
    clear F4 N4
    try clear F9 N9
    (try dsimp only); (try k_fold)
    ((repeat' ((fail_if_success (with_reducible show wpAny _ _ (compareOp Cmpop.NotEq _ _) _ _ _)); (first | (k_unfold; (try dsimp only)) | ((with_reducible first | show wpAny _ _ (exec _ _) _ _ _ | show wpAny _ _ (execs _ _) _ _ _); k_fold) | (k_end; wrow_close) | walk1 | (dsimp only; walk1) | (leave1; (try dsimp only))))) <;> (repeat (k_unfold; (try dsimp only))))
    · rename decide _ = true => hq
      have hq2 : divs one tw = [] := List.map_eq_nil_iff.mp (of_decide_eq_true hq)
      have he : freeOf one 20 two = tw := by
        rw [← hfr]
        cases f with
        | zero => rfl
        | succ f => rw [freeOf, if_pos hq2]
      (try dsimp only)
      rename Fr _ _ _ _ => F13
      rename News _ _ _ _ => N13
      rw [he] at ret
      refine ret _ [] _ _ F13.keep (fun r hr => nomatch hr) ⟨⟨_, rfl⟩, rfl⟩
    · rename decide _ = false => hq
      have hq2 : divs one tw ≠ [] := fun e => of_decide_eq_false hq (List.map_eq_nil_iff.mpr e)
      have hf0 : 0 < f := by
        rcases Nat.eq_zero_or_pos f with rfl | h
        · rw [show freeOf one 0 tw = tw from rfl] at hfr
          exact absurd (hfr ▸ hend) hq2
        · exact h
      obtain ⟨f', rfl⟩ : ∃ f', f = f' + 1 := ⟨f - 1, by omega⟩
      rw [freeOf, if_neg hq2] at hfr
      (try dsimp only)
      unfold Left
      rename Fr _ _ _ _ => F13
      rename News _ _ _ _ => N13
      rename (Obj.data _ = Data.cell _) => d13
      refine ⟨f', _, _, _, _, Nat.lt_succ_self _, rfl, F13, N13, tw + 1, _, _, hfr, by omega, by omega, by rw [d13]; rfl, fun q hq => .tail _ (.tail _ hq), fun y => rfl⟩
/-- the sums that have come, the words that wait -/
noncomputable def payTo (a b bound : Nat) : Nat → List Nat × List Nat → List Nat × List Nat
  | 0, x => x
  | _ + 1, (paid, []) => (paid, [])
  | f + 1, (paid, q :: r) => if q ≤ bound ∧ q ∉ paid then payTo a b bound f (paid ++ [q], r ++ [q + a, q + b]) else payTo a b bound f (paid, r)
/-- the locals of _law_payable -/
noncomputable def pym (x lc : Addr) (bound : Nat) (tb : Tok) (pv cv wv : Option Value) : Str → Option Value :=
  fun y => if y = "paid" then pv else if y = "coin" then cv else if y = "word" then wv else if y = "machine" then some (.ref x) else if y = "coins" then some (.ref lc) else if y = "bound" then some (.int bound tb) else none
/-- between two turns: the sums that have come pd, the word at hand wd, the words that wait ws -/
noncomputable def PaySt (text : Str) (rest : List Nat) (x y bound f p : Nat) (paid : List Nat) (n : Nat) (pd : List Nat) (wd : Str) (ws : List Str) (p2 : Nat) : Prop :=
  (∃ q qd, payTo x y bound n (pd, q :: qd) = (paid, []) ∧ wd = blank q ∧ ws = qd.map blank ∧ p2 = p ∧ (∀ z ∈ q :: qd, 0 < z ∧ z < 220) ∧ qd.length + 2 * n ≤ 2 * f + 2 ∧ pd.length + n ≤ f + 1) ∨
  (pd = paid ∧ wd = Tx [101, 110, 100] ∧ ws = [] ∧ p2 ≤ text.length ∧ codes text p2 = rest)
/-- between two turns of a for that pushes: the words that waited, those pushed so far -/
noncomputable def PayJ (w : World) (a : LexA) (RO : Nat → List (Addr × Obj) → Prop) (lin : Int) (p : Nat) (D lc : Addr) (oD oL : Obj) (bound : Nat) (tb : Tok) (pre us : List Str) (wv : Option Value) (i : Nat) (m : Str → Option Value) (news : List (Addr × Obj)) : Prop :=
  ∃ blk cv, MachSt w a RO lin "\n\t\r " (pre ++ us.take i) p blk ∧ (∀ q ∈ [(D, oD), (lc, oL)] ++ blk, q ∈ news) ∧ ∀ y, m y = pym a.x lc bound tb (some (.ref D)) cv wv y
/-- between two turns of the while -/
noncomputable def PayW (w : World) (a : LexA) (text : Str) (RO : Nat → List (Addr × Obj) → Prop) (c : Int) (rest : List Nat) (x y bound f p : Nat) (paid : List Nat) (D lc : Addr) (oL : Obj) (tb : Tok) (n : Nat) (m : Str → Option Value) (news : List (Addr × Obj)) : Prop :=
  ∃ pd its kD wd tw2 cv ws p2 blk, PaySt text rest x y bound f p paid n pd wd ws p2 ∧ StrsAre its (pd.map blank) ∧ MachSt w a RO (c + nlTo text p2) "\n\t\r " ws p2 blk ∧
    (∀ q ∈ [(D, listOf (List.toArray its) kD), (lc, oL)] ++ blk, q ∈ news) ∧ ∀ y, m y = pym a.x lc bound tb (some (.ref D)) cv (some (.str wd tw2)) y
/-- behind the if -/
noncomputable def PayMid (w : World) (a : LexA) (text : Str) (RO : Nat → List (Addr × Obj) → Prop) (c : Int) (x y bound f p : Nat) (paid : List Nat) (D lc : Addr) (oL : Obj) (tb : Tok) (g : Heap) (L : Addr) (wv : Value) (n2 : Nat) (s : Shared) (fl : Flow) (s' : Shared) : Prop :=
  fl = .next ∧ ∃ h tk pd its kP qd cv blk, s' = { s with heap := h, toks := tk } ∧ payTo x y bound n2 (pd, qd) = (paid, []) ∧ (∀ z ∈ qd, 0 < z ∧ z < 220) ∧ qd.length + 2 * n2 ≤ 2 * f + 2 ∧ pd.length + n2 ≤ f + 1 ∧ StrsAre its (pd.map blank) ∧
    MachSt w a RO (c + nlTo text p) "\n\t\r " (qd.map blank) p blk ∧ Fr g L h (pym a.x lc bound tb (some (.ref D)) cv (some wv)) ∧ News g L h ([(D, listOf (List.toArray its) kP), (lc, oL)] ++ blk)
noncomputable abbrev two (x y : Nat) (i1 i2 : Tok) : List Value := [.str (blank x) i1, .str (blank y) i2]
theorem two_are (x y : Nat) (i1 i2 : Tok) : StrsAre (two x y i1 i2) [blank x, blank y] := .cons _ _ (.cons _ _ .nil)
theorem payable_c (w : World) (a : LexA) (text : Str) (adr : List Addr) (RO : Nat → List (Addr × Obj) → Prop) (Rd : Reader w a.rd text adr RO) (O : a.Ok adr)
    (c : Int) (p : Nat) (blk : List (Addr × Obj)) (M : MachSt w a RO (c + nlTo text p) "\n\t\r " [] p blk) (hp : p ≤ text.length) (htl : text.length < 2000) {rest : List Nat} (hlex : lex0 "\n\t\r " (codes text p) = (Tx [101, 110, 100], rest))
    (lc : Addr) (i1 i2 : Tok) (kc x y bound : Nat) (tb : Tok) (hlc : lc ∉ a.adrs ++ adr) (hx : 0 < x ∧ x < 20) (hy : 0 < y ∧ y < 20) (hb : bound < 200)
    (paid : List Nat) (f : Nat) (hf : f < 1000) (hend : payTo x y bound f ([0], [x, y]) = (paid, [])) :
    Con w 40 600 204 [.ref a.x, .ref lc, .int bound tb] ((lc, listOf #[.str (blank x) i1, .str (blank y) i2] kc) :: blk) (fun _ v blk' => ∃ D its k blk2 p', v = .ref D ∧ StrsAre its (paid.map blank) ∧ p' ≤ text.length ∧ codes text p' = rest ∧ MachSt w a RO (c + nlTo text p') "\n\t\r " [] p' blk2 ∧ D ∉ a.adrs ++ adr ∧ D ≠ lc ∧ blk' = (D, listOf (List.toArray its) k) :: (lc, listOf #[.str (blank x) i1, .str (blank y) i2] kc) :: blk2) := by
  obtain ⟨lt, tw, k, l, its0, hl, hi0, rfl⟩ := id M
  unfold Con
  k_fill
  intro dp un gd outer base g tp tl mean mg mb s R B hg hsz hsel X T hd hu ret
  refine' enter_g B hg hsz hsel X T ?k6 ?k7 ?k8 ?k9 ?kB ?_ ?c2 ?c3 ?c4 ?c5
  (case k6 => k_is); (case k7 => k_is); (case k8 => ktr_room); (case k9 => exact BindsTo.of_eq rfl); (case c5 => decide); (case kB => exact locs rfl); (case c2 => exact rfl); (case c3 => exact rfl); (case c4 => exact rfl)
  k_whole
  intro L' h' tk' F' N' l1
  have l0 := l1
  (try k_lt l1); (try simp only [lexObjs, List.cons_append, List.nil_append] at N')
  (try dsimp only); (try k_fold)
  ((repeat' ((fail_if_success (with_reducible show wpAny _ _ (exec (Stmt.For _ _ _ _ _) _) _ _ _)); (first | (k_unfold; (try dsimp only)) | ((with_reducible first | show wpAny _ _ (exec _ _) _ _ _ | show wpAny _ _ (execs _ _) _ _ _); k_fold) | (k_end; wrow_close) | walk1 | (dsimp only; walk1) | (leave1; (try dsimp only))))) <;> (repeat (k_unfold; (try dsimp only))))
  rename Fr _ _ _ _ => F4
  rename News _ _ _ _ => N4
  refine wpAny_For ?_
  ((repeat' ((fail_if_success (with_reducible show wpAny _ _ (pyIter _) _ _ _)); (first | (k_unfold; (try dsimp only)) | ((with_reducible first | show wpAny _ _ (exec _ _) _ _ _ | show wpAny _ _ (execs _ _) _ _ _); k_fold) | (k_end; wrow_close) | walk1 | (dsimp only; walk1) | (leave1; (try dsimp only))))) <;> (repeat (k_unfold; (try dsimp only))))
  rename (_ < _ ∧ _ < _ ∧ _ < _ ∧ _) => l9
  obtain ⟨D, kD, tD, N5, F5, lD⟩ : ∃ (D : Addr) (kD : Nat) (tD : Tok), News g L' _ ((D, listOf #[Value.str "" tD] kD) :: (lc, listOf (two x y i1 i2).toArray kc) :: (lexObjs w a (.int (c + nlTo text p) lt) (.str "\n\t\r " tw) its0 k ++ l)) ∧ Fr g L' _ (pym a.x lc bound tb (some (.ref D)) none none) ∧
      (∀ q ∈ (lc, listOf (two x y i1 i2).toArray kc) :: (lexObjs w a (.int (c + nlTo text p) lt) (.str "\n\t\r " tw) its0 k ++ l), q.1 < D) := by
    refine ⟨_, _, _, N4, Fr.congr F4 (by (intro y; unfold pym; (rcases Classical.em (y = "paid") with rfl | h0); exact rfl; (rcases Classical.em (y = "coin") with rfl | h1); exact rfl; (rcases Classical.em (y = "word") with rfl | h2); exact rfl; (rcases Classical.em (y = "machine") with rfl | h3); exact rfl; (rcases Classical.em (y = "coins") with rfl | h4); exact rfl; (rcases Classical.em (y = "bound") with rfl | h5); exact rfl; (try simp only [if_neg h0, if_neg h1, if_neg h2, if_neg h3, if_neg h4, if_neg h5]); (first | done | exact rfl | (show List.lookup y (_ :: _) = none; simp only [List.lookup, beq_eq_false_iff_ne.mpr h0, beq_eq_false_iff_ne.mpr h1, beq_eq_false_iff_ne.mpr h2, beq_eq_false_iff_ne.mpr h3, beq_eq_false_iff_ne.mpr h4, beq_eq_false_iff_ne.mpr h5]) | (simp only [List.lookup, beq_eq_false_iff_ne.mpr h0, beq_eq_false_iff_ne.mpr h1, beq_eq_false_iff_ne.mpr h2, beq_eq_false_iff_ne.mpr h3, beq_eq_false_iff_ne.mpr h4, beq_eq_false_iff_ne.mpr h5]; done)))), ?_⟩
    obtain ⟨e1, e2, e3, e4, e5, e6, e7⟩ := l9
    exact List.forall_mem_cons.mpr ⟨e1, List.forall_mem_cons.mpr ⟨e2, List.forall_mem_cons.mpr ⟨e3, List.forall_mem_cons.mpr ⟨e4, List.forall_mem_cons.mpr ⟨e5, List.forall_mem_cons.mpr ⟨e6, allLt_mem e7⟩⟩⟩⟩⟩⟩
  clear F4 N4 l9
  have hDlc : lc ≠ D := Nat.ne_of_lt (lD _ (.head _))
  have offD : D ∉ a.adrs ++ adr := not_adrs M Rd (fun r hr => Nat.ne_of_lt (lD r (.tail _ hr)))
  have hst := two_are x y i1 i2
  refine' for_lst (env := envOf _ _ L' 204 _) (lo := listOf (two x y i1 i2).toArray kc) (its := (two x y i1 i2).toArray) rfl rfl ⟨_, rfl⟩ rfl rfl rfl F5 N5
    (PayJ w a RO (c + nlTo text p) p D lc (listOf #[Value.str "" tD] kD) (listOf (two x y i1 i2).toArray kc) bound tb [] [blank x, blank y] none) ?hJ ?h0 ?turn ?done
  case hJ => rintro i m nw ⟨blk, cv, h1, h2, h3⟩; exact h2 _ (.tail _ (.head _))
  case h0 => exact ⟨_, none, by rw [List.take_zero, List.append_nil]; exact M, fun q hq => hq, fun y => rfl⟩
  case turn =>
    intro i v m₁ news₁ h6 tk6 I oI hv hJ hI F6 N6
    obtain ⟨blk6, cv, M6, hsub, hm⟩ := hJ
    obtain ⟨tz, z, hz, rfl⟩ := strs_get hst (by simpa using hv)
    have N7 := News.ins N6 hsub
    have F7 : Fr g L' h6 (pym a.x lc bound tb (some (.ref D)) (some (.str z tz)) none) := Fr.congr F6 (fun y => by
      (try dsimp only); rw [hm]; unfold pym; by_cases h : y = "coin"
      · subst h; rfl
      · simp only [if_neg h])
    have hoff : ∀ q ∈ [(I, oI), (D, listOf #[Value.str "" tD] kD), (lc, listOf (two x y i1 i2).toArray kc)], q.1 ∉ a.adrs ++ adr := List.forall_mem_cons.mpr ⟨not_adrs M6 Rd (fun r hr => hI r (hsub _ (List.mem_append_right _ hr))), List.forall_mem_cons.mpr ⟨offD, List.forall_mem_cons.mpr ⟨hlc, List.forall_mem_nil _⟩⟩⟩
    have hIs : ∀ q ∈ [(D, listOf #[Value.str "" tD] kD), (lc, listOf (two x y i1 i2).toArray kc)], q.1 ≠ I := List.forall_mem_cons.mpr ⟨hI _ (hsub _ (.head _)), List.forall_mem_cons.mpr ⟨hI _ (hsub _ (.tail _ (.head _))), List.forall_mem_nil _⟩⟩
    try clear F5 N5 N6 F6
    obtain ⟨lt6, tw6, k6, l6, its6, hl6, hi6, rfl⟩ := id M6
    simp only [lexObjs, List.cons_append, List.nil_append] at N7
    unfold pym at F7
    (try dsimp only); (try k_fold)
    ((repeat' ((fail_if_success (with_reducible show wpAny _ _ (call (Value.ref 98) _) _ _ _)); (first | (k_unfold; (try dsimp only)) | ((with_reducible first | show wpAny _ _ (exec _ _) _ _ _ | show wpAny _ _ (execs _ _) _ _ _); k_fold) | (k_end; wrow_close) | walk1 | (dsimp only; walk1) | (leave1; (try dsimp only))))) <;> (repeat (k_unfold; (try dsimp only))))
    rename Fr _ _ _ _ => F8
    rename News _ _ _ _ => N8
    refine mach_push (aa := [(I, oI), (D, listOf #[Value.str "" tD] kD), (lc, listOf (two x y i1 i2).toArray kc)]) Rd O M6 hoff (by simp; omega) B F8 X N8 T rfl rfl (by k_room) (by k_units) ?_
    intro blk9 h9 tk9 F9 N9 M9
    clear F8 N8
    (try dsimp only)
    ((repeat' ((fail_if_success (with_reducible show Left _)); (first | (k_unfold; (try dsimp only)) | ((with_reducible first | show wpAny _ _ (exec _ _) _ _ _ | show wpAny _ _ (execs _ _) _ _ _); k_fold) | (k_end; wrow_close) | walk1 | (dsimp only; walk1) | (leave1; (try dsimp only))))) <;> (repeat (k_unfold; (try dsimp only))))
    (try dsimp only)
    unfold Left
    refine ⟨_, _, _, _, rfl, F9, News.outs (aa := [(D, listOf #[Value.str "" tD] kD), (lc, listOf (two x y i1 i2).toArray kc)]) N9, ?_, blk9, some (.str z tz), ?_, fun q hq => hq, fun y => rfl⟩
    · intro q hq
      rcases List.mem_append.mp hq with hq | hq
      · exact hIs q hq
      · exact of_adrs M9 Rd (hoff _ (.head _)) q hq
    · show MachSt _ _ _ _ _ ([] ++ _) _ _
      rw [List.take_add_one, hz]; exact M9
  case done =>
    intro m₁ news₁ h6 tk6 hJ F6 N6
    obtain ⟨blk6, cv, M6, hsub, hm⟩ := hJ
    have N7 := cb_drop N6 hsub
    have F7 := Fr.congr F6 hm
    try clear F5 N5 N6 F6
    rw [show (two x y i1 i2).toArray.size = 2 from rfl] at M6
    have M6 : MachSt w a RO (c + nlTo text p) "\n\t\r " [blank x, blank y] p blk6 := M6
    have hoffG : ∀ (oD oL : Obj), ∀ q ∈ [(D, oD), (lc, oL)], q.1 ∉ a.adrs ++ adr := fun _ _ => List.forall_mem_cons.mpr ⟨offD, List.forall_mem_cons.mpr ⟨hlc, List.forall_mem_nil _⟩⟩
    have hoff2 : ∀ q ∈ [(D, listOf #[Value.str "" tD] kD), (lc, listOf (two x y i1 i2).toArray kc)], q.1 ∉ a.adrs ++ adr := List.forall_mem_cons.mpr ⟨offD, List.forall_mem_cons.mpr ⟨hlc, List.forall_mem_nil _⟩⟩
    obtain ⟨lt6, tw6, k6, l6, its6, hl6, hi6, rfl⟩ := id M6
    simp only [lexObjs, List.cons_append, List.nil_append] at N7
    unfold pym at F7
    (try dsimp only)
    ((repeat' ((fail_if_success (with_reducible show wpAny _ _ (call (Value.ref 91) _) _ _ _)); (first | (k_unfold; (try dsimp only)) | ((with_reducible first | show wpAny _ _ (exec _ _) _ _ _ | show wpAny _ _ (execs _ _) _ _ _); k_fold) | (k_end; wrow_close) | walk1 | (dsimp only; walk1) | (leave1; (try dsimp only))))) <;> (repeat (k_unfold; (try dsimp only))))
    rename Fr _ _ _ _ => F8
    rename News _ _ _ _ => N8
    refine mach_get1 (aa := [(D, listOf #[Value.str "" tD] kD), (lc, listOf (two x y i1 i2).toArray kc)]) Rd O M6 hoff2 (by simp) B F8 X N8 T rfl rfl (by k_room) (by k_units) ?_
    intro t9 blk9 h9 tk9 F9 N9 M9
    clear F8 N8
    try clear F7 N7
    (try dsimp only)
    ((repeat' ((fail_if_success (with_reducible show wpAny _ _ (exec (Stmt.While _ _ _ _) _) _ _ _)); (first | (k_unfold; (try dsimp only)) | ((with_reducible first | show wpAny _ _ (exec _ _) _ _ _ | show wpAny _ _ (execs _ _) _ _ _); k_fold) | (k_end; wrow_close) | walk1 | (dsimp only; walk1) | (leave1; (try dsimp only))))) <;> (repeat (k_unfold; (try dsimp only))))
    rename Fr _ _ _ _ => F10
    rename News _ _ _ _ => N10
    refine wpAny_While ?_
    have F11 : Fr g L' _ (pym a.x lc bound tb (some (.ref D)) cv (some (.str (blank x) t9))) := Fr.congr F10 (by (intro y; unfold pym; (rcases Classical.em (y = "paid") with rfl | h0); exact rfl; (rcases Classical.em (y = "coin") with rfl | h1); exact rfl; (rcases Classical.em (y = "word") with rfl | h2); exact rfl; (rcases Classical.em (y = "machine") with rfl | h3); exact rfl; (rcases Classical.em (y = "coins") with rfl | h4); exact rfl; (rcases Classical.em (y = "bound") with rfl | h5); exact rfl; (try simp only [if_neg h0, if_neg h1, if_neg h2, if_neg h3, if_neg h4, if_neg h5]); (first | done | exact rfl | (show List.lookup y (_ :: _) = none; simp only [List.lookup, beq_eq_false_iff_ne.mpr h0, beq_eq_false_iff_ne.mpr h1, beq_eq_false_iff_ne.mpr h2, beq_eq_false_iff_ne.mpr h3, beq_eq_false_iff_ne.mpr h4, beq_eq_false_iff_ne.mpr h5]) | (simp only [List.lookup, beq_eq_false_iff_ne.mpr h0, beq_eq_false_iff_ne.mpr h1, beq_eq_false_iff_ne.mpr h2, beq_eq_false_iff_ne.mpr h3, beq_eq_false_iff_ne.mpr h4, beq_eq_false_iff_ne.mpr h5]; done))))
    clear F10
    try clear F9 N9
    have e0 : ("" : Str) = blank 0 := by decide +kernel
    refine while_J (n := f) F11 N10 (PayW w a text RO c rest x y bound f p paid D lc (listOf (two x y i1 i2).toArray kc) tb) ?_ ?_
    · exact ⟨[0], [.str "" tD], kD, blank x, t9, cv, [blank y], p, blk9, .inl ⟨x, [y], hend, rfl, rfl, rfl, List.forall_mem_cons.mpr ⟨⟨hx.1, by omega⟩, List.forall_mem_cons.mpr ⟨⟨hy.1, by omega⟩, List.forall_mem_nil _⟩⟩, by simp; omega, by simp; omega⟩,
        by rw [e0]; exact .cons _ _ .nil, M9, fun q hq => hq, fun y => rfl⟩
    intro n m₂ news₂ h8 tk8 hJ2 F12 N12
    obtain ⟨pd, its, kP, wd, tw2, cv2, ws, p2, blk2, hS, hits, M12, hsub2, hm2⟩ := hJ2
    replace F12 := Fr.congr F12 hm2
    replace N12 := cb_drop N12 hsub2
    try clear F11 N10
    obtain ⟨lt2, tw3, k2, l2, its2, hl2, hi2, rfl⟩ := id M12
    simp only [lexObjs, List.cons_append, List.nil_append] at N12
    unfold pym at F12
    rcases hS with ⟨q, qd, hpay, rfl, rfl, rfl, hz, hq1, hq2⟩ | ⟨rfl, rfl, rfl, hp2, hcod⟩
    · (try dsimp only); (try k_fold)
      ((repeat' ((fail_if_success (with_reducible show wpAny _ _ (compareOp CmpOp.NotIn _ _) _ _ _)); (first | (k_unfold; (try dsimp only)) | ((with_reducible first | show wpAny _ _ (exec _ _) _ _ _ | show wpAny _ _ (execs _ _) _ _ _); k_fold) | (k_end; wrow_close) | walk1 | (dsimp only; walk1) | (leave1; (try dsimp only))))) <;> (repeat (k_unfold; (try dsimp only))))
      rename Fr _ _ _ _ => F13
      rename News _ _ _ _ => N13
      refine notin_tup (xs := [Str.ofString "end", Str.ofString ""]) (vs := [.str "end" _, .str "" _]) (N13 _ (.head _)).1 rfl rfl (.cons _ _ (.cons _ _ .nil)) (by decide +kernel) (okB q) (by k_units) ?_
      rw [decide_eq_false (blank_end (hz q (.head _)).1), Bool.not_false]
      (try dsimp only)
      have hql := blank_len q
      have hzq := hz q (.head _)
      have hlq : (blank q).length < 220 := hql.symm ▸ hzq.2
      have N14 := cb_drop N13 (fun q hq => List.Mem.tail _ hq)
      clear N13
      obtain ⟨n2, rfl⟩ : ∃ n2, n = n2 + 1 := by
        rcases n with _ | n
        · exact absurd (congrArg Prod.snd hpay) (by simp [payTo])
        · exact ⟨n, rfl⟩
      ((repeat' ((fail_if_success (with_reducible show wpAny _ _ (exec (Stmt.If _ _ _ _) _) _ _ _)); (first | (k_unfold; (try dsimp only)) | ((with_reducible first | show wpAny _ _ (exec _ _) _ _ _ | show wpAny _ _ (execs _ _) _ _ _); k_fold) | (k_end; wrow_close) | walk1 | (dsimp only; walk1) | (leave1; (try dsimp only))))) <;> (repeat (k_unfold; (try dsimp only))))
      refine wpAny_mono (Q := PayMid w a text RO c x y bound f p2 paid D lc (listOf (two x y i1 i2).toArray kc) tb g L' (.str (blank q) tw2) n2 s) ?_ ?_ (fun _ _ e => e)
      · ((repeat' ((fail_if_success (with_reducible show wpAny _ _ (compareOp CmpOp.NotIn _ _) _ _ _)); (fail_if_success (with_reducible show PayMid _ _ _ _ _ _ _ _ _ _ _ _ _ _ _ _ _ _ _ _ _ _)); (first | (k_unfold; (try dsimp only)) | ((with_reducible first | show wpAny _ _ (exec _ _) _ _ _ | show wpAny _ _ (execs _ _) _ _ _); k_fold) | (k_end; wrow_close) | walk1 | (dsimp only; walk1) | (leave1; (try dsimp only))))) <;> (repeat (k_unfold; (try dsimp only))))
        · rename (((blank q).length : Nat) : Int) ≤ _ => hqb
          rw [hql] at hqb
          rename Fr _ _ _ _ => F15
          rename News _ _ _ _ => N15
          refine notin_strs (News.isList N15 (.head _)) hits (okBs pd) (okB q) (by k_units) ?_
          rw [show decide (blank q ∈ pd.map blank) = decide (q ∈ pd) from decide_eq_decide.mpr blank_mem]
          (try dsimp only)
          have hil : its.length < 1100 := by have := hits.length; rw [List.length_map] at this; omega
          obtain ⟨e1, e2, e3, e4, e5, e6⟩ := mach_ne M12 Rd offD
          ((repeat' ((fail_if_success (with_reducible show wpAny _ _ (exec (Stmt.For _ _ _ _ _) _) _ _ _)); (fail_if_success (with_reducible show PayMid _ _ _ _ _ _ _ _ _ _ _ _ _ _ _ _ _ _ _ _ _ _)); (first | (k_unfold; (try dsimp only)) | ((with_reducible first | show wpAny _ _ (exec _ _) _ _ _ | show wpAny _ _ (execs _ _) _ _ _); k_fold) | (k_end; wrow_close) | walk1 | (dsimp only; walk1) | (leave1; (try dsimp only))))) <;> (repeat (k_unfold; (try dsimp only))))
          · rename _ ∈ _ => hqi
            rename Fr _ _ _ _ => F20
            rename News _ _ _ _ => N20
            have hnx : payTo x y bound n2 (pd, qd) = (paid, []) := by rw [payTo, if_neg (fun h => h.2 hqi)] at hpay; exact hpay
            exact ⟨rfl, _, _, pd, its, kP, qd, _, _, rfl, hnx, fun z hz2 => hz z (.tail _ hz2), by omega, by omega, hits, M12, F20, N20⟩
          · rename ¬ _ ∈ _ => hqn
            rename Fr _ _ _ _ => F16
            rename News _ _ _ _ => N16
            refine wpAny_For ?_
            ((repeat' ((fail_if_success (with_reducible show wpAny _ _ (pyIter _) _ _ _)); (first | (k_unfold; (try dsimp only)) | ((with_reducible first | show wpAny _ _ (exec _ _) _ _ _ | show wpAny _ _ (execs _ _) _ _ _); k_fold) | (k_end; wrow_close) | walk1 | (dsimp only; walk1) | (leave1; (try dsimp only))))) <;> (repeat (k_unfold; (try dsimp only))))
            rename Fr _ _ _ _ => F17
            rename News _ _ _ _ => N17
            obtain ⟨k3, N18⟩ : ∃ k3, News g L' _ ([(D, listOf (List.toArray (its ++ [Value.str (blank q) tw2])) k3), (lc, listOf (two x y i1 i2).toArray kc)] ++ (lexObjs w a (.int (c + nlTo text p2) lt2) (.str "\n\t\r " tw3) its2 k2 ++ l2)) := ⟨kP + 1, by rw [List.push_toArray] at N17; exact N17⟩
            have F18 : Fr g L' _ (pym a.x lc bound tb (some (.ref D)) cv2 (some (.str (blank q) tw2))) := F17
            clear F17 N17
            try clear F15 N15
            have hits2 : StrsAre (its ++ [Value.str (blank q) tw2]) ((pd ++ [q]).map blank) := by rw [List.map_append]; exact kct_snoc hits
            have hqdl : qd.length < 2100 := by omega
            refine' for_lst (env := envOf _ _ L' 204 _) (lo := listOf (two x y i1 i2).toArray kc) (its := (two x y i1 i2).toArray) rfl rfl ⟨_, rfl⟩ rfl rfl rfl F18 N18
              (PayJ w a RO (c + nlTo text p2) p2 D lc (listOf (List.toArray (its ++ [Value.str (blank q) tw2])) k3) (listOf (two x y i1 i2).toArray kc) bound tb (qd.map blank) [blank (q + x), blank (q + y)] (some (.str (blank q) tw2))) ?hJ ?h0 ?turn ?done
            case hJ => rintro i m nw ⟨blk, cv, h1, h2, h3⟩; exact h2 _ (.tail _ (.head _))
            case h0 => exact ⟨_, _, by rw [List.take_zero, List.append_nil]; exact M12, fun q hq => hq, fun y => rfl⟩
            case turn =>
              intro i v m₁ news₁ h6 tk6 I oI hv hJ hI F6 N6
              obtain ⟨blk6, cv6, M6, hsub6, hm6⟩ := hJ
              obtain ⟨tz, z, hzx, rfl⟩ := strs_get hst (by simpa using hv)
              obtain ⟨zz, rfl, hz20, htk⟩ : ∃ zz, z = blank zz ∧ zz < 20 ∧ [blank (q + x), blank (q + y)].take (i + 1) = [blank (q + x), blank (q + y)].take i ++ [blank (q + zz)] := by
                rcases i with _ | _ | i
                · exact ⟨x, (Option.some.inj hzx).symm, hx.2, rfl⟩
                · exact ⟨y, (Option.some.inj hzx).symm, hy.2, rfl⟩
                · simp at hzx
              have N7 := News.ins N6 hsub6
              have F7 : Fr g L' h6 (pym a.x lc bound tb (some (.ref D)) (some (.str (blank zz) tz)) (some (.str (blank q) tw2))) := Fr.congr F6 (fun y => by
                (try dsimp only); rw [hm6]; unfold pym; by_cases h : y = "coin"
                · subst h; rfl
                · simp only [if_neg h])
              have hoff : ∀ r ∈ [(I, oI), (D, listOf (List.toArray (its ++ [Value.str (blank q) tw2])) k3), (lc, listOf (two x y i1 i2).toArray kc)], r.1 ∉ a.adrs ++ adr := List.forall_mem_cons.mpr ⟨not_adrs M6 Rd (fun r hr => hI r (hsub6 _ (List.mem_append_right _ hr))), hoffG _ _⟩
              have hIs : ∀ r ∈ [(D, listOf (List.toArray (its ++ [Value.str (blank q) tw2])) k3), (lc, listOf (two x y i1 i2).toArray kc)], r.1 ≠ I := List.forall_mem_cons.mpr ⟨hI _ (hsub6 _ (.head _)), List.forall_mem_cons.mpr ⟨hI _ (hsub6 _ (.tail _ (.head _))), List.forall_mem_nil _⟩⟩
              try clear F18 N18 N6 F6
              obtain ⟨lt6', tw6', k6', l6', its6', hl6', hi6', rfl⟩ := id M6
              simp only [lexObjs, List.cons_append, List.nil_append] at N7
              unfold pym at F7
              (try dsimp only); (try k_fold)
              ((repeat' ((fail_if_success (with_reducible show wpAny _ _ (call (Value.ref 98) _) _ _ _)); (first | ((with_reducible show wpAny _ _ (binaryOp Operator.Add (Value.str _ _) (Value.str _ _)) _ _ _); refine add_Tx rfl (by simp only [List.length_replicate]; omega) ?_; intro _ _) | (k_unfold; (try dsimp only)) | ((with_reducible first | show wpAny _ _ (exec _ _) _ _ _ | show wpAny _ _ (execs _ _) _ _ _); k_fold) | (k_end; wrow_close) | walk1 | (dsimp only; walk1) | (leave1; (try dsimp only))))) <;> (repeat (k_unfold; (try dsimp only))))
              rename Fr _ _ _ _ => F8
              rename News _ _ _ _ => N8
              refine mach_push (aa := [(I, oI), (D, listOf (List.toArray (its ++ [Value.str (blank q) tw2])) k3), (lc, listOf (two x y i1 i2).toArray kc)]) Rd O M6 hoff (by simp; omega) B F8 X N8 T rfl rfl (by k_room) (by k_units) ?_
              intro blk9' h9' tk9' F9' N9' M9'
              clear F8 N8
              (try dsimp only)
              ((repeat' ((fail_if_success (with_reducible show Left _)); (first | (k_unfold; (try dsimp only)) | ((with_reducible first | show wpAny _ _ (exec _ _) _ _ _ | show wpAny _ _ (execs _ _) _ _ _); k_fold) | (k_end; wrow_close) | walk1 | (dsimp only; walk1) | (leave1; (try dsimp only))))) <;> (repeat (k_unfold; (try dsimp only))))
              (try dsimp only)
              unfold Left
              refine ⟨_, _, _, _, rfl, F9', News.outs (aa := [(D, listOf (List.toArray (its ++ [Value.str (blank q) tw2])) k3), (lc, listOf (two x y i1 i2).toArray kc)]) N9', ?_, blk9', some (.str (blank zz) tz), ?_, fun q hq => hq, fun y => rfl⟩
              · intro r hr
                rcases List.mem_append.mp hr with hr | hr
                · exact hIs r hr
                · exact of_adrs M9' Rd (hoff _ (.head _)) r hr
              · rw [htk, ← List.append_assoc]
                rw [List.replicate_append_replicate] at M9'
                exact M9'
            case done =>
              intro m₁ news₁ h6 tk6 hJ F6 N6
              obtain ⟨blk6, cv6, M6, hsub6, hm6⟩ := hJ
              have N7 := cb_drop N6 hsub6
              have F7 := Fr.congr F6 hm6
              try clear F18 N18 F6 N6
              replace M6 : MachSt w a RO (c + nlTo text p2) "\n\t\r " ((qd ++ [q + x, q + y]).map blank) p2 blk6 := by
                rw [show (two x y i1 i2).toArray.size = 2 from rfl] at M6
                rw [List.map_append]; exact M6
              have hqb2 : q ≤ bound := by exact_mod_cast hqb
              have hnx : payTo x y bound n2 (pd ++ [q], qd ++ [q + x, q + y]) = (paid, []) := by rw [payTo, if_pos ⟨hqb2, hqn⟩] at hpay; exact hpay
              have hzz : ∀ z ∈ qd ++ [q + x, q + y], 0 < z ∧ z < 220 := fun z hz2 => by
                rcases List.mem_append.mp hz2 with hz2 | hz2
                · exact hz z (.tail _ hz2)
                · simp only [List.mem_cons, List.not_mem_nil, or_false] at hz2
                  omega
              (try dsimp only)
              ((repeat' ((fail_if_success (with_reducible show PayMid _ _ _ _ _ _ _ _ _ _ _ _ _ _ _ _ _ _ _ _ _ _)); (first | (k_unfold; (try dsimp only)) | ((with_reducible first | show wpAny _ _ (exec _ _) _ _ _ | show wpAny _ _ (execs _ _) _ _ _); k_fold) | (k_end; wrow_close) | walk1 | (dsimp only; walk1) | (leave1; (try dsimp only))))) <;> (repeat (k_unfold; (try dsimp only))))
              exact ⟨rfl, _, _, pd ++ [q], its ++ [Value.str (blank q) tw2], k3, qd ++ [q + x, q + y], _, _, rfl, hnx, hzz, by rw [List.length_append]; simp only [List.length_cons, List.length_nil]; omega, by rw [List.length_append]; simp only [List.length_cons, List.length_nil]; omega, hits2, M6, F7, N7⟩
        · rename ¬ (((blank q).length : Nat) : Int) ≤ _ => hqb
          rw [hql] at hqb
          rename Fr _ _ _ _ => F20
          rename News _ _ _ _ => N20
          have hnx : payTo x y bound n2 (pd, qd) = (paid, []) := by rw [payTo, if_neg (fun h => hqb (by exact_mod_cast h.1))] at hpay; exact hpay
          exact ⟨rfl, _, _, pd, its, kP, qd, _, _, rfl, hnx, fun z hz2 => hz z (.tail _ hz2), by omega, by omega, hits, M12, F20, N20⟩
      · rintro fl s' ⟨rfl, h30, tk30, pd3, its3, kP3, qd3, cv3, blk3, rfl, hnx, hzz, hll, hpl, hit2, M20, F20, N20⟩
        try clear N14 F13 N12 F12
        obtain ⟨lt4, tw4, k4, l4, its4, hl4, hi4, rfl⟩ := id M20
        simp only [lexObjs, List.cons_append, List.nil_append] at N20
        unfold pym at F20
        (try dsimp only)
        ((repeat' ((fail_if_success (with_reducible show wpAny _ _ (call (Value.ref 91) _) _ _ _)); (first | (k_unfold; (try dsimp only)) | ((with_reducible first | show wpAny _ _ (exec _ _) _ _ _ | show wpAny _ _ (execs _ _) _ _ _); k_fold) | (k_end; wrow_close) | walk1 | (dsimp only; walk1) | (leave1; (try dsimp only))))) <;> (repeat (k_unfold; (try dsimp only))))
        rename Fr _ _ _ _ => F20
        rename News _ _ _ _ => N20
        rcases hQ : (qd3) with _ | ⟨q2, r2⟩
        · rw [hQ] at hnx M20
          refine mach_get0 (aa := [(D, listOf (List.toArray (its3)) kP3), (lc, listOf (two x y i1 i2).toArray kc)]) Rd O M20 (hoffG _ _) hp (by omega) B F20 X N20 T rfl rfl (by k_room) (by k_units) ?_
          intro t21 p21 blk21 h21 tk21 hp21 hc21 F21 N21 M21
          rw [hlex] at hc21
          clear F20 N20
          (try dsimp only)
          rw [hlex]
          (try dsimp only)
          ((repeat' ((fail_if_success (with_reducible show Left _)); (first | (k_unfold; (try dsimp only)) | ((with_reducible first | show wpAny _ _ (exec _ _) _ _ _ | show wpAny _ _ (execs _ _) _ _ _); k_fold) | (k_end; wrow_close) | walk1 | (dsimp only; walk1) | (leave1; (try dsimp only))))) <;> (repeat (k_unfold; (try dsimp only))))
          (try dsimp only)
          unfold Left
          rename Fr _ _ _ _ => F22
          rename News _ _ _ _ => N22
          have hpd : pd3 = paid := by
            rcases n2 with _ | n2
            · exact congrArg Prod.fst hnx
            · exact congrArg Prod.fst hnx
          exact ⟨n2, _, _, _, _, Nat.lt_succ_self _, rfl, F22, N22, pd3, its3, kP3, Tx [101, 110, 100], t21, _, [], p21, blk21, .inr ⟨hpd, rfl, rfl, hp21, hc21⟩, hit2, M21, fun q hq => hq, by (intro y; unfold pym; (rcases Classical.em (y = "paid") with rfl | h0); exact rfl; (rcases Classical.em (y = "coin") with rfl | h1); exact rfl; (rcases Classical.em (y = "word") with rfl | h2); exact rfl; (rcases Classical.em (y = "machine") with rfl | h3); exact rfl; (rcases Classical.em (y = "coins") with rfl | h4); exact rfl; (rcases Classical.em (y = "bound") with rfl | h5); exact rfl; (try simp only [if_neg h0, if_neg h1, if_neg h2, if_neg h3, if_neg h4, if_neg h5]); (first | done | exact rfl | (show List.lookup y (_ :: _) = none; simp only [List.lookup, beq_eq_false_iff_ne.mpr h0, beq_eq_false_iff_ne.mpr h1, beq_eq_false_iff_ne.mpr h2, beq_eq_false_iff_ne.mpr h3, beq_eq_false_iff_ne.mpr h4, beq_eq_false_iff_ne.mpr h5]) | (simp only [List.lookup, beq_eq_false_iff_ne.mpr h0, beq_eq_false_iff_ne.mpr h1, beq_eq_false_iff_ne.mpr h2, beq_eq_false_iff_ne.mpr h3, beq_eq_false_iff_ne.mpr h4, beq_eq_false_iff_ne.mpr h5]; done)))⟩
        · rw [hQ] at hnx M20 hzz hll
          refine mach_get1 (aa := [(D, listOf (List.toArray (its3)) kP3), (lc, listOf (two x y i1 i2).toArray kc)]) Rd O M20 (hoffG _ _) (by simp only [List.length_map]; simp only [List.length_cons] at hll; omega) B F20 X N20 T rfl rfl (by k_room) (by k_units) ?_
          intro t21 blk21 h21 tk21 F21 N21 M21
          clear F20 N20
          (try dsimp only)
          ((repeat' ((fail_if_success (with_reducible show Left _)); (first | (k_unfold; (try dsimp only)) | ((with_reducible first | show wpAny _ _ (exec _ _) _ _ _ | show wpAny _ _ (execs _ _) _ _ _); k_fold) | (k_end; wrow_close) | walk1 | (dsimp only; walk1) | (leave1; (try dsimp only))))) <;> (repeat (k_unfold; (try dsimp only))))
          (try dsimp only)
          unfold Left
          rename Fr _ _ _ _ => F22
          rename News _ _ _ _ => N22
          exact ⟨n2, _, _, _, _, Nat.lt_succ_self _, rfl, F22, N22, pd3, its3, kP3, blank q2, t21, _, r2.map blank, _, blk21, .inl ⟨q2, r2, hnx, rfl, rfl, rfl, hzz, by simp only [List.length_cons] at hll; omega, hpl⟩, hit2, M21, fun q hq => hq, by (intro y; unfold pym; (rcases Classical.em (y = "paid") with rfl | h0); exact rfl; (rcases Classical.em (y = "coin") with rfl | h1); exact rfl; (rcases Classical.em (y = "word") with rfl | h2); exact rfl; (rcases Classical.em (y = "machine") with rfl | h3); exact rfl; (rcases Classical.em (y = "coins") with rfl | h4); exact rfl; (rcases Classical.em (y = "bound") with rfl | h5); exact rfl; (try simp only [if_neg h0, if_neg h1, if_neg h2, if_neg h3, if_neg h4, if_neg h5]); (first | done | exact rfl | (show List.lookup y (_ :: _) = none; simp only [List.lookup, beq_eq_false_iff_ne.mpr h0, beq_eq_false_iff_ne.mpr h1, beq_eq_false_iff_ne.mpr h2, beq_eq_false_iff_ne.mpr h3, beq_eq_false_iff_ne.mpr h4, beq_eq_false_iff_ne.mpr h5]) | (simp only [List.lookup, beq_eq_false_iff_ne.mpr h0, beq_eq_false_iff_ne.mpr h1, beq_eq_false_iff_ne.mpr h2, beq_eq_false_iff_ne.mpr h3, beq_eq_false_iff_ne.mpr h4, beq_eq_false_iff_ne.mpr h5]; done)))⟩
    · (try dsimp only); (try k_fold)
      ((repeat' (first | (k_unfold; (try dsimp only)) | ((with_reducible first | show wpAny _ _ (exec _ _) _ _ _ | show wpAny _ _ (execs _ _) _ _ _); k_fold) | (k_end; wrow_close) | walk1 | (dsimp only; walk1) | (leave1; (try dsimp only)))) <;> (repeat (k_unfold; (try dsimp only))))
      (try dsimp only)
      rename Fr _ _ _ _ => F13
      rename News _ _ _ _ => N13
      refine ret _ _ _ _ F13.keep (fun r hr => ⟨(N13 r (.tail _ hr)).1, (N13 r (.tail _ hr)).2.2⟩) ⟨D, its, kP, _, p2, rfl, hits, hp2, hcod, M12, offD, hDlc.symm, rfl⟩
noncomputable def paidOf (a b : Nat) : List Nat := (payTo a b (a * b) 400 ([0], [a, b])).1
noncomputable def lackOf (a b : Nat) : List Nat := (List.range (a * b + 1)).filter fun x => decide (x ∉ paidOf a b)
noncomputable def quoOf (a b : Nat) : Nat := (2 ^ (a * b) - 1) / ((2 ^ a - 1) * (2 ^ b - 1))
noncomputable def lenM (a b : Nat) : Nat := (Builtin.Int.intBits ((quoOf a b - 1 : Nat) : Int) + 1 - 1) / 1
noncomputable def marksOf (a b : Nat) : List Int := digsOf 1 (lenM a b) (quoOf a b - 1)
noncomputable def onesOf (a b : Nat) : List Nat := (List.range (lenM a b)).filter fun x => decide ((marksOf a b).getD x 0 = 1)
/-- what law asks of the two coins -/
structure Ok3 (a b : Nat) : Prop where
  hb : 2 ≤ b ∧ b < 9
  div : divs a b = []
  pay : (payTo a b (a * b) 400 ([0], [a, b])).2 = []
  plen : (paidOf a b).length < 300
  pmax : ∀ q ∈ paidOf a b, q < 100
  pa : ∀ r, r < a → pickL (paidOf a b) a r ≠ []
  pb : ∀ r, r < b → pickL (paidOf a b) b r ≠ []
  rest : (2 ^ (a * b) - 1) % ((2 ^ a - 1) * (2 ^ b - 1)) = 0
  quo : 1 ≤ quoOf a b ∧ quoOf a b < 2 ^ 59 ∧ 2 ^ (a * b) < 2 ^ 59
  len : lenM a b ≤ 60 ∧ lenM a b + a + b = a * b + 1
  ones : lackOf a b = onesOf a b
  half : 2 * (lackOf a b).length = (a - 1) * (b - 1)
  rev : (marksOf a b).map (fun x => 1 - x) = (marksOf a b).reverse
  toldA : told (shortest (paidOf a b) a) b (lackOf a b).length = true
  toldB : told (shortest (paidOf a b) b) a (lackOf a b).length = true
  smax : ∀ q ∈ shortest (paidOf a b) a ++ shortest (paidOf a b) b, q < 100
  sums : ∀ x, x < 60 → (x < (shortest (paidOf a b) b).getD (x % b) 0 ↔ x ∈ lackOf a b)
noncomputable def ok3 (a b : Nat) : Bool :=
  decide (2 ≤ b ∧ b < 9) && decide (divs a b = []) && decide ((payTo a b (a * b) 400 ([0], [a, b])).2 = []) && decide ((paidOf a b).length < 300) && decide (∀ q ∈ paidOf a b, q < 100) &&
  decide (∀ r ∈ List.range a, pickL (paidOf a b) a r ≠ []) && decide (∀ r ∈ List.range b, pickL (paidOf a b) b r ≠ []) && decide ((2 ^ (a * b) - 1) % ((2 ^ a - 1) * (2 ^ b - 1)) = 0) && decide (1 ≤ quoOf a b ∧ quoOf a b < 2 ^ 59 ∧ 2 ^ (a * b) < 2 ^ 59) &&
  decide (lenM a b ≤ 60 ∧ lenM a b + a + b = a * b + 1) && decide (lackOf a b = onesOf a b) && decide (2 * (lackOf a b).length = (a - 1) * (b - 1)) && decide ((marksOf a b).map (fun x => 1 - x) = (marksOf a b).reverse) &&
  told (shortest (paidOf a b) a) b (lackOf a b).length && told (shortest (paidOf a b) b) a (lackOf a b).length && decide (∀ q ∈ shortest (paidOf a b) a ++ shortest (paidOf a b) b, q < 100) &&
  decide (∀ x ∈ List.range 60, (x < (shortest (paidOf a b) b).getD (x % b) 0 ↔ x ∈ lackOf a b))
theorem ok3_of {a b : Nat} (h : ok3 a b = true) : Ok3 a b := by
  unfold ok3 at h
  simp only [Bool.and_eq_true, decide_eq_true_eq] at h
  obtain ⟨⟨⟨⟨⟨⟨⟨⟨⟨⟨⟨⟨⟨⟨⟨⟨h1, h2⟩, h3⟩, h4⟩, h5⟩, h6⟩, h7⟩, h8⟩, h9⟩, h10⟩, h11⟩, h12⟩, h13⟩, h14⟩, h15⟩, h16⟩, h17⟩ := h
  exact ⟨h1, h2, h3, h4, h5, fun r hr => h6 r (List.mem_range.mpr hr), fun r hr => h7 r (List.mem_range.mpr hr), h8, h9, h10, h11, h12, h13, h14, h15, h16, fun x hx => h17 x (List.mem_range.mpr hx)⟩
theorem ok3_all : ([2, 3, 4, 5, 6, 7].all fun a => [2, 3, 4, 5, 6, 7].all fun c => ok3 a (freeOf a 20 c)) = true := by decide +kernel
theorem two_seven : ∀ x : Nat, 2 ≤ x ∧ x ≤ 7 → x ∈ [2, 3, 4, 5, 6, 7]
  | 0, h => absurd h.1 (by decide)
  | 1, h => absurd h.1 (by decide)
  | 2, _ => .head _
  | 3, _ => .tail _ (.head _)
  | 4, _ => .tail _ (.tail _ (.head _))
  | 5, _ => .tail _ (.tail _ (.tail _ (.head _)))
  | 6, _ => .tail _ (.tail _ (.tail _ (.tail _ (.head _))))
  | 7, _ => .tail _ (.tail _ (.tail _ (.tail _ (.tail _ (.head _)))))
  | n + 8, h => absurd h.2 (Nat.not_le_of_lt (Nat.le_add_left 8 n))
theorem ok3_at {a c : Nat} (h1 : 2 ≤ a ∧ a ≤ 7) (h2 : 2 ≤ c ∧ c ≤ 7) : Ok3 a (freeOf a 20 c) := by
  exact ok3_of (List.all_eq_true.mp (List.all_eq_true.mp ok3_all a (two_seven a h1)) c (two_seven c h2))
open LCg
section
variable {prog : Program} {w : World} {A : Around} {E : Value → Shared → Prop} {s : Shared} {h₀ : Heap} {L : Addr} {m : Str → Option Value} {env : Env}
/-- a list of so much room -/
noncomputable abbrev lstK (vs : List Value) (n : Nat) : Obj := { cls := .type "list", data := .seq vs.toArray n }
/-- what a turn of a comprehension over zip leaves -/
noncomputable def ZTurn (prog : Program) (w : World) (A : Around) (h₀ : Heap) (L : Addr) (m : Str → Option Value) (env : Env) (elt : Expr) (x x₂ : Str) (scope : Scope) (cl : List (Str × Addr)) (s : Shared) (xs ys : List Value) (NW : List (Addr × Obj)) (J : Nat → List Value → Prop) : Prop :=
  ∀ i zs v₁ v₂ its C oC D m₂ h tk (E' : Value → Shared → Prop), J i zs → xs[i]? = some v₁ → ys[i]? = some v₂ → NsObj oC m₂ → m₂ x = some v₁ → m₂ x₂ = some v₂ → Fr h₀ L h m → News h₀ L h ((C, oC) :: (D, lst zs) :: (NW ++ its)) →
    wpAny (model prog w) A (eval elt (compEnvC scope cl C env)) (fun y s' => ∃ h' tk', s' = { s with heap := h', toks := tk' } ∧ Fr h₀ L h' m ∧ News h₀ L h' ((C, oC) :: (D, lst zs) :: (NW ++ its)) ∧ J (i + 1) (zs ++ [y])) E' { s with heap := h, toks := tk }
noncomputable def ZSrc (prog : Program) (w : World) (A : Around) (E : Value → Shared → Prop) (h₀ : Heap) (L : Addr) (m : Str → Option Value) (env : Env) (elt : Expr) (x x₂ : Str) (scope : Scope) (cl : List (Str × Addr)) (Q : Value → Shared → Prop) (xv : Value) (s₁ : Shared) : Prop :=
  wpAny (model prog w) A (pyIter xv) (fun it s₂ => ∃ Z fp wr n St Mid xs ys NW J, it = .ref Z ∧ WalksT prog w A Z fp wr n (fun i vals => ∃ x y, xs.toArray[i]? = some x ∧ ys.toArray[i]? = some y ∧ vals = #[x, y]) St Mid ∧ n ≤ sizeLine ∧ A.handled = none ∧ St 0 s₂.heap ∧
    (∀ b ∈ fp, b < s₂.heap.objs.size) ∧ (∃ ex : List Addr, (∀ i h, St i h → ∀ b ∈ ex ++ wr, ∃ o, h.get? b = some o) ∧ (∀ b ∈ ex ++ wr, h₀.get? b = none ∧ b ≠ L ∧ ∀ p ∈ NW, p.1 ≠ b) ∧ (∀ b ∈ fp, b ∈ ex ++ wr ∨ ∃ o, (b, o) ∈ NW) ∧ (∀ b ∈ wr, b ∈ fp)) ∧
    Fr h₀ L s₂.heap m ∧ News h₀ L s₂.heap NW ∧ J 0 [] ∧ (∀ h, ZTurn prog w A h₀ L m env elt x x₂ scope cl { s₂ with heap := h } xs ys NW J) ∧
    (∀ zs D h tk, J n zs → Fr h₀ L h m → News h₀ L h ((D, lst zs) :: NW) → (∀ q ∈ NW, q.1 ≠ D) → Q (.ref D) { s₂ with heap := h, toks := tk })) E s₁
theorem its_of {h : Heap} : ∀ l : List Addr, (∀ b ∈ l, ∃ o, h.get? b = some o) → ∃ its : List (Addr × Obj), its.map Prod.fst = l ∧ ∀ p ∈ its, h.get? p.1 = some p.2
  | [], _ => ⟨[], rfl, fun _ h => nomatch h⟩
  | b :: r, hb => by
    obtain ⟨o, e⟩ := hb b (.head _)
    obtain ⟨its, h1, h2⟩ := its_of r fun c hc => hb c (.tail _ hc)
    exact ⟨(b, o) :: its, by rw [List.map_cons, h1], List.forall_mem_cons.mpr ⟨e, h2⟩⟩
theorem ListComp_zip {elt iter : Expr} {x x₂ : Str} {px px₂ tp : Pos} {tk} {scope : Scope} {cl : List (Str × Addr)} {pos : Pos} {Q : Value → Shared → Prop} (_F₀ : Fr h₀ L s.heap m)
    (hclos : closureFor scope env = pure cl) (hcell : ∀ y ∈ scope.names, y.2 ≠ .cell) (hkind : scope.kind = .function)
    (hnames : ∀ y ∈ scope.names, y.2 = .local → scope.names.lookup y.1 = some .local) (hx : scope.names.lookup x = some .local) (hx₂ : scope.names.lookup x₂ = some .local) (hxx : x ≠ x₂)
    (h : wpAny (model prog w) A (eval iter env) (ZSrc prog w A E h₀ L m env elt x x₂ scope cl Q) E s)
    (hs : ∀ x, foldedSetIterable iter env x = pure x := by intro _; rfl) :
    wpAny (model prog w) A (eval (.ListComp elt [⟨.Tuple [.Name x px, .Name x₂ px₂] tk tp, iter, [], 0⟩] scope pos) env) Q E s := by
  rw [eval_ListComp]
  refine wpAny_comprehension_free (use := none) rfl hs hclos hkind hnames (wpAny_mono h (fun xv s₁ h₁ => wpAny_mono h₁ (fun it s₂ h₂ => ?_) fun _ _ e => e) fun _ _ e => e)
  obtain ⟨Z, fp, wr, n, St, Mid, xs, ys, NW, J, rfl, W, hsz, hh, hst, hfp, ⟨ex, hex, hexo, hfpx, hwr⟩, F, N, hJ0, turn, done⟩ := h₂
  refine wpAny_newObj_type (wpAny_newFunctionEnv hcell (by intro y hy; simp at hy) (fun h₁ hns₁ hsb₁ => ?_) hkind)
  dsimp only at hns₁ hsb₁ ⊢
  generalize hH2 : s₂.heap.push { cls := .type "list", dict := none, data := .seq ([] : List Value).toArray } = H2 at hns₁ hsb₁ ⊢
  obtain ⟨D, hD⟩ : ∃ D, D = s₂.heap.objs.size := ⟨_, rfl⟩
  have hC : H2.objs.size = D + 1 := by rw [← hH2, Heap.size_push, hD]
  rw [← hD]
  rw [hC] at hns₁ hsb₁ ⊢
  rw [← hD] at hfp
  have nDC : @Ne Nat D (D + 1) := Nat.ne_of_lt (Nat.lt_succ_self _)
  have lo : ∀ b : Nat, b < D → @Ne Nat b D ∧ @Ne Nat b (D + 1) := fun b hb => ⟨Nat.ne_of_lt hb, Nat.ne_of_lt (Nat.lt_succ_of_lt hb)⟩
  have old : ∀ b o, s₂.heap.get? b = some o → h₁.get? b = some o := fun b o e => hsb₁.extBut b o (lo b (hD ▸ Heap.lt_size e)).2 (Heap.get?_push_of_some _ (hH2 ▸ Heap.get?_push_of_some _ e))
  have hacc : h₁.get? D = some (lst []) := hsb₁.extBut _ _ nDC (Heap.get?_push_of_some _ (by rw [← hH2, hD]; exact Heap.get?_push_size _ rfl))
  have fresh₀ : ∀ a, D ≤ a → h₀.get? a = none := fun a ha => by
    cases e : h₀.get? a with
    | none => rfl
    | some o' => exact absurd (Heap.lt_size (F.keep a o' e)) (Nat.not_lt.mpr (hD ▸ ha))
  have hLlt : L < D := hD ▸ F.ns.lt
  have fD : h₀.get? D = none := fresh₀ _ (Nat.le_refl _)
  have fC : h₀.get? (D + 1) = none := fresh₀ _ (Nat.le_succ _)
  have nDL : D ≠ L := Nat.ne_of_gt hLlt
  have nCL : D + 1 ≠ L := Nat.ne_of_gt (Nat.lt_succ_of_lt hLlt)
  have offN : ∀ q ∈ NW, q.1 < D := fun q hq => hD ▸ Heap.lt_size (N q hq).1
  have hst₁ : St 0 h₁ := W.frame _ _ _ hst fun b _ o e => old b o e
  have exlt : ∀ b ∈ ex ++ wr, b < D := fun b hb => by
    obtain ⟨o, e⟩ := hex _ _ hst b hb
    exact hD ▸ Heap.lt_size e
  have wx : ∀ b ∈ wr, b ∈ ex ++ wr := fun b hb => List.mem_append_right _ hb
  have fr' : ∀ {h h' : Heap}, Fr h₀ L h m → (∀ b o, b ∉ wr → h.get? b = some o → h'.get? b = some o) → Fr h₀ L h' m := fun F' k => ⟨F'.ns.at' fun o e => k L o (fun hb => (hexo L (wx _ hb)).2.1 rfl) e, fun b o e => k b o (fun hb => by rw [(hexo b (wx _ hb)).1] at e; cases e) (F'.keep b o e), F'.above⟩
  have nw' : ∀ {h h' : Heap}, News h₀ L h NW → (∀ b o, b ∉ wr → h.get? b = some o → h'.get? b = some o) → News h₀ L h' NW := fun N' k p hp => ⟨k _ _ (fun hb => (hexo _ (wx _ hb)).2.2 p hp rfl) (N' p hp).1, (N' p hp).2⟩
  have wD : ∀ b : Nat, D ≤ b → b ∉ wr := fun b hb hm => Nat.not_lt.mpr hb (exlt b (wx b hm))
  have loop : ∀ s₃ : Shared, s₃ = { s₂ with heap := h₁, toks := s₂.toks + ([] : List (Str × Value)).length } →
      codeAny (model prog w) A (.compLoop (.ListComp elt [⟨.Tuple [.Name x px, .Name x₂ px₂] tk tp, iter, [], 0⟩] scope pos) 0 (.ref Z) (.ref D) (compEnvC scope cl (D + 1) env))
        (compPost (model prog w) A E none Q (.ref D) (D + 1)) s₃ := by
    rintro s₃ rfl
    refine LCp.codeAny_compLoop_pair
      (fun k s' => ∃ h' tk i zs m', s' = { s₂ with heap := h', toks := tk } ∧ i ≤ n ∧ k = n + 1 - i ∧ zs.length = i ∧ St i h' ∧ Fr h₀ L h' m ∧ h'.Ns (D + 1) m' ∧ h'.get? D = some (lst zs) ∧ News h₀ L h' NW ∧ J i zs) ?_ (n + 1)
      ⟨h₁, _, 0, [], _, rfl, Nat.zero_le _, rfl, rfl, hst₁, F.keeps old, hns₁, hacc, fun p hp => ⟨old _ _ (N p hp).1, (N p hp).2⟩, hJ0⟩
    rintro k s' ⟨h', tk', i, zs, m', rfl, hi, rfl, hzl, hst', F', hn', hd', N', hJ⟩
    by_cases hlt : i < n
    · refine W.item i _ _ _ hlt hst' fun T vals h₂ tk₂ hPt _ hT hMid hk₂ => ?_
      obtain ⟨v₁, v₂, hv1, hv2, rfl⟩ := hPt
      refine W.go _ _ _ i T _ _ _ hMid fun h₃ hst₃ hk₃ => ?_
      have ht : IsTup h₃ T #[v₁, v₂] := by
        obtain ⟨o, e, r⟩ := hT
        exact ⟨o, hk₃ _ _ (W.apart _ _ _ hMid) e, r⟩
      refine assign_Tuple_tuple hh ht rfl rfl fun h₅ he => ?_
      have he' : ∀ b o, h₃.get? b = some o → h₅.get? b = some o := fun b o e => he b o (Nat.ne_of_lt (Heap.lt_size e)) e
      have k5 : ∀ b o, b ∉ wr → h'.get? b = some o → h₅.get? b = some o := fun b o hb e => he' b o (hk₃ b o hb (hk₂ b o hb e))
      refine assignInOrder_cons (wpAny_assign_Name (wpAny_storeName_local (lookup_relabel_local hx) (hn'.at' fun o e => k5 _ o (wD _ (Nat.le_succ _)) e) (fun h₆ hn₆ hs₆ => ?_) (by simp [compEnvC, relabel, hkind])))
      refine assignInOrder_cons (wpAny_assign_Name (wpAny_storeName_local (lookup_relabel_local hx₂) hn₆ (fun h₇ hn₇ hs₇ => ?_) (by simp [compEnvC, relabel, hkind])))
      refine assignInOrder_nil ?_
      have old7 : ∀ b o, b ≠ D + 1 → h₅.get? b = some o → h₇.get? b = some o := fun b o hb e => hs₇.extBut b o hb (hs₆.extBut b o hb e)
      have hst₇ : St (i + 1) h₇ := W.frame _ _ _ hst₃ fun b hb o e => old7 b o (lo b (hfp b hb)).2 (he' b o e)
      obtain ⟨oC, heC, hoC⟩ := ns_obj hn₇
      have F₇ : Fr h₀ L h₇ m := ((fr' F' k5).change hs₆ nCL fC).change hs₇ nCL fC
      obtain ⟨its, hits, hito⟩ := its_of (ex ++ wr) (hex _ _ hst₇)
      have itm : ∀ p ∈ its, p.1 ∈ ex ++ wr := fun p hp => hits ▸ List.mem_map_of_mem hp
      have N₇ : News h₀ L h₇ ((D + 1, oC) :: (D, lst zs) :: (NW ++ its)) := fun p hp => by
        rcases List.mem_cons.mp hp with rfl | hp
        · exact ⟨heC, nCL, fC⟩
        · rcases List.mem_cons.mp hp with rfl | hp
          · exact ⟨old7 _ _ nDC (k5 _ _ (wD _ (Nat.le_refl _)) hd'), nDL, fD⟩
          · rcases List.mem_append.mp hp with hp | hp
            · exact ⟨old7 _ _ (lo _ (offN p hp)).2 (nw' N' k5 p hp).1, (N p hp).2⟩
            · exact ⟨hito p hp, (hexo _ (itm p hp)).2.1, (hexo _ (itm p hp)).1⟩
      refine wpAny_mono (turn s₂.heap i zs v₁ v₂ its (D + 1) oC D _ h₇ _ _ hJ (by simpa using hv1) (by simpa using hv2) hoC (by simp [hxx]) (by simp) F₇ N₇) (fun y s₄ h₄ => ?_) fun _ _ e => e
      obtain ⟨h₈, tk₈, rfl, F₈, N₈, hJ8⟩ := h₄
      have zC := (N₈ (D + 1, oC) (.head _)).1
      have zD := (N₈ (D, lst zs) (.tail _ (.head _))).1
      have N₈' : ∀ p ∈ NW ++ its, h₈.get? p.1 = some p.2 := fun p hp => (N₈ p (.tail _ (.tail _ hp))).1
      have hst₈ : St (i + 1) h₈ := W.frame _ _ _ hst₇ fun b hb o e => by
        rcases hfpx b hb with hb2 | ⟨o2, hb2⟩
        · obtain ⟨p, hp, rfl⟩ : ∃ p ∈ its, p.1 = b := List.mem_map.mp (hits ▸ hb2 : b ∈ its.map Prod.fst)
          rw [N₈' p (List.mem_append_right _ hp), ← hito p hp, e]
        · have e2 := (N₇ (b, o2) (.tail _ (.tail _ (List.mem_append_left _ hb2)))).1
          rw [N₈' (b, o2) (List.mem_append_left _ hb2), ← e2, e]
      refine append_at (hsz := by show zs.toArray.size ≤ sizeLine; rw [List.size_toArray, hzl]; exact Nat.le_trans hi hsz) zD fun h₉ hs₉ hD₉ => ?_
      refine ⟨n + 1 - (i + 1), turn_lt hlt, h₉, _, i + 1, zs ++ [y], _, rfl, hlt, rfl, by rw [List.length_append, List.length_singleton, hzl], W.frame _ _ _ hst₈ fun b hb o e => hs₉.extBut b o (lo b (hfp b hb)).1 e, F₈.change hs₉ nDL fD,
        (hoC.ns zC).at' fun o e => hs₉.extBut _ o nDC.symm e, hD₉.trans (congrArg some (lst_snoc zs y)), fun p hp => ⟨hs₉.extBut _ _ (lo _ (offN p hp)).1 (N₈' p (List.mem_append_left _ hp)), (N p hp).2⟩, hJ8⟩
    · obtain rfl : i = n := Nat.le_antisymm hi (Nat.not_lt.mp hlt)
      refine W.done _ _ _ hst' fun h₂ tk₂ hk₂ => ?_
      refine ⟨m', hn'.at' fun o e => hk₂ _ o (wD _ (Nat.le_succ _)) e, fun h'' hs'' => done zs D h'' tk₂ hJ ((fr' F' hk₂).change hs'' nCL fC) (fun p hp => ?_) (fun q hq => (lo _ (offN q hq)).1)⟩
      rcases List.mem_cons.mp hp with rfl | hp
      · exact ⟨hs''.extBut _ _ nDC (hk₂ _ _ (wD _ (Nat.le_refl _)) hd'), nDL, fD⟩
      · exact ⟨hs''.extBut _ _ (lo _ (offN p hp)).2 (nw' N' hk₂ p hp).1, (N p hp).2⟩
  exact codeAny_compStart_list (loop _ rfl) (W.self 0 _ _ _ hst₁ (loop _ rfl))
theorem zip_src {elt : Expr} {x x₂ : Str} {scope : Scope} {cl : List (Str × Addr)} {Q : Value → Shared → Prop} {l1 l2 : Addr} {xs ys : List Value} {n1 n2 : Nat} {NW : List (Addr × Obj)} {J : Nat → List Value → Prop}
    (hh : A.handled = none) (F : Fr h₀ L s.heap m) (N : News h₀ L s.heap NW) (hm1 : (l1, lstK xs n1) ∈ NW) (hm2 : (l2, lstK ys n2) ∈ NW) (hsz : min xs.length ys.length ≤ sizeLine) (h0 : J 0 [])
    (turn : ∀ h, ZTurn prog w A h₀ L m env elt x x₂ scope cl { s with heap := h } xs ys NW J)
    (done : ∀ zs D h tk, J (min xs.length ys.length) zs → Fr h₀ L h m → News h₀ L h ((D, lst zs) :: NW) → (∀ q ∈ NW, q.1 ≠ D) → Q (.ref D) { s with heap := h, toks := tk }) :
    wpAny (model prog w) A (call (.type "zip") [.ref l1, .ref l2]) (ZSrc prog w A E h₀ L m env elt x x₂ scope cl Q) E s := by
  have hax1 := N _ hm1
  have hax2 := N _ hm2
  have hl1 : s.heap.IsList l1 xs.toArray := ⟨_, hax1.1, rfl, n1, rfl⟩
  have hl2 : s.heap.IsList l2 ys.toArray := ⟨_, hax2.1, rfl, n2, rfl⟩
  have hlt1 : l1 < s.heap.objs.size := Heap.lt_size hax1.1
  have hlt2 : l2 < s.heap.objs.size := Heap.lt_size hax2.1
  have hLs : L < s.heap.objs.size := F.ns.lt
  have D := ktu_apart _ _ _ hlt1 hlt2
  refine call_zip_2 hl1 hl2 fun h' hz hTI hTO hi1 hi2 hsz' hk => ?_
  refine wpAny_pyIter_zip hz ?_
  refine ⟨_, _, _, _, _, _, xs, ys, NW, J, rfl, WalksT.zip2 hh _ _ _ _ _ _ _ D xs.toArray ys.toArray, by simpa using hsz, hh, ⟨hz, hTI, ⟨_, _, hTO⟩, hi1, hi2, hl1.at fun o e => hk l1 o e, hl2.at fun o e => hk l2 o e⟩, ?_, ⟨[s.heap.objs.size + 2], ?_, ?_, ?_, ?_⟩, F.keeps hk, N.grown hk, h0, fun h => turn h, fun zs D h tk hJ F' N' off => done zs D h tk (by simpa using hJ) F' N' off⟩
  · intro b hb
    have hb' : b = s.heap.objs.size + 4 ∨ b = s.heap.objs.size + 2 ∨ b = s.heap.objs.size + 3 ∨ b = s.heap.objs.size ∨ b = s.heap.objs.size + 1 ∨ b = l1 ∨ b = l2 := by simpa using hb
    show b < h'.objs.size
    rw [hsz']
    have q1 : l1 < s.heap.objs.size + 5 := Nat.lt_of_lt_of_le hlt1 (Nat.le_add_right _ _)
    have q2 : l2 < s.heap.objs.size + 5 := Nat.lt_of_lt_of_le hlt2 (Nat.le_add_right _ _)
    rcases hb' with rfl | rfl | rfl | rfl | rfl | rfl | rfl
    · exact Nat.add_lt_add_left (by decide) _
    · exact Nat.add_lt_add_left (by decide) _
    · exact Nat.add_lt_add_left (by decide) _
    · exact Nat.lt_add_of_pos_right (by decide)
    · exact Nat.add_lt_add_left (by decide) _
    · exact q1
    · exact q2
  · rintro i h ⟨hz, hTI, ⟨a, b, hTO⟩, ⟨o1, ho1, _⟩, ⟨o2, ho2, _⟩, _⟩ c hc
    have hc' : c = s.heap.objs.size + 2 ∨ c = s.heap.objs.size + 4 ∨ c = s.heap.objs.size + 3 ∨ c = s.heap.objs.size ∨ c = s.heap.objs.size + 1 := by simpa using hc
    rcases hc' with rfl | rfl | rfl | rfl | rfl
    · exact ⟨_, hTI⟩
    · exact ⟨_, hz⟩
    · exact ⟨_, hTO⟩
    · exact ⟨_, ho1⟩
    · exact ⟨_, ho2⟩
  · intro c hc
    have hc' : ∃ k : Nat, c = s.heap.objs.size + k := by
      have : c = s.heap.objs.size + 2 ∨ c = s.heap.objs.size + 4 ∨ c = s.heap.objs.size + 3 ∨ c = s.heap.objs.size ∨ c = s.heap.objs.size + 1 := by simpa using hc
      rcases this with h | h | h | h | h
      · exact ⟨2, h⟩
      · exact ⟨4, h⟩
      · exact ⟨3, h⟩
      · exact ⟨0, h⟩
      · exact ⟨1, h⟩
    obtain ⟨k, rfl⟩ := hc'
    exact ⟨ktu_new F (Nat.le_add_right _ _), (ktu_ne k hLs).symm, fun p hp => ktu_ne k (Heap.lt_size (N p hp).1)⟩
  · intro b hb
    have hb' : b = s.heap.objs.size + 4 ∨ b = s.heap.objs.size + 2 ∨ b = s.heap.objs.size + 3 ∨ b = s.heap.objs.size ∨ b = s.heap.objs.size + 1 ∨ b = l1 ∨ b = l2 := by simpa using hb
    rcases hb' with rfl | rfl | rfl | rfl | rfl | rfl | rfl
    · exact .inl (by simp)
    · exact .inl (by simp)
    · exact .inl (by simp)
    · exact .inl (by simp)
    · exact .inl (by simp)
    · exact .inr ⟨_, hm1⟩
    · exact .inr ⟨_, hm2⟩
  · intro b hb
    have hb' : b = s.heap.objs.size + 4 ∨ b = s.heap.objs.size + 3 ∨ b = s.heap.objs.size ∨ b = s.heap.objs.size + 1 := by simpa using hb
    rcases hb' with rfl | rfl | rfl | rfl <;> simp
end
/-- the locals of law -/
noncomputable def wl3 (script totals a text machine coins greatest over bya sums needed : Option Value) : Str → Option Value :=
  fun y => if y = "script" then script else if y = "totals" then totals else if y = "a" then a else if y = "text" then text else if y = "machine" then machine else if y = "coins" then coins else if y = "greatest" then greatest
    else if y = "over" then over else if y = "by_a" then bya else if y = "sums" then sums else if y = "needed" then needed else none
/-- Whitespaces of so many blanks -/
noncomputable def LeadsAt (w : World) (vs : List Value) (q : Nat → Nat) (n : Nat) (bl : List (Addr × Obj)) : Prop :=
  vs.length = n ∧ ∀ i, i < n → ∃ x b, vs[i]? = some (.ref x) ∧ WsAt w x (wsOf (List.replicate (q i) 32)) b ∧ ∀ r ∈ b, r ∈ bl
theorem LeadsAt.nil {w : World} {q : Nat → Nat} : LeadsAt w [] q 0 [] := ⟨rfl, fun i h => absurd h (Nat.not_lt_zero i)⟩
theorem LeadsAt.snoc {w : World} {vs : List Value} {q : Nat → Nat} {n : Nat} {bl b : List (Addr × Obj)} {x : Addr} (H : LeadsAt w vs q n bl) (W : WsAt w x (wsOf (List.replicate (q n) 32)) b) : LeadsAt w (vs ++ [.ref x]) q (n + 1) (b ++ bl) := by
  refine ⟨by rw [List.length_append, H.1]; rfl, fun i hi => ?_⟩
  by_cases h : i < n
  · obtain ⟨y, c, h1, h2, h3⟩ := H.2 i h
    exact ⟨y, c, by rw [List.getElem?_append_left (by rw [H.1]; exact h)]; exact h1, h2, fun r hr => List.mem_append_right _ (h3 r hr)⟩
  · obtain rfl : i = n := by omega
    exact ⟨x, b, by rw [List.getElem?_append_right (by rw [H.1]; exact Nat.le_refl _), H.1, Nat.sub_self]; rfl, W, fun r hr => List.mem_append_left _ hr⟩
theorem ints_at {vs : List Value} {xs : List Int} (h : IntsAre vs xs) {i : Nat} {v : Value} (hv : vs[i]? = some v) : ∃ t x, xs[i]? = some x ∧ v = .int x t := by
  induction h generalizing i with
  | nil => simp at hv
  | cons a t h ih =>
    cases i with
    | zero => simp at hv; exact ⟨t, a, rfl, hv.symm⟩
    | succ i => simpa using ih (by simpa using hv)
/-- the sums asked for -/
noncomputable def sumsOf (a b : Nat) (ns : List Int) : List Nat := (a * b - a - b) :: ((List.take (min 5 ns.length - 3) (List.drop 3 ns)).map fun x => (x.fmod 50).toNat)
theorem fmod50 (x : Int) : x.fmod 50 = (((x.fmod 50).toNat : Nat) : Int) := by
  rw [Int.fmod_eq_emod_of_nonneg _ (by decide)]
  omega
theorem fmod50_lt (x : Int) : (x.fmod 50).toNat < 60 := by
  rw [Int.fmod_eq_emod_of_nonneg _ (by decide)]
  omega
theorem sums_len (a b : Nat) (ns : List Int) : (sumsOf a b ns).length ≤ 3 := by
  unfold sumsOf
  rw [List.length_cons, List.length_map, List.length_take]
  exact Nat.succ_le_succ (Nat.le_trans (Nat.min_le_left _ _) (Nat.sub_le_sub_right (Nat.min_le_left _ _) 3))
theorem sums_lt {a b : Nat} (ha : a ≤ 7) (hb : 2 ≤ b ∧ b < 9) (ns : List Int) : ∀ x ∈ sumsOf a b ns, x < 60 := fun x hx => by
  unfold sumsOf at hx
  rcases List.mem_cons.mp hx with rfl | hx
  · have : a * b ≤ 7 * 8 := Nat.mul_le_mul ha (by omega)
    omega
  · obtain ⟨y, _, rfl⟩ := List.mem_map.mp hx
    exact fmod50_lt y
section
variable {prog : Program} {w : World} {A : Around} {E : Value → Shared → Prop} {s : Shared} {l : Addr} {vs : List Value} {ns : List Nat} {u : Tok} {Q : Value → Shared → Prop}
theorem strs_get' {vs : List Value} {xs : List Str} (h : StrsAre vs xs) {i : Nat} {x : Str} (hx : xs[i]? = some x) : ∃ t, vs[i]? = some (.str x t) := by
  induction h generalizing i with
  | nil => simp at hx
  | cons a t h ih =>
    cases i with
    | zero => simp at hx; exact ⟨t, by simp [hx]⟩
    | succ i => simpa using ih (by simpa using hx)
theorem sub_blank {value slice : Expr} {k : Nat} (hl : s.heap.IsList l vs.toArray) (hi : StrsAre vs (ns.map blank)) (hk : k < ns.length) (hk2 : k < 1000) (h : ∀ t, Q (.str (blank (ns.getD k 0)) t) s)
    (hs : subscripted slice false (.ref l) (.int (k : Int) u) = operate [.ref l, .int (k : Int) u] (getItem (.ref l) (.int (k : Int) u)) := by with_unfolding_all rfl) :
    wpAny (model prog w) A (subscriptTail value slice (.ref l) (.int (k : Int) u)) Q E s := by
  obtain ⟨t, ht⟩ := strs_get' hi (i := k) (x := blank (ns.getD k 0)) (by rw [List.getElem?_map, List.getElem?_eq_getElem hk, List.getD_eq_getElem?_getD, List.getElem?_eq_getElem hk]; rfl)
  exact tail_any hl.typeIs slot_list_getitem.lookup (wpAny_getItem_list hl (Int.natCast_nonneg _) (by omega) (by simpa using ht) (h t)) hs
end
theorem ends_of {h₀ h' : Heap} {L : Addr} {T3 T4 nw : List (Addr × Obj)} {tab : Array Value} (S3 : TabSt 37 35 4 "_int2digits.<locals>.inner" T3) (S4 : TabSt 44 50 4 "_digits2int.<locals>.inner" T4) (N : News h₀ L h' nw) (h1 : (173, tabObj tab) ∈ nw) (h2 : ∀ p ∈ T3 ++ T4, p ∈ nw) :
    ∃ p2 p3, News h₀ L h' [(173, tabObj tab), (44, tabObj p2), (37, tabObj p3)] := by
  obtain ⟨p3, m3⟩ := tab_head S3
  obtain ⟨p2, m2⟩ := tab_head S4
  refine ⟨p2, p3, fun q hq => N q ?_⟩
  rcases List.mem_cons.mp hq with rfl | hq
  · exact h1
  · rcases List.mem_cons.mp hq with rfl | hq
    · exact h2 _ (List.mem_append_right _ m2)
    · rcases List.mem_cons.mp hq with rfl | hq
      · exact h2 _ (List.mem_append_left _ m3)
      · exact absurd hq List.not_mem_nil
section
variable {w : World} {dp un : Nat} {gd : Option (List Code)} {env : Env} {outer : List Env} {A₀ : Around} {base h₀ : Heap} {L : Addr} {m : Str → Option Value} {tp : Program} {tl : List Str} {mean : ExcName → Option Value} {mg mb : Str → Option Value} {s : Shared} {Q E : Value → Shared → Prop}
/-- a call that leaves what it looks at and makes something new -/
theorem use_more {D U : Nat} {f : Addr} {args : List Value} {sel news : List (Addr × Obj)} {Post : Nat → Value → List (Addr × Obj) → Prop} (C : Con w D U f args sel Post) (hk : ∀ n v b, Post n v b → ∃ nb, b = nb ++ sel)
    (B : Below A₀ base outer h₀) (F : Fr h₀ L s.heap m) (X : (hd.heap_1 w.params).In h₀) (N : News h₀ L s.heap news) (T : Top tp tl mean mg mb h₀) (hf : env.frame = some L) (hke : env.scope.kind = .function)
    (hsel : ∀ p ∈ sel, p ∈ news) (hd : dp + D < recursionLimit) (hu : un + U < cLine)
    (ret : ∀ v nb h' tk', Fr h₀ L h' m → News h₀ L h' (nb ++ news) → (∀ r ∈ nb, ∀ q ∈ news, q.1 ∉ sel.map Prod.fst → r.1 ≠ q.1) → Post s.heap.objs.size v (nb ++ sel) → Q v { s with heap := h', toks := tk' }) :
    wpAny (model Challenge.rw_pe0259_03.row.prog w) (Ar dp un gd (env :: outer)) (call (.ref f) args) Q E s := by
  refine use_g C (oth := news.filter fun p => decide (p.1 ∉ sel.map Prod.fst)) B F X N T hf hke hsel (fun p hp => (List.mem_filter.mp hp).1) (fun p hp q hq e => ?_) hd hu ?_
  · exact of_decide_eq_true (List.mem_filter.mp hp).2 (e ▸ List.mem_map_of_mem hq)
  · intro v sel' h' tk' F' N' ne _ hP
    obtain ⟨nb, rfl⟩ := hk _ _ _ hP
    refine ret v nb h' tk' F' (fun p hp => ?_) (fun r hr q hq hm => ne r (List.mem_append_left _ hr) q (List.mem_filter.mpr ⟨hq, decide_eq_true hm⟩)) hP
    rcases List.mem_append.mp hp with hp | hp
    · exact N' p (List.mem_append_left _ (List.mem_append_left _ hp))
    · by_cases hm : p.1 ∈ sel.map Prod.fst
      · obtain ⟨r, hr, e⟩ := List.mem_map.mp hm
        have e1 := (N p hp).1
        have e2 := (N r (hsel r hr)).1
        rw [e, e1] at e2
        have : p = r := Prod.ext e.symm (Option.some.inj e2)
        exact N' p (List.mem_append_left _ (List.mem_append_right _ (this ▸ hr)))
      · exact N' p (List.mem_append_right _ (List.mem_filter.mpr ⟨hp, decide_eq_true hm⟩))
theorem lead_use {aa T3 T4 : List (Addr × Obj)} {P : Addr} {its : List Value} {k : Nat} {ws : List Nat} {o lack : Nat} {t1 t2 : Tok} (S3 : TabSt 37 35 4 "_int2digits.<locals>.inner" T3) (S4 : TabSt 44 50 4 "_digits2int.<locals>.inner" T4) (off : ∀ q ∈ aa, ∀ r ∈ T3 ++ T4, q.1 ≠ r.1)
    (hm : (P, listOf its.toArray k) ∈ aa) (hi : StrsAre its (ws.map blank)) (hs : 0 < ws.length ∧ ws.length < 20) (ho : o < 20) (hk : lack < 1000) (hw : ∀ q ∈ ws, q < 220) (hT : told ws o lack = true)
    (B : Below A₀ base outer h₀) (F : Fr h₀ L s.heap m) (X : (hd.heap_1 w.params).In h₀) (N : News h₀ L s.heap (aa ++ (T3 ++ T4))) (T : Top tp tl mean mg mb h₀) (hf : env.frame = some L) (hke : env.scope.kind = .function)
    (hd : dp + 120 < recursionLimit) (hu : un + 900 < cLine)
    (ret : ∀ T3' T4' h' tk', TabSt 37 35 4 "_int2digits.<locals>.inner" T3' → TabSt 44 50 4 "_digits2int.<locals>.inner" T4' → (∀ q ∈ aa, ∀ r ∈ T3' ++ T4', q.1 ≠ r.1) → Fr h₀ L h' m → News h₀ L h' (aa ++ (T3' ++ T4')) → Q (.bool true) { s with heap := h', toks := tk' }) :
    wpAny (model Challenge.rw_pe0259_03.row.prog w) (Ar dp un gd (env :: outer)) (call (.ref 214) [.ref P, .str (blank o) t1, .int (lack : Int) t2]) Q E s := by
  refine use_g (lead_c w P its k ws o lack t1 t2 T3 T4 S3 S4 (fun r hr => off _ hm r hr) hi hs ho hk hw hT) (oth := aa.filter fun p => decide (p.1 ≠ P)) B F X N T hf hke (fun p hp => ?_) (fun p hp => List.mem_append_left _ (List.mem_filter.mp hp).1) (fun p hp q hq => ?_) hd hu ?_
  · rcases List.mem_cons.mp hp with rfl | hp
    · exact List.mem_append_left _ hm
    · exact List.mem_append_right _ hp
  · have h := List.mem_filter.mp hp
    rcases List.mem_cons.mp hq with rfl | hq
    · exact of_decide_eq_true h.2
    · exact off p h.1 q hq
  · rintro v blk h' tk' F' N' ne - ⟨T3', T4', rfl, S3', S4', hP', rfl⟩
    have same : ∀ q ∈ aa, q.1 = P → q = (P, listOf its.toArray k) := fun q hq e => by
      have e1 := (N q (List.mem_append_left _ hq)).1
      have e2 := (N (P, listOf its.toArray k) (List.mem_append_left _ hm)).1
      simp only at e2
      rw [e, e2] at e1
      exact Prod.ext e (Option.some.inj e1).symm
    refine ret T3' T4' h' tk' S3' S4' (fun q hq r hr => ?_) F' (fun q hq => ?_)
    · by_cases e : q.1 = P
      · rw [e]; exact hP' r hr
      · exact (ne r (.tail _ hr) q (List.mem_filter.mpr ⟨hq, decide_eq_true e⟩)).symm
    · rcases List.mem_append.mp hq with hq | hq
      · by_cases e : q.1 = P
        · rw [same q hq e]; exact N' _ (.head _)
        · exact N' q (List.mem_append_right _ (List.mem_filter.mpr ⟨hq, decide_eq_true e⟩))
      · exact N' q (List.mem_append_left _ (.tail _ hq))
end
section
variable {w : World} {dp un : Nat} {gd : Option (List Code)} {env : Env} {outer : List Env} {A₀ : Around} {base h₀ : Heap} {L : Addr} {m : Str → Option Value} {tp : Program} {tl : List Str} {mean : ExcName → Option Value} {mg mb : Str → Option Value} {s : Shared} {Q E : Value → Shared → Prop}
theorem digs_use {aa T3 T4 : List (Addr × Obj)} {x len : Nat} {ta tn : Tok} (S3 : TabSt 37 35 4 "_int2digits.<locals>.inner" T3) (S4 : TabSt 44 50 4 "_digits2int.<locals>.inner" T4) (off : ∀ q ∈ aa, ∀ r ∈ T3 ++ T4, q.1 ≠ r.1)
    (hx : x < 2 ^ 4000) (hlen : len = (Builtin.Int.intBits (x : Int) + 1 - 1) / 1) (hl60 : len ≤ 60)
    (B : Below A₀ base outer h₀) (F : Fr h₀ L s.heap m) (X : (hd.heap_1 w.params).In h₀) (N : News h₀ L s.heap (aa ++ (T3 ++ T4))) (T : Top tp tl mean mg mb h₀) (hf : env.frame = some L) (hke : env.scope.kind = .function)
    (hd : dp + 70 < recursionLimit) (hu : un + 400 < cLine)
    (ret : ∀ D vals k T3' h' tk', TabSt 37 35 4 "_int2digits.<locals>.inner" T3' → IntsAre vals (digsOf 1 len x) → (∀ q ∈ aa, ∀ r ∈ T3' ++ T4, q.1 ≠ r.1) → (∀ q ∈ aa, D ≠ q.1) → (∀ r ∈ T3' ++ T4, D ≠ r.1) → Fr h₀ L h' m → News h₀ L h' ((D, listOf vals.toArray k) :: (aa ++ (T3' ++ T4))) → Q (.ref D) { s with heap := h', toks := tk' }) :
    wpAny (model Challenge.rw_pe0259_03.row.prog w) (Ar dp un gd (env :: outer)) (call (.ref 42) [.int (x : Int) ta, .int 1 tn]) Q E s := by
  have to := tabs_off S3 S4 (by decide) (by decide) (fun p hp => (N p (List.mem_append_right _ (List.mem_append_left _ hp))).1) (fun p hp => (N p (List.mem_append_right _ (List.mem_append_right _ hp))).1)
  refine use_g (int2digits_c w x 1 len ta tn T3 S3 (by decide) (by decide) hx hlen hl60) (oth := aa ++ T4) B F X N T hf hke (fun q hq => List.mem_append_right _ (List.mem_append_left _ hq)) (fun p hp => ?_) (fun p hp q hq => ?_) hd hu ?_
  · rcases List.mem_append.mp hp with hp | hp
    · exact List.mem_append_left _ hp
    · exact List.mem_append_right _ (List.mem_append_right _ hp)
  · rcases List.mem_append.mp hp with hp | hp
    · exact off p hp q (List.mem_append_left _ hq)
    · exact to p hp q hq
  · rintro v blk h' tk' F' N' ne - ⟨D, vals, k, T3', rfl, rfl, hv, S3', hD⟩
    refine ret D vals k T3' h' tk' S3' hv (fun q hq r hr => ?_) (fun q hq => ne _ (.head _) q (List.mem_append_left _ hq)) (fun r hr => ?_) F' (fun q hq => ?_)
    · rcases List.mem_append.mp hr with hr | hr
      · exact (ne r (.tail _ hr) q (List.mem_append_left _ hq)).symm
      · exact off q hq r (List.mem_append_right _ hr)
    · rcases List.mem_append.mp hr with hr | hr
      · exact (hD r hr).symm
      · exact ne _ (.head _) r (List.mem_append_right _ hr)
    · rcases List.mem_cons.mp hq with rfl | hq
      · exact N' _ (.head _)
      · rcases List.mem_append.mp hq with hq | hq
        · exact N' q (List.mem_append_right _ (List.mem_append_left _ hq))
        · rcases List.mem_append.mp hq with hq | hq
          · exact N' q (List.mem_append_left _ (.tail _ hq))
          · exact N' q (List.mem_append_right _ (List.mem_append_right _ hq))
end
section
variable {prog : Program} {w : World} {A : Around} {E : Value → Shared → Prop} {s : Shared} {t u : Tok} {Q : Value → Shared → Prop}
theorem mulN_st {x y : Nat} (hx : x ≤ 100000) (h : Q (.int ((x * y : Nat) : Int) s.toks) { s with toks := s.toks + 1 }) : wpAny (model prog w) A (binaryOp .Mult (.int (x : Int) t) (.int (y : Int) u)) Q E s :=
  mul_small (by omega) (by rw [← Int.natCast_mul]; exact h)
theorem pow2_st {y : Nat} (hy : y < 100) (h : Q (.int ((2 ^ y : Nat) : Int) s.toks) { s with toks := s.toks + 1 }) : wpAny (model prog w) A (binaryOp .Pow (.int 2 t) (.int (y : Int) u)) Q E s :=
  pow_st (x := 2) (by decide) hy h
end
theorem nat_pred {m : Nat} (h : 1 ≤ m) : (m : Int) - 1 = ((m - 1 : Nat) : Int) := by omega

theorem bools_snoc {vs : List Value} {bs : List Bool} {c : Bool} (h : LSm.BoolsAre vs bs) : LSm.BoolsAre (vs ++ [.bool c]) (bs ++ [c]) := by
  induction h with
  | nil => exact .cons _ .nil
  | cons b h ih => exact .cons b ih
theorem carried_bools : ∀ {vs : List Value} {bs : List Bool}, LSm.BoolsAre vs bs → CarriedAll vs (bs.map PyData.bool)
  | _, _, .nil => .nil
  | _, _, .cons _ r => .cons (.bool _) (carried_bools r)
theorem lay_bools : ∀ bs : List Bool, PyData.canLayAll0 (bs.map PyData.bool) = true
  | [] => rfl
  | b :: r => by simp [PyData.canLayAll0, PyData.canLay0, lay_bools r]
theorem depth_bools : ∀ bs : List Bool, PyData.depthAll (bs.map PyData.bool) = 0
  | [] => rfl
  | _ :: r => by simp [PyData.depthAll, PyData.depth, depth_bools r]
theorem eqvAll_bools : ∀ bs : List Bool, PyData.eqvAll (bs.map PyData.bool) (bs.map PyData.bool) = true
  | [] => rfl
  | b :: r => by simp [PyData.eqvAll, PyData.eqv, eqvAll_bools r]
theorem eq_bools {prog : Program} {w : World} {A : Around} {E : Value → Shared → Prop} {s : Shared} {a b : Addr} {vs us : List Value} {bs : List Bool} {Q : Value → Shared → Prop}
    (ha : s.heap.IsList a vs.toArray) (hb : s.heap.IsList b us.toArray) (hi : LSm.BoolsAre vs bs) (hj : LSm.BoolsAre us bs) (hu : A.units + 64 < cLine) (h : Q (.bool true) s) : wpAny (model prog w) A (compareOp .Eq (.ref a) (.ref b)) Q E s :=
  eq_dataH (reads_newData ha (carried_bools hi)) (reads_newData hb (carried_bools hj)) (by simp [SeqAt.shaped, PyData.canLay0, PyData.depth, lay_bools, depth_bools]) (by simp [SeqAt.shaped, PyData.canLay0, PyData.depth, lay_bools, depth_bools]) hu (by rw [PyData.eqv, eqvAll_bools]; exact h)
theorem cast_mem {x : Nat} {l : List Nat} : ((x : Nat) : Int) ∈ (l.map fun x : Nat => (x : Int)) ↔ x ∈ l :=
  ⟨fun h => by obtain ⟨k, hk, e⟩ := List.mem_map.mp h; exact (Int.ofNat.inj e) ▸ hk, fun h => List.mem_map_of_mem (f := fun x : Nat => (x : Int)) h⟩
theorem sums_same {a b : Nat} (ok : Ok3 a b) {sv : List Nat} (h : ∀ x ∈ sv, x < 60) :
    ((List.range sv.length).map fun j => decide (sv.getD j 0 < (shortest (paidOf a b) b).getD (sv.getD j 0 % b) 0)) = sv.map fun x => decide (x ∈ lackOf a b) := by
  apply List.ext_getElem
  · simp
  · intro i h1 h2
    have hi : i < sv.length := by simpa using h2
    simp only [List.getElem_map, List.getElem_range]
    rw [List.getD_eq_getElem?_getD, List.getElem?_eq_getElem hi]
    exact decide_eq_decide.mpr (ok.sums _ (h _ (List.getElem_mem hi)))
section
variable {w : World} {dp un : Nat} {gd : Option (List Code)} {outer : List Env} {A₀ : Around} {base h₀ : Heap} {L fa : Addr} {cd : Value} {tp : Program} {tl : List Str} {mean : ExcName → Option Value} {mg mb : Str → Option Value} {s : Shared} {Q : Flow → Shared → Prop} {E : Value → Shared → Prop} {rest : List Stmt} {scope : Scope}
theorem stJ (hdef : lawRest ((hd.heap_1 w.params).lookup 219) 20 = some (rest, scope)) (B : Below A₀ base outer h₀) (X : (hd.heap_1 w.params).In h₀) (T : Top tp tl mean mg mb h₀)
    {T3 T4 : List (Addr × Obj)} {tab : Array Value} (S3 : TabSt 37 35 4 "_int2digits.<locals>.inner" T3) (S4 : TabSt 44 50 4 "_digits2int.<locals>.inner" T4)
    {a b : Nat} (ok : Ok3 a b) {o1 o2 o3 o4 o5 : Obj} {D Dl Dw : Addr} {sl yl zw : List Value} {kD kl kw : Nat} {script totals va text machine coins greatest over bya : Option Value} {sv : List Nat} {bl : List (Addr × Obj)}
    (k3 : cellIs o3 (some (.ref Dl)))
    (hyl : IntsAre yl ((lackOf a b).map fun x : Nat => (x : Int))) (hsl : IntsAre sl (sv.map fun x : Nat => (x : Int))) (hs3 : sv.length ≤ 3) (hs60 : ∀ x ∈ sv, x < 60)
    (hL4 : LeadsAt w zw (fun j => (shortest (paidOf a b) b).getD (sv.getD j 0 % b) 0) sl.length bl)
    (F : Fr h₀ L s.heap (wl3 script totals va text machine coins greatest over bya (some (.ref D)) (some (.ref Dw))))
    (N : News h₀ L s.heap ((Dw, listOf zw.toArray kw) :: (D, listOf sl.toArray kD) :: (Dl, listOf yl.toArray kl) :: [(173, tabObj tab), (L + 1 + 1 + 1 + 1 + 1, o5), (L + 1 + 1 + 1 + 1, o4), (L + 1 + 1 + 1, o3), (L + 1 + 1, o2), (L + 1, o1)] ++ (bl ++ (T3 ++ T4))))
    (hL : 173 < L) (hd' : dp + 200 < recursionLimit) (hu : un + 2000 < cLine) (hQ : LawEnd h₀ L Q s) :
    wpAny (model Challenge.rw_pe0259_03.row.prog w) (Ar dp un gd (envOfC "law" scope L fa cd :: outer)) (execs rest (envOfC "law" scope L fa cd)) Q E s := by
  revert hdef
  k_fill
  intro hdef
  refine' law_out ?hl hdef ?_
  (case hl => k_is)
  clear hdef
  intro hdef
  cases hdef
  have codeHd := codeHd_of_K (c := 41) (P := 37) X (by kernel_rfl)
  (try dsimp only [List.drop]); (try k_fold)
  unfold wl3 at F
  simp only [List.cons_append, List.nil_append] at N
  have hsll : sl.length = sv.length := by rw [hsl.length, List.length_map]
  obtain ⟨hb2, hb9⟩ := ok.hb
  ((repeat' ((fail_if_success (with_reducible show wpAny _ _ (eval (Expr.ListComp _ _ _ _) _) _ _ _)); (first | (k_unfold; (try dsimp only)) | ((with_reducible first | show wpAny _ _ (exec _ _) _ _ _ | show wpAny _ _ (execs _ _) _ _ _); k_fold) | (k_end; wrow_close) | walk1 | (dsimp only; walk1) | (leave1; (try dsimp only))))) <;> (repeat (k_unfold; (try dsimp only))))
  rename Fr _ _ _ _ => F1
  rename News _ _ _ _ => N1
  refine ListComp_zip F1 (by with_unfolding_all rfl) (by decide) (by rfl) (by decide) (by rfl) (by rfl) (by decide) ?_
  ((repeat' ((fail_if_success (with_reducible show wpAny _ _ (call (Value.type "zip") _) _ _ _)); (first | (k_unfold; (try dsimp only)) | ((with_reducible first | show wpAny _ _ (exec _ _) _ _ _ | show wpAny _ _ (execs _ _) _ _ _); k_fold) | (k_end; wrow_close) | walk1 | (dsimp only; walk1) | (leave1; (try dsimp only))))) <;> (repeat (k_unfold; (try dsimp only))))
  rename Fr _ _ _ _ => F2
  rename News _ _ _ _ => N2
  have hwl : zw.length = sl.length := hL4.1
  obtain ⟨NW, hNW⟩ : ∃ NW, NW = (Dw, listOf zw.toArray kw) :: (D, listOf sl.toArray kD) :: (Dl, listOf yl.toArray kl) :: [(173, tabObj tab), (L + 1 + 1 + 1 + 1 + 1, o5), (L + 1 + 1 + 1 + 1, o4), (L + 1 + 1 + 1, o3), (L + 1 + 1, o2), (L + 1, o1)] ++ (bl ++ (T3 ++ T4)) := ⟨_, rfl⟩
  refine zip_src (xs := sl) (ys := zw) (n1 := kD) (n2 := kw) (NW := NW) (J := fun i ys => LSm.BoolsAre ys ((List.range i).map fun j => decide (sv.getD j 0 < (shortest (paidOf a b) b).getD (sv.getD j 0 % b) 0))) rfl F2 (by rw [hNW]; exact N2) (by rw [hNW]; exact .tail _ (.head _)) (by rw [hNW]; exact .head _) (by rw [sizeLine_eq]; omega) .nil ?_ ?_
  · intro hg i ys v₁ v₂ its C oC D2 m₂ h8 tk8 E' hys hv1 hv2 hns hx1 hx2 F11 N11
    obtain ⟨tx, x, hxx, rfl⟩ := ints_at hsl hv1
    rw [List.getElem?_map] at hxx
    obtain ⟨x, hxs, rfl⟩ := Option.map_eq_some_iff.mp hxx
    have hx60 := hs60 x (List.mem_of_getElem? hxs)
    have hil : i < sl.length := (List.getElem?_eq_some_iff.mp hv1).1
    obtain ⟨xW, bW, hw1, WW, hbW⟩ := hL4.2 i hil
    rw [hw1] at hv2
    obtain rfl := Option.some.inj hv2
    subst hNW
    clear F2 N2
    try clear F1
    try clear N1
    try clear N0
    try clear N
    try clear F
    simp only [List.cons_append, List.nil_append, List.append_assoc] at N11
    (try dsimp only); (try k_fold)
    ((repeat' ((fail_if_success (with_reducible show wpAny _ _ (call (Value.ref 167) _) _ _ _)); (first | (k_unfold; (try dsimp only)) | ((with_reducible first | show wpAny _ _ (exec _ _) _ _ _ | show wpAny _ _ (execs _ _) _ _ _); k_fold) | (k_end; wrow_close) | walk1 | (dsimp only; walk1) | (leave1; (try dsimp only))))) <;> (repeat (k_unfold; (try dsimp only))))
    rename Fr _ _ _ _ => F13
    rename News _ _ _ _ => N13
    rw [show Txt.mul (Str.ofString " ") ((x : Nat) : Int) = blank x from by rw [lit_s, Tx_mul1]]
    refine use_g (ws_new w (blank x) _ (by rw [blank_len]; omega) (by rw [Tx_cps]; exact fun c hc => .inl (List.mem_replicate.mp hc).2)) (oth := (C, oC) :: (D2, LCg.lst ys) :: (Dw, listOf zw.toArray kw) :: (D, listOf sl.toArray kD) :: (Dl, listOf yl.toArray kl) :: [(173, tabObj tab), (L + 1 + 1 + 1 + 1 + 1, o5), (L + 1 + 1 + 1 + 1, o4), (L + 1 + 1 + 1, o3), (L + 1 + 1, o2), (L + 1, o1)] ++ (bl ++ (T3 ++ (T4 ++ its)))) B F13 X N13 T rfl rfl (fun p hp => nomatch hp) (fun p hp => hp) (fun p hp q hq => nomatch hq) (by k_room) (by k_units) ?_
    rintro v14 bX h14 tk14 F14 N14 ne14 - ⟨xX, rfl, WX⟩
    rw [Tx_cps, wsOf_blank] at WX
    rw [wsOf_blank] at WW
    clear F13 N13
    obtain ⟨dL, nL, cL, rL, trL, tn0L, tnL, tt0L, tntL, toL, tiL, tbL, vsL, hvsL, hbX⟩ := id WX
    have hsel : ∀ p ∈ bX ++ bW, p ∈ bX ++ ((C, oC) :: (D2, LCg.lst ys) :: (Dw, listOf zw.toArray kw) :: (D, listOf sl.toArray kD) :: (Dl, listOf yl.toArray kl) :: [(173, tabObj tab), (L + 1 + 1 + 1 + 1 + 1, o5), (L + 1 + 1 + 1 + 1, o4), (L + 1 + 1 + 1, o3), (L + 1 + 1, o2), (L + 1, o1)] ++ (bl ++ (T3 ++ (T4 ++ its)))) := fun p hp => by
      rcases List.mem_append.mp hp with hp | hp
      · exact List.mem_append_left _ hp
      · exact List.mem_append_right _ (List.mem_append_right _ (List.mem_append_left _ (hbW p hp)))
    rw [hbX] at N14
    simp only [List.cons_append, List.nil_append] at N14
    (try dsimp only)
    ((repeat' ((fail_if_success (with_reducible show wpAny _ _ (call (Value.ref 157) _) _ _ _)); (first | (k_unfold; (try dsimp only)) | ((with_reducible first | show wpAny _ _ (exec _ _) _ _ _ | show wpAny _ _ (execs _ _) _ _ _); k_fold) | (k_end; wrow_close) | walk1 | (dsimp only; walk1) | (leave1; (try dsimp only))))) <;> (repeat (k_unfold; (try dsimp only))))
    rename Fr _ _ _ _ => F15
    rename News _ _ _ _ => N15
    refine use_keep (less_c w xX xW _ _ bX bW WX WW (Nat.zero_le _) (Nat.zero_le _) (Nat.le_refl _)) (fun _ _ _ h => h.2) B F15 X (by rw [hbX]; exact N15) T rfl rfl hsel (by k_room) (by k_units) ?_
    rintro v16 h16 tk16 F16 N16 ⟨rfl, -⟩
    (try dsimp only)
    refine ⟨_, _, rfl, F16, fun p hp => N16 p (List.mem_append_right _ ?_), ?_⟩
    · simpa only [List.append_assoc, List.cons_append, List.nil_append] using hp
    · rw [List.range_succ, List.map_append]
      have e : sv.getD i 0 = x := by rw [List.getD_eq_getElem?_getD, hxs]; rfl
      show LSm.BoolsAre _ (_ ++ [decide (sv.getD i 0 < _)])
      have e2 : ∀ (q : Nat) (inst : Decidable (x < q)), @decide (x < q) inst = decide (sv.getD i 0 < q) := fun q _ => decide_eq_decide.mpr (by rw [e])
      rw [e2]
      exact bools_snoc hys
  · intro ys Dz h8 tk8 hys F11 N11 off11
    subst hNW
    rw [hwl, Nat.min_self, hsll] at hys
    clear F2 N2
    try clear F1
    try clear N1
    try clear N0
    try clear N
    try clear F
    simp only [List.cons_append, List.nil_append, List.append_assoc] at N11
    (try dsimp only); (try k_fold)
    ((repeat' ((fail_if_success (with_reducible show wpAny _ _ (eval (Expr.ListComp _ _ _ _) _) _ _ _)); (first | (k_unfold; (try dsimp only)) | ((with_reducible first | show wpAny _ _ (exec _ _) _ _ _ | show wpAny _ _ (execs _ _) _ _ _); k_fold) | (k_end; wrow_close) | walk1 | (dsimp only; walk1) | (leave1; (try dsimp only))))) <;> (repeat (k_unfold; (try dsimp only))))
    rename Fr _ _ _ _ => F12
    rename News _ _ _ _ => N12
    refine LCg.ListComp_U (F₀ := F12) (by with_unfolding_all rfl) (by decide) (by rfl) (by decide) (by rfl) ?_
    ((repeat' ((fail_if_success (with_reducible show LCg.CompSrc _ _ _ _ _ _ _ _ _ _ _ _ _ _)); (first | (k_unfold; (try dsimp only)) | ((with_reducible first | show wpAny _ _ (exec _ _) _ _ _ | show wpAny _ _ (execs _ _) _ _ _); k_fold) | (k_end; wrow_close) | walk1 | (dsimp only; walk1) | (leave1; (try dsimp only))))) <;> (repeat (k_unfold; (try dsimp only))))
    rename Fr _ _ _ _ => F13
    rename News _ _ _ _ => N13
    obtain ⟨NV, hNV⟩ : ∃ NV, NV = (Dz, LCg.lst ys) :: (Dw, listOf zw.toArray kw) :: (D, listOf sl.toArray kD) :: (Dl, listOf yl.toArray kl) :: [(173, tabObj tab), (L + 1 + 1 + 1 + 1 + 1, o5), (L + 1 + 1 + 1 + 1, o4), (L + 1 + 1 + 1, o3), (L + 1 + 1, o2), (L + 1, o1)] ++ (bl ++ (T3 ++ T4)) := ⟨_, rfl⟩
    refine LCg.CompSrc.ledger (k := kD) (its := sl.toArray) (news := NV) rfl F13 (by rw [hNV]; exact N13) (by rw [hNV]; exact .tail _ (.tail _ (.head _))) (by rw [List.size_toArray, sizeLine_eq]; omega) (fun g' => ?_)
    refine rest_of sl.toArray.size (fun i us news => LSm.BoolsAre us ((sv.take i).map fun x => decide (x ∈ lackOf a b)) ∧ news = NV) ?_ ?_ _ 0 [] _ (Nat.zero_add _) ⟨.nil, rfl⟩
    · rintro i us news v I oI C oC D2 m₂ h18 tk18 E' hi2 ⟨hus, rfl⟩ hv hns hx F21 N21 o3' ne
      obtain ⟨tx, x, hxx, rfl⟩ := ints_at hsl (by simpa using hv)
      rw [List.getElem?_map] at hxx
      obtain ⟨x, hxs, rfl⟩ := Option.map_eq_some_iff.mp hxx
      subst hNV
      clear F13 N13
      try clear F12
      try clear N12
      try clear F11
      try clear N11
      simp only [List.cons_append, List.nil_append] at N21
      (try dsimp only); (try k_fold)
      ((repeat' ((fail_if_success (with_reducible show wpAny _ _ (compareOp _ _ _) _ _ _)); (first | (k_unfold; (try dsimp only)) | ((with_reducible first | show wpAny _ _ (exec _ _) _ _ _ | show wpAny _ _ (execs _ _) _ _ _); k_fold) | (k_end; wrow_close) | walk1 | (dsimp only; walk1) | (leave1; (try dsimp only))))) <;> (repeat (k_unfold; (try dsimp only))))
      rename Fr _ _ _ _ => F22
      rename News _ _ _ _ => N22
      refine in_ints (News.isList N22 (by k_mem)) hyl (by k_units) ?_
      rw [show decide (((x : Nat) : Int) ∈ (lackOf a b).map fun x : Nat => (x : Int)) = decide (x ∈ lackOf a b) from decide_eq_decide.mpr cast_mem]
      (try dsimp only)
      refine LCg.CompEnd.intro F22 N22 _ (fun q hq => hq) o3' (.inr ⟨_, .tail _ (.tail _ (.head _)), rfl, _, rfl⟩) ⟨?_, rfl⟩
      rw [List.take_add_one, hxs]
      show LSm.BoolsAre _ (List.map _ (_ ++ [x]))
      rw [List.map_append]
      exact bools_snoc hus
    · rintro us news ⟨hus, rfl⟩ Dc h18 tk18 F21 N21 oD
      subst hNV
      rw [List.size_toArray, hsll, List.take_length] at hus
      clear F13 N13
      try clear F12
      try clear N12
      try clear F11
      try clear N11
      simp only [List.cons_append, List.nil_append] at N21
      (try dsimp only); (try k_fold)
      ((repeat' ((fail_if_success (with_reducible show wpAny _ _ (compareOp _ _ _) _ _ _)); (first | (k_unfold; (try dsimp only)) | ((with_reducible first | show wpAny _ _ (exec _ _) _ _ _ | show wpAny _ _ (execs _ _) _ _ _); k_fold) | (k_end; wrow_close) | walk1 | (dsimp only; walk1) | (leave1; (try dsimp only))))) <;> (repeat (k_unfold; (try dsimp only))))
      rename Fr _ _ _ _ => F22
      rename News _ _ _ _ => N22
      refine eq_bools (News.isList N22 (.tail _ (.head _))) (News.isList N22 (.head _)) hys (by rw [sums_same ok hs60]; exact hus) (by k_units) ?_
      (try dsimp only)
      ((repeat' (first | (k_unfold; (try dsimp only)) | ((with_reducible first | show wpAny _ _ (exec _ _) _ _ _ | show wpAny _ _ (execs _ _) _ _ _); k_fold) | (k_end; wrow_close) | walk1 | (dsimp only; walk1) | (leave1; (try dsimp only)))) <;> (repeat (k_unfold; (try dsimp only))))
      (try dsimp only)
      rename Fr _ _ _ _ => F23
      rename News _ _ _ _ => N23
      obtain ⟨p2, p3, N10⟩ := ends_of (tab := tab) S3 S4 N23 (by k_mem) (fun p hp => by
        iterate 11 apply List.Mem.tail
        exact List.mem_append_right _ hp)
      exact hQ _ _ _ _ _ _ F23 N10
end

section
variable {w : World} {dp un : Nat} {gd : Option (List Code)} {outer : List Env} {A₀ : Around} {base h₀ : Heap} {L fa : Addr} {cd : Value} {tp : Program} {tl : List Str} {mean : ExcName → Option Value} {mg mb : Str → Option Value} {s : Shared} {Q : Flow → Shared → Prop} {E : Value → Shared → Prop} {rest : List Stmt} {scope : Scope}
theorem stI (hdef : lawRest ((hd.heap_1 w.params).lookup 219) 19 = some (rest, scope)) (B : Below A₀ base outer h₀) (X : (hd.heap_1 w.params).In h₀) (T : Top tp tl mean mg mb h₀)
    {T3 T4 : List (Addr × Obj)} {tab : Array Value} (S3 : TabSt 37 35 4 "_int2digits.<locals>.inner" T3) (S4 : TabSt 44 50 4 "_digits2int.<locals>.inner" T4)
    {a b : Nat} (ok : Ok3 a b) {o1 o2 o3 o4 o5 : Obj} {D Dl Db : Addr} {sl yl yb : List Value} {kD kl kb : Nat} {tb : Tok} {script totals va text machine coins greatest over bya : Option Value} {sv : List Nat}
    (k1 : cellIs o1 (some (.int (b : Int) tb))) (k3 : cellIs o3 (some (.ref Dl))) (k5 : cellIs o5 (some (.ref Db)))
    (hyl : IntsAre yl ((lackOf a b).map fun x : Nat => (x : Int))) (hyb : StrsAre yb ((shortest (paidOf a b) b).map blank)) (hsl : IntsAre sl (sv.map fun x : Nat => (x : Int))) (hs3 : sv.length ≤ 3) (hs60 : ∀ x ∈ sv, x < 60)
    (F : Fr h₀ L s.heap (wl3 script totals va text machine coins greatest over bya (some (.ref D)) none))
    (N : News h₀ L s.heap ((D, listOf sl.toArray kD) :: (Db, listOf yb.toArray kb) :: (Dl, listOf yl.toArray kl) :: [(173, tabObj tab), (L + 1 + 1 + 1 + 1 + 1, o5), (L + 1 + 1 + 1 + 1, o4), (L + 1 + 1 + 1, o3), (L + 1 + 1, o2), (L + 1, o1)] ++ (T3 ++ T4)))
    (offT : ∀ q ∈ (D, listOf sl.toArray kD) :: (Db, listOf yb.toArray kb) :: (Dl, listOf yl.toArray kl) :: [(173, tabObj tab), (L + 1 + 1 + 1 + 1 + 1, o5), (L + 1 + 1 + 1 + 1, o4), (L + 1 + 1 + 1, o3), (L + 1 + 1, o2), (L + 1, o1)], ∀ r ∈ T3 ++ T4, q.1 ≠ r.1)
    (hL : 173 < L) (hd' : dp + 200 < recursionLimit) (hu : un + 2000 < cLine) (hQ : LawEnd h₀ L Q s) :
    wpAny (model Challenge.rw_pe0259_03.row.prog w) (Ar dp un gd (envOfC "law" scope L fa cd :: outer)) (execs rest (envOfC "law" scope L fa cd)) Q E s := by
  revert hdef
  k_fill
  intro hdef
  refine' law_out ?hl hdef ?_
  (case hl => k_is)
  clear hdef
  intro hdef
  cases hdef
  have codeHd := codeHd_of_K (c := 41) (P := 37) X (by kernel_rfl)
  (try dsimp only [List.drop]); (try k_fold)
  unfold wl3 at F
  have N0 := N
  simp only [List.cons_append, List.nil_append] at N
  have hsll : sl.length = sv.length := by rw [hsl.length, List.length_map]
  obtain ⟨hb2, hb9⟩ := ok.hb
  ((repeat' ((fail_if_success (with_reducible show wpAny _ _ (exec (Stmt.Assign _ (Expr.ListComp _ _ _ _) _) _) _ _ _)); (first | (k_unfold; (try dsimp only)) | ((with_reducible first | show wpAny _ _ (exec _ _) _ _ _ | show wpAny _ _ (execs _ _) _ _ _); k_fold) | (k_end; wrow_close) | walk1 | (dsimp only; walk1) | (leave1; (try dsimp only))))) <;> (repeat (k_unfold; (try dsimp only))))
  refine LCg.Assign_ListComp_U (F₀ := F) (by rfl) (by with_unfolding_all rfl) (by with_unfolding_all rfl) (by decide) (by rfl) (by decide) (by rfl) (by rfl) (by rfl) ?_
  ((repeat' ((fail_if_success (with_reducible show LCg.CompSrc _ _ _ _ _ _ _ _ _ _ _ _ _ _)); (first | (k_unfold; (try dsimp only)) | ((with_reducible first | show wpAny _ _ (exec _ _) _ _ _ | show wpAny _ _ (execs _ _) _ _ _); k_fold) | (k_end; wrow_close) | walk1 | (dsimp only; walk1) | (leave1; (try dsimp only))))) <;> (repeat (k_unfold; (try dsimp only))))
  rename Fr _ _ _ _ => F4
  rename News _ _ _ _ => N4
  obtain ⟨BB, hBB⟩ : ∃ BB, BB = (D, listOf sl.toArray kD) :: (Db, listOf yb.toArray kb) :: (Dl, listOf yl.toArray kl) :: [(173, tabObj tab), (L + 1 + 1 + 1 + 1 + 1, o5), (L + 1 + 1 + 1 + 1, o4), (L + 1 + 1 + 1, o3), (L + 1 + 1, o2), (L + 1, o1)] := ⟨_, rfl⟩
  refine LCg.CompSrc.ledger (k := kD) (its := sl.toArray) (news := BB ++ ([] ++ (T3 ++ T4))) rfl F4 (by rw [hBB]; exact N4) (by rw [hBB]; exact .head _) (by rw [List.size_toArray, sizeLine_eq]; omega) (fun g' => ?_)
  refine rest_of sl.toArray.size (fun i ys news => ∃ T3 T4 bl, TabSt 37 35 4 "_int2digits.<locals>.inner" T3 ∧ TabSt 44 50 4 "_digits2int.<locals>.inner" T4 ∧ LeadsAt w ys (fun j => (shortest (paidOf a b) b).getD (sv.getD j 0 % b) 0) i bl ∧ news = BB ++ (bl ++ (T3 ++ T4)) ∧ (∀ q ∈ BB ++ bl, ∀ r ∈ T3 ++ T4, q.1 ≠ r.1)) ?_ ?_ _ 0 [] _ (Nat.zero_add _)
    ⟨T3, T4, [], S3, S4, LeadsAt.nil, rfl, by rw [List.append_nil, hBB]; exact offT⟩
  · clear S3 S4 offT
    try clear N0
    try clear N
    try clear N4
    try clear F
    try clear F4
    rintro i ys news v I oI C oC D2 m₂ h8 tk8 E' hi2 ⟨T3, T4, bl, S3, S4, hL4, rfl, offT⟩ hv hns hx F11 N11 o3' ne
    obtain ⟨tx', x, hxx, rfl⟩ := ints_at hsl (by simpa using hv)
    rw [List.getElem?_map] at hxx
    obtain ⟨x, hxs, rfl⟩ := Option.map_eq_some_iff.mp hxx
    have hx60 := hs60 x (List.mem_of_getElem? hxs)
    subst hBB
    have om := LCg.Off3.mem o3'
    simp only [List.cons_append, List.nil_append] at N11
    (try dsimp only); (try k_fold)
    ((repeat' ((fail_if_success (with_reducible show wpAny _ _ (call (Value.ref 63) _) _ _ _)); (first | (k_unfold; (try dsimp only)) | ((with_reducible first | show wpAny _ _ (exec _ _) _ _ _ | show wpAny _ _ (execs _ _) _ _ _); k_fold) | (k_end; wrow_close) | walk1 | (dsimp only; walk1) | (leave1; (try dsimp only))))) <;> (repeat (k_unfold; (try dsimp only))))
    rename Fr _ _ _ _ => F13
    rename News _ _ _ _ => N13
    refine dm_use (aa := (I, oI) :: (C, oC) :: (D2, LCg.lst ys) :: (((D, listOf sl.toArray kD) :: (Db, listOf yb.toArray kb) :: (Dl, listOf yl.toArray kl) :: [(173, tabObj tab), (L + 1 + 1 + 1 + 1 + 1, o5), (L + 1 + 1 + 1 + 1, o4), (L + 1 + 1 + 1, o3), (L + 1 + 1, o2), (L + 1, o1)]) ++ bl)) (T3 := T3) (T4 := T4) S3 S4 ?_ (by omega) (by omega) (by omega) B F13 X ?_ T rfl rfl (by k_room) (by k_units) ?_
    · have hr := fun r (hr : r ∈ T3 ++ T4) => om r (List.mem_append_right _ (List.mem_append_right _ hr))
      exact List.forall_mem_cons.mpr ⟨fun r h => (hr r h).1.symm, List.forall_mem_cons.mpr ⟨fun r h => (hr r h).2.1.symm, List.forall_mem_cons.mpr ⟨fun r h => (hr r h).2.2.symm, offT⟩⟩⟩
    · simpa only [List.append_assoc, List.cons_append, List.nil_append] using N13
    intro D9 T3' T4' tq9 tr9 h9 tk9 S3' S4' off9 offD9 offD9' F14 N14
    rw [show (x : Int) % (b : Int) = ((x % b : Nat) : Int) from by rw [Int.natCast_emod]] at N14
    have hxb : x % b < b := Nat.mod_lt _ (by omega)
    have hybl : yb.length = b := by rw [hyb.length, List.length_map]; unfold shortest; rw [List.length_map, List.length_range]
    clear F13 N13
    try clear N11
    try clear F11
    simp only [List.cons_append, List.nil_append, List.append_assoc] at N14
    (try dsimp only)
    ((repeat' ((fail_if_success (with_reducible show wpAny _ _ (subscriptTail _ _ (Value.ref Db) (Value.int _ _)) _ _ _)); (first | (k_unfold; (try dsimp only)) | ((with_reducible first | show wpAny _ _ (exec _ _) _ _ _ | show wpAny _ _ (execs _ _) _ _ _); k_fold) | (k_end; wrow_close) | walk1 | (dsimp only; walk1) | (leave1; (try dsimp only))))) <;> (repeat (k_unfold; (try dsimp only))))
    rename Fr _ _ _ _ => F15
    rename News _ _ _ _ => N15
    have hsbl : (shortest (paidOf a b) b).length = b := by unfold shortest; rw [List.length_map, List.length_range]
    refine sub_blank (News.isList N15 (by k_mem)) hyb (by rw [hsbl]; exact hxb) (by omega) (fun tw => ?_)
    (try dsimp only)
    ((repeat' ((fail_if_success (with_reducible show wpAny _ _ (call (Value.ref 167) _) _ _ _)); (first | (k_unfold; (try dsimp only)) | ((with_reducible first | show wpAny _ _ (exec _ _) _ _ _ | show wpAny _ _ (execs _ _) _ _ _); k_fold) | (k_end; wrow_close) | walk1 | (dsimp only; walk1) | (leave1; (try dsimp only))))) <;> (repeat (k_unfold; (try dsimp only))))
    rename Fr _ _ _ _ => F16
    rename News _ _ _ _ => N16
    obtain ⟨q, hq⟩ : ∃ q, q = (shortest (paidOf a b) b).getD (x % b) 0 := ⟨_, rfl⟩
    have hq100 : q < 100 := by
      rw [hq, List.getD_eq_getElem?_getD, List.getElem?_eq_getElem (by rw [hsbl]; exact hxb)]
      exact ok.smax _ (List.mem_append_right _ (List.getElem_mem _))
    rw [← hq]
    refine use_g (ws_new w (blank q) tw (by rw [blank_len]; omega) (by rw [Tx_cps]; exact fun c hc => .inl (List.mem_replicate.mp hc).2)) (oth := ((I, oI) :: (C, oC) :: (D2, LCg.lst ys) :: (D, listOf sl.toArray kD) :: (Db, listOf yb.toArray kb) :: (Dl, listOf yl.toArray kl) :: [(173, tabObj tab), (L + 1 + 1 + 1 + 1 + 1, o5), (L + 1 + 1 + 1 + 1, o4), (L + 1 + 1 + 1, o3), (L + 1 + 1, o2), (L + 1, o1)]) ++ (bl ++ (T3' ++ T4'))) B F16 X N16 T rfl rfl (fun p hp => nomatch hp) (fun p hp => .tail _ hp) (fun p hp q hq => nomatch hq) (by k_room) (by k_units) ?_
    rintro v17 bW h17 tk17 F17 N17 ne17 - ⟨xW, rfl, WW⟩
    rw [Tx_cps] at WW
    have hI3 : ∀ z : Addr × Obj, z ∈ [(I, oI), (C, oC), (D2, LCg.lst ys)] → z ∈ ((I, oI) :: (C, oC) :: (D2, LCg.lst ys) :: (D, listOf sl.toArray kD) :: (Db, listOf yb.toArray kb) :: (Dl, listOf yl.toArray kl) :: [(173, tabObj tab), (L + 1 + 1 + 1 + 1 + 1, o5), (L + 1 + 1 + 1 + 1, o4), (L + 1 + 1 + 1, o3), (L + 1 + 1, o2), (L + 1, o1)]) ++ (bl ++ (T3' ++ T4')) := fun z hz => List.mem_append_left _ (by
      rcases List.mem_cons.mp hz with rfl | hz
      · exact .head _
      · rcases List.mem_cons.mp hz with rfl | hz
        · exact .tail _ (.head _)
        · rw [List.mem_singleton.mp hz]; exact .tail _ (.tail _ (.head _)))
    have hB3 : ∀ z ∈ (D, listOf sl.toArray kD) :: (Db, listOf yb.toArray kb) :: (Dl, listOf yl.toArray kl) :: [(173, tabObj tab), (L + 1 + 1 + 1 + 1 + 1, o5), (L + 1 + 1 + 1 + 1, o4), (L + 1 + 1 + 1, o3), (L + 1 + 1, o2), (L + 1, o1)], z ∈ ((I, oI) :: (C, oC) :: (D2, LCg.lst ys) :: (D, listOf sl.toArray kD) :: (Db, listOf yb.toArray kb) :: (Dl, listOf yl.toArray kl) :: [(173, tabObj tab), (L + 1 + 1 + 1 + 1 + 1, o5), (L + 1 + 1 + 1 + 1, o4), (L + 1 + 1 + 1, o3), (L + 1 + 1, o2), (L + 1, o1)]) ++ (bl ++ (T3' ++ T4')) := fun z hz => List.mem_append_left _ (.tail _ (.tail _ (.tail _ hz)))
    refine LCg.CompEnd.intro F17 N17 (((D, listOf sl.toArray kD) :: (Db, listOf yb.toArray kb) :: (Dl, listOf yl.toArray kl) :: [(173, tabObj tab), (L + 1 + 1 + 1 + 1 + 1, o5), (L + 1 + 1 + 1 + 1, o4), (L + 1 + 1 + 1, o3), (L + 1 + 1, o2), (L + 1, o1)]) ++ ((bW ++ bl) ++ (T3' ++ T4'))) ?_ (LCg.Off3.of ?_) (.inr ⟨_, .head _, rfl, _, rfl⟩) ⟨T3', T4', bW ++ bl, S3', S4', ?_, rfl, ?_⟩
    · intro p hp
      rcases List.mem_cons.mp hp with rfl | hp
      · exact List.mem_append_right _ (hI3 _ (.head _))
      · rcases List.mem_cons.mp hp with rfl | hp
        · exact List.mem_append_right _ (hI3 _ (.tail _ (.head _)))
        · rcases List.mem_cons.mp hp with rfl | hp
          · exact List.mem_append_right _ (hI3 _ (.tail _ (.tail _ (.head _))))
          · rcases List.mem_append.mp hp with hp | hp
            · exact List.mem_append_right _ (hB3 p hp)
            · rcases List.mem_append.mp hp with hp | hp
              · rcases List.mem_append.mp hp with hp | hp
                · exact List.mem_append_left _ hp
                · exact List.mem_append_right _ (List.mem_append_right _ (List.mem_append_left _ hp))
              · exact List.mem_append_right _ (List.mem_append_right _ (List.mem_append_right _ hp))
    · intro p hp
      rcases List.mem_append.mp hp with hp | hp
      · exact om p (List.mem_append_left _ hp)
      · rcases List.mem_append.mp hp with hp | hp
        · rcases List.mem_append.mp hp with hp | hp
          · exact ⟨ne17 p hp _ (hI3 _ (.head _)), ne17 p hp _ (hI3 _ (.tail _ (.head _))), ne17 p hp _ (hI3 _ (.tail _ (.tail _ (.head _))))⟩
          · exact om p (List.mem_append_right _ (List.mem_append_left _ hp))
        · exact ⟨(off9 (I, oI) (.head _) p hp).symm, (off9 (C, oC) (.tail _ (.head _)) p hp).symm, (off9 (D2, LCg.lst ys) (.tail _ (.tail _ (.head _))) p hp).symm⟩
    · refine hL4.snoc ?_
      rw [show sv.getD i 0 = x from by rw [List.getD_eq_getElem?_getD, hxs]; rfl, ← hq]
      exact WW
    · intro z hz r hr
      rcases List.mem_append.mp hz with hz | hz
      · exact off9 z (.tail _ (.tail _ (.tail _ (List.mem_append_left _ hz)))) r hr
      · rcases List.mem_append.mp hz with hz | hz
        · exact ne17 z hz r (List.mem_append_right _ (List.mem_append_right _ hr))
        · exact off9 z (.tail _ (.tail _ (.tail _ (List.mem_append_right _ hz)))) r hr
  · rintro ys news ⟨T3', T4', bl, S3', S4', hL4, rfl, offT'⟩ Dw h8 tk8 F11 N11 oD
    rw [List.size_toArray] at hL4
    subst hBB
    have F12 : Fr h₀ L h8 (wl3 script totals va text machine coins greatest over bya (some (.ref D)) (some (.ref Dw))) := Fr.congr F11 (by (intro y; unfold wl3; (rcases Classical.em (y = "script") with rfl | h0); exact rfl; (rcases Classical.em (y = "totals") with rfl | h1); exact rfl; (rcases Classical.em (y = "a") with rfl | h2); exact rfl; (rcases Classical.em (y = "text") with rfl | h3); exact rfl; (rcases Classical.em (y = "machine") with rfl | h4); exact rfl; (rcases Classical.em (y = "coins") with rfl | h5); exact rfl; (rcases Classical.em (y = "greatest") with rfl | h6); exact rfl; (rcases Classical.em (y = "over") with rfl | h7); exact rfl; (rcases Classical.em (y = "by_a") with rfl | h8); exact rfl; (rcases Classical.em (y = "sums") with rfl | h9); exact rfl; (rcases Classical.em (y = "needed") with rfl | h10); exact rfl; (try simp only [if_neg h0, if_neg h1, if_neg h2, if_neg h3, if_neg h4, if_neg h5, if_neg h6, if_neg h7, if_neg h8, if_neg h9, if_neg h10]); (first | done | exact rfl | (show List.lookup y (_ :: _) = none; simp only [List.lookup, beq_eq_false_iff_ne.mpr h0, beq_eq_false_iff_ne.mpr h1, beq_eq_false_iff_ne.mpr h2, beq_eq_false_iff_ne.mpr h3, beq_eq_false_iff_ne.mpr h4, beq_eq_false_iff_ne.mpr h5, beq_eq_false_iff_ne.mpr h6, beq_eq_false_iff_ne.mpr h7, beq_eq_false_iff_ne.mpr h8, beq_eq_false_iff_ne.mpr h9, beq_eq_false_iff_ne.mpr h10]) | (simp only [List.lookup, beq_eq_false_iff_ne.mpr h0, beq_eq_false_iff_ne.mpr h1, beq_eq_false_iff_ne.mpr h2, beq_eq_false_iff_ne.mpr h3, beq_eq_false_iff_ne.mpr h4, beq_eq_false_iff_ne.mpr h5, beq_eq_false_iff_ne.mpr h6, beq_eq_false_iff_ne.mpr h7, beq_eq_false_iff_ne.mpr h8, beq_eq_false_iff_ne.mpr h9, beq_eq_false_iff_ne.mpr h10]; done))))
    refine stJ (s := { s with heap := h8, toks := tk8 }) (kw := ys.length) (kD := kD) (kl := kl) (tab := tab) (o1 := o1) (o2 := o2) (o4 := o4) (o5 := o5) (by exact rfl) B X T S3' S4' ok k3 hyl hsl hs3 hs60 hL4 F12 (fun q hq => N11 q ?_) hL hd' hu hQ
    rcases List.mem_cons.mp hq with rfl | hq
    · exact .head _
    · rcases List.mem_cons.mp hq with rfl | hq
      · exact .tail _ (.head _)
      · exact .tail _ (.tail _ (.tail _ hq))
end

section
variable {w : World} {dp un : Nat} {gd : Option (List Code)} {outer : List Env} {A₀ : Around} {base h₀ : Heap} {L fa : Addr} {cd : Value} {tp : Program} {tl : List Str} {mean : ExcName → Option Value} {mg mb : Str → Option Value} {s : Shared} {Q : Flow → Shared → Prop} {E : Value → Shared → Prop} {rest : List Stmt} {scope : Scope}
theorem stH (hdef : lawRest ((hd.heap_1 w.params).lookup 219) 18 = some (rest, scope)) (B : Below A₀ base outer h₀) (X : (hd.heap_1 w.params).In h₀) (T : Top tp tl mean mg mb h₀)
    {sc : Addr} {vs : List Value} {ns : List Int} (hsc : h₀.IsList sc vs.toArray) (hi : IntsAre vs ns) (hl : ns.length ≤ 63)
    {T3 T4 : List (Addr × Obj)} {tab : Array Value} (S3 : TabSt 37 35 4 "_int2digits.<locals>.inner" T3) (S4 : TabSt 44 50 4 "_digits2int.<locals>.inner" T4)
    {a b : Nat} (ok : Ok3 a b) {o1 o2 o3 o4 o5 : Obj} {Dl Db : Addr} {yl yb : List Value} {kl kb : Nat} {tb tg : Tok} {totals va text machine coins over bya : Option Value}
    (k1 : cellIs o1 (some (.int (b : Int) tb))) (k3 : cellIs o3 (some (.ref Dl))) (k5 : cellIs o5 (some (.ref Db))) (ha : 2 ≤ a ∧ a ≤ 7)
    (hyl : IntsAre yl ((lackOf a b).map fun x : Nat => (x : Int))) (hyb : StrsAre yb ((shortest (paidOf a b) b).map blank))
    (F : Fr h₀ L s.heap (wl3 (some (.ref sc)) totals va text machine coins (some (.int ((a : Int) * b - a - b) tg)) over bya none none))
    (N : News h₀ L s.heap ((Db, listOf yb.toArray kb) :: (Dl, listOf yl.toArray kl) :: [(173, tabObj tab), (L + 1 + 1 + 1 + 1 + 1, o5), (L + 1 + 1 + 1 + 1, o4), (L + 1 + 1 + 1, o3), (L + 1 + 1, o2), (L + 1, o1)] ++ (T3 ++ T4)))
    (offT : ∀ q ∈ (Db, listOf yb.toArray kb) :: (Dl, listOf yl.toArray kl) :: [(173, tabObj tab), (L + 1 + 1 + 1 + 1 + 1, o5), (L + 1 + 1 + 1 + 1, o4), (L + 1 + 1 + 1, o3), (L + 1 + 1, o2), (L + 1, o1)], ∀ r ∈ T3 ++ T4, q.1 ≠ r.1)
    (hL : 173 < L) (hd' : dp + 200 < recursionLimit) (hu : un + 2000 < cLine) (hQ : LawEnd h₀ L Q s) :
    wpAny (model Challenge.rw_pe0259_03.row.prog w) (Ar dp un gd (envOfC "law" scope L fa cd :: outer)) (execs rest (envOfC "law" scope L fa cd)) Q E s := by
  revert hdef
  k_fill
  intro hdef
  refine' law_out ?hl hdef ?_
  (case hl => k_is)
  clear hdef
  intro hdef
  cases hdef
  have codeHd := codeHd_of_K (c := 41) (P := 37) X (by kernel_rfl)
  (try dsimp only [List.drop]); (try k_fold)
  unfold wl3 at F
  simp only [List.cons_append, List.nil_append] at N
  ((repeat' ((fail_if_success (with_reducible show wpAny _ _ (eval (Expr.ListComp _ _ _ _) _) _ _ _)); (first | (k_unfold; (try dsimp only)) | ((with_reducible first | show wpAny _ _ (exec _ _) _ _ _ | show wpAny _ _ (execs _ _) _ _ _); k_fold) | (k_end; wrow_close) | walk1 | (dsimp only; walk1) | (leave1; (try dsimp only))))) <;> (repeat (k_unfold; (try dsimp only))))
  rename Addr => G
  rename (_ < G ∧ _ < G ∧ _ < G ∧ _) => lG
  rename Fr _ _ _ _ => F1
  rename News _ _ _ _ => N1
  refine LCg.ListComp_U (F₀ := F1) (by with_unfolding_all rfl) (by decide) (by rfl) (by decide) (by rfl) ?_
  ((repeat' ((fail_if_success (with_reducible show LCg.CompSrc _ _ _ _ _ _ _ _ _ _ _ _ _ _)); (first | (k_unfold; (try dsimp only)) | ((with_reducible first | show wpAny _ _ (exec _ _) _ _ _ | show wpAny _ _ (execs _ _) _ _ _); k_fold) | (k_end; wrow_close) | walk1 | (dsimp only; walk1) | (leave1; (try dsimp only))))) <;> (repeat (k_unfold; (try dsimp only))))
  rename (IntsAre _ (List.take _ _)) => hdv
  rename Addr => Ds
  rename List Value => dv
  rename Fr _ _ _ _ => F2
  rename News _ _ _ _ => N2
  obtain ⟨pk, hpk⟩ : ∃ pk, pk = List.take (min 5 ns.length - 3) (List.drop 3 ns) := ⟨_, rfl⟩
  rw [← hpk] at hdv
  have hpl : pk.length ≤ 2 := by rw [hpk, List.length_take]; exact Nat.le_trans (Nat.min_le_left _ _) (Nat.sub_le_sub_right (Nat.min_le_left _ _) 3)
  have hdl : dv.length = pk.length := hdv.length
  refine LCg.CompSrc.ledger (k := 0) (its := dv.toArray) rfl F2 N2 (.head _) (by rw [List.size_toArray, sizeLine_eq]; omega) (fun g' => ?_)
  obtain ⟨NW, hNW⟩ : ∃ NW, NW = (Ds, listOf dv.toArray 0) :: (G, listOf #[Value.int ((a : Int) * b - a - b) tg] 0) :: (Db, listOf yb.toArray kb) :: (Dl, listOf yl.toArray kl) :: [(173, tabObj tab), (L + 1 + 1 + 1 + 1 + 1, o5), (L + 1 + 1 + 1 + 1, o4), (L + 1 + 1 + 1, o3), (L + 1 + 1, o2), (L + 1, o1)] ++ (T3 ++ T4) := ⟨_, rfl⟩
  refine rest_of dv.toArray.size (fun i ys news => IntsAre ys ((pk.take i).map fun x => (((x.fmod 50).toNat : Nat) : Int)) ∧ news = NW) ?_ ?_ _ 0 [] _ (Nat.zero_add _) ⟨.nil, hNW.symm⟩
  · rintro i ys news v I oI C oC D m₂ h8 tk8 E' hi2 ⟨hys, rfl⟩ hv hns hx F11 N11 o3' ne
    obtain ⟨tx', x, hxx, rfl⟩ := ints_at hdv (by simpa using hv)
    subst hNW
    clear F2 N2
    try clear F1 N1
    simp only [List.cons_append, List.nil_append] at N11
    (try dsimp only); (try k_fold)
    ((repeat' ((fail_if_success (with_reducible show LCg.CompEnd _ _ _ _ _ _ _ _ _ _ _ _ _ _)); (first | (k_unfold; (try dsimp only)) | ((with_reducible first | show wpAny _ _ (exec _ _) _ _ _ | show wpAny _ _ (execs _ _) _ _ _); k_fold) | (k_end; wrow_close) | walk1 | (dsimp only; walk1) | (leave1; (try dsimp only))))) <;> (repeat (k_unfold; (try dsimp only))))
    rename Fr _ _ _ _ => F14
    rename News _ _ _ _ => N14
    refine LCg.CompEnd.intro F14 N14 _ (fun q hq => hq) o3' (.inr ⟨_, .head _, rfl, _, rfl⟩) ⟨?_, rfl⟩
    rw [List.take_add_one, hxx]
    show IntsAre _ (List.map _ (_ ++ [x]))
    rw [List.map_append, fmod50]
    exact ints_snoc1 hys
  · rintro ys news ⟨hys, rfl⟩ Dc h8 tk8 F11 N11 oD
    subst hNW
    rw [List.size_toArray, hdl, List.take_length] at hys
    clear F2 N2
    try clear F1 N1
    simp only [List.cons_append, List.nil_append] at N11
    (try dsimp only); (try k_fold)
    ((repeat' ((fail_if_success (with_reducible show wpAny _ _ (execs (Stmt.Assign [Expr.Name (Str.ofString "needed") _] _ _ :: _) _) _ _ _)); (first | (k_unfold; (try dsimp only)) | ((with_reducible first | show wpAny _ _ (exec _ _) _ _ _ | show wpAny _ _ (execs _ _) _ _ _); k_fold) | (k_end; wrow_close) | walk1 | (dsimp only; walk1) | (leave1; (try dsimp only))))) <;> (repeat (k_unfold; (try dsimp only))))
    rename Addr => Dn
    rename List Value => nv
    rename (IntsAre _ ([_] ++ _)) => hnv
    rename (_ < Dn ∧ _ < Dn ∧ _ < Dn ∧ _) => lDn
    rename Fr _ _ _ _ => F15
    rename News _ _ _ _ => N15
    have h3 : 2 * b ≤ a * b := Nat.mul_le_mul_right b ha.1
    have h4 : a * 2 ≤ a * b := Nat.mul_le_mul_left a ok.hb.1
    have hsv : IntsAre nv ((sumsOf a b ns).map fun x : Nat => (x : Int)) := by
      unfold sumsOf
      rw [← hpk, List.map_cons, List.map_map]
      rw [show ((a : Int) * b - a - b) = ((a * b - a - b : Nat) : Int) from by
        have : ((a * b : Nat) : Int) = (a : Int) * b := Int.natCast_mul a b
        omega] at hnv
      exact hnv
    have F16 : Fr h₀ L _ (wl3 (some (.ref sc)) totals va text machine coins (some (.int ((a : Int) * b - a - b) tg)) over bya (some (.ref Dn)) none) := Fr.congr F15 (by (intro y; unfold wl3; (rcases Classical.em (y = "script") with rfl | h0); exact rfl; (rcases Classical.em (y = "totals") with rfl | h1); exact rfl; (rcases Classical.em (y = "a") with rfl | h2); exact rfl; (rcases Classical.em (y = "text") with rfl | h3); exact rfl; (rcases Classical.em (y = "machine") with rfl | h4); exact rfl; (rcases Classical.em (y = "coins") with rfl | h5); exact rfl; (rcases Classical.em (y = "greatest") with rfl | h6); exact rfl; (rcases Classical.em (y = "over") with rfl | h7); exact rfl; (rcases Classical.em (y = "by_a") with rfl | h8); exact rfl; (rcases Classical.em (y = "sums") with rfl | h9); exact rfl; (rcases Classical.em (y = "needed") with rfl | h10); exact rfl; (try simp only [if_neg h0, if_neg h1, if_neg h2, if_neg h3, if_neg h4, if_neg h5, if_neg h6, if_neg h7, if_neg h8, if_neg h9, if_neg h10]); (first | done | exact rfl | (show List.lookup y (_ :: _) = none; simp only [List.lookup, beq_eq_false_iff_ne.mpr h0, beq_eq_false_iff_ne.mpr h1, beq_eq_false_iff_ne.mpr h2, beq_eq_false_iff_ne.mpr h3, beq_eq_false_iff_ne.mpr h4, beq_eq_false_iff_ne.mpr h5, beq_eq_false_iff_ne.mpr h6, beq_eq_false_iff_ne.mpr h7, beq_eq_false_iff_ne.mpr h8, beq_eq_false_iff_ne.mpr h9, beq_eq_false_iff_ne.mpr h10]) | (simp only [List.lookup, beq_eq_false_iff_ne.mpr h0, beq_eq_false_iff_ne.mpr h1, beq_eq_false_iff_ne.mpr h2, beq_eq_false_iff_ne.mpr h3, beq_eq_false_iff_ne.mpr h4, beq_eq_false_iff_ne.mpr h5, beq_eq_false_iff_ne.mpr h6, beq_eq_false_iff_ne.mpr h7, beq_eq_false_iff_ne.mpr h8, beq_eq_false_iff_ne.mpr h9, beq_eq_false_iff_ne.mpr h10]; done))))
    refine stI (s := { s with heap := _, toks := _ }) (kD := 0) (kl := kl) (kb := kb) (tab := tab) (o2 := o2) (o4 := o4) (by exact rfl) B X T S3 S4 ok k1 k3 k5 hyl hyb hsv (sums_len a b ns) (sums_lt ha.2 ok.hb ns) F16 (fun q hq => N15 q ?_) ?_ hL hd' hu hQ
    · rcases List.mem_cons.mp hq with rfl | hq
      · exact .head _
      · exact .tail _ (.tail _ (.tail _ (.tail _ hq)))
    · refine List.forall_mem_cons.mpr ⟨fun r hr => ?_, offT⟩
      obtain ⟨e1, e2, e3, e4, e5, e6, e7, e8, e9, e10, e11, e12⟩ := lDn
      exact (Nat.ne_of_lt (allLt_mem e12 r hr)).symm
end

section
variable {w : World} {dp un : Nat} {gd : Option (List Code)} {outer : List Env} {A₀ : Around} {base h₀ : Heap} {L fa : Addr} {cd : Value} {tp : Program} {tl : List Str} {mean : ExcName → Option Value} {mg mb : Str → Option Value} {s : Shared} {Q : Flow → Shared → Prop} {E : Value → Shared → Prop} {rest : List Stmt} {scope : Scope}
theorem stG (hdef : lawRest ((hd.heap_1 w.params).lookup 219) 15 = some (rest, scope)) (B : Below A₀ base outer h₀) (X : (hd.heap_1 w.params).In h₀) (T : Top tp tl mean mg mb h₀)
    {sc : Addr} {vs : List Value} {ns : List Int} (hsc : h₀.IsList sc vs.toArray) (hi : IntsAre vs ns) (hl : ns.length ≤ 63)
    {T3 T4 : List (Addr × Obj)} {tab : Array Value} (S3 : TabSt 37 35 4 "_int2digits.<locals>.inner" T3) (S4 : TabSt 44 50 4 "_digits2int.<locals>.inner" T4)
    {a b : Nat} (ok : Ok3 a b) {o1 o2 o3 o4 o5 : Obj} {Dl Dp Dc : Addr} {yl yp : List Value} {kl kp kc : Nat} {ta tb tg i1 i2 : Tok} {totals text machine over : Option Value} {v5 : Option Value}
    (k1 : cellIs o1 (some (.int (b : Int) tb))) (k2 : cellIs o2 (some (.ref Dp))) (k3 : cellIs o3 (some (.ref Dl))) (k5 : cellIs o5 v5) (ha : 2 ≤ a ∧ a ≤ 7)
    (hyl : IntsAre yl ((lackOf a b).map fun x : Nat => (x : Int))) (hyp : StrsAre yp ((paidOf a b).map blank))
    (F : Fr h₀ L s.heap (wl3 (some (.ref sc)) totals (some (.int (a : Int) ta)) text machine (some (.ref Dc)) (some (.int ((a : Int) * b - a - b) tg)) over none none none))
    (N : News h₀ L s.heap ((Dl, listOf yl.toArray kl) :: (Dp, listOf yp.toArray kp) :: (Dc, listOf (two a b i1 i2).toArray kc) :: [(173, tabObj tab), (L + 1 + 1 + 1 + 1 + 1, o5), (L + 1 + 1 + 1 + 1, o4), (L + 1 + 1 + 1, o3), (L + 1 + 1, o2), (L + 1, o1)] ++ (T3 ++ T4)))
    (offT : ∀ q ∈ (Dl, listOf yl.toArray kl) :: (Dp, listOf yp.toArray kp) :: (Dc, listOf (two a b i1 i2).toArray kc) :: [(173, tabObj tab), (L + 1 + 1 + 1 + 1 + 1, o5), (L + 1 + 1 + 1 + 1, o4), (L + 1 + 1 + 1, o3), (L + 1 + 1, o2), (L + 1, o1)], ∀ r ∈ T3 ++ T4, q.1 ≠ r.1)
    (offD : ∀ q ∈ [(Dl, listOf yl.toArray kl), (Dp, listOf yp.toArray kp), (Dc, listOf (two a b i1 i2).toArray kc)], q.1 ≠ L + 1 + 1 + 1 + 1 + 1)
    (hL : 173 < L) (hd' : dp + 200 < recursionLimit) (hu : un + 2000 < cLine) (hQ : LawEnd h₀ L Q s) :
    wpAny (model Challenge.rw_pe0259_03.row.prog w) (Ar dp un gd (envOfC "law" scope L fa cd :: outer)) (execs rest (envOfC "law" scope L fa cd)) Q E s := by
  revert hdef
  k_fill
  intro hdef
  refine' law_out ?hl hdef ?_
  (case hl => k_is)
  clear hdef
  intro hdef
  cases hdef
  have codeHd := codeHd_of_K (c := 41) (P := 37) X (by kernel_rfl)
  (try dsimp only [List.drop]); (try k_fold)
  unfold wl3 at F
  simp only [List.cons_append, List.nil_append] at N
  obtain ⟨hb2, hb9⟩ := ok.hb
  ((repeat' ((fail_if_success (with_reducible show wpAny _ _ (call (Value.ref 209) _) _ _ _)); (first | (k_unfold; (try dsimp only)) | ((with_reducible first | show wpAny _ _ (exec _ _) _ _ _ | show wpAny _ _ (execs _ _) _ _ _); k_fold) | (k_end; wrow_close) | walk1 | (dsimp only; walk1) | (leave1; (try dsimp only))))) <;> (repeat (k_unfold; (try dsimp only))))
  rename Fr _ _ _ _ => F1
  rename News _ _ _ _ => N1
  refine use_more (shortest_c w Dp yp kp (paidOf a b) a _ hyp (by omega) (by have := ok.plen; omega) (fun q hq => by have := ok.pmax q hq; omega) ok.pa) (fun n v b h => by obtain ⟨D, ys, k', -, -, -, e⟩ := h; exact ⟨[(D, listOf ys.toArray k')], e⟩) B F1 X N1 T rfl rfl (List.forall_mem_cons.mpr ⟨.tail _ (.head _), List.forall_mem_nil _⟩) (by k_room) (by k_units) ?_
  rintro v nb h2 tk2 F2 N2 ne2 ⟨Da, ya, ka, rfl, hya, hDaP, eb⟩
  obtain rfl : nb = [(Da, listOf ya.toArray ka)] := List.append_cancel_right eb
  simp only [List.cons_append, List.nil_append] at N2
  have neA : ∀ q ∈ (Dl, listOf yl.toArray kl) :: (Dp, listOf yp.toArray kp) :: (Dc, listOf (two a b i1 i2).toArray kc) :: [(173, tabObj tab), (L + 1 + 1 + 1 + 1 + 1, o5), (L + 1 + 1 + 1 + 1, o4), (L + 1 + 1 + 1, o3), (L + 1 + 1, o2), (L + 1, o1)] ++ (T3 ++ T4), Da ≠ q.1 := fun q hq => by
    by_cases e : q.1 = Dp
    · rw [e]; exact hDaP
    · exact ne2 _ (.head _) q hq (fun h => e (List.mem_singleton.mp h))
  clear ne2 eb F1 N1
  obtain ⟨d1, d2, d3⟩ : Dl ≠ L + 1 + 1 + 1 + 1 + 1 ∧ Dp ≠ L + 1 + 1 + 1 + 1 + 1 ∧ Dc ≠ L + 1 + 1 + 1 + 1 + 1 := ⟨offD _ (.head _), offD _ (.tail _ (.head _)), offD _ (.tail _ (.tail _ (.head _)))⟩
  have d4 : Da ≠ L + 1 + 1 + 1 + 1 + 1 := neA (L + 1 + 1 + 1 + 1 + 1, o5) (.tail _ (.tail _ (.tail _ (.tail _ (.head _)))))
  have d5 : ∀ q ∈ T3 ++ T4, q.1 ≠ L + 1 + 1 + 1 + 1 + 1 := fun r hr => (offT (L + 1 + 1 + 1 + 1 + 1, o5) (.tail _ (.tail _ (.tail _ (.tail _ (.head _))))) r hr).symm
  have c6 := kn37 hL
  (try dsimp only)
  ((repeat' ((fail_if_success (with_reducible show wpAny _ _ (call (Value.ref 209) _) _ _ _)); (first | (k_unfold; (try dsimp only)) | ((with_reducible first | show wpAny _ _ (exec _ _) _ _ _ | show wpAny _ _ (execs _ _) _ _ _); k_fold) | (k_end; wrow_close) | walk1 | (dsimp only; walk1) | (leave1; (try dsimp only))))) <;> (repeat (k_unfold; (try dsimp only))))
  rename Fr _ _ _ _ => F3
  rename News _ _ _ _ => N3
  refine use_more (shortest_c w Dp yp kp (paidOf a b) b _ hyp (by omega) (by have := ok.plen; omega) (fun q hq => by have := ok.pmax q hq; omega) ok.pb) (fun n v b h => by obtain ⟨D, ys, k', -, -, -, e⟩ := h; exact ⟨[(D, listOf ys.toArray k')], e⟩) B F3 X N3 T rfl rfl (List.forall_mem_cons.mpr ⟨.tail _ (.tail _ (.head _)), List.forall_mem_nil _⟩) (by k_room) (by k_units) ?_
  rintro v nb h4 tk4 F4 N4 ne4 ⟨Db, yb, kb, rfl, hyb, hDbP, eb⟩
  obtain rfl : nb = [(Db, listOf yb.toArray kb)] := List.append_cancel_right eb
  simp only [List.cons_append, List.nil_append] at N4
  have neB : ∀ q ∈ (Da, listOf ya.toArray ka) :: (Dl, listOf yl.toArray kl) :: (Dp, listOf yp.toArray kp) :: (Dc, listOf (two a b i1 i2).toArray kc) :: [(173, tabObj tab), (L + 1 + 1 + 1 + 1 + 1, o5), (L + 1 + 1 + 1 + 1, o4), (L + 1 + 1 + 1, o3), (L + 1 + 1, o2), (L + 1, o1)] ++ (T3 ++ T4), Db ≠ q.1 := fun q hq => by
    by_cases e : q.1 = Dp
    · rw [e]; exact hDbP
    · exact ne4 _ (.head _) q hq (fun h => e (List.mem_singleton.mp h))
  clear ne4 eb F3 N3
  have d6 : Db ≠ L + 1 + 1 + 1 + 1 + 1 := neB (L + 1 + 1 + 1 + 1 + 1, o5) (.tail _ (.tail _ (.tail _ (.tail _ (.tail _ (.head _))))))
  have hyls : (List.toArray yl).size = (lackOf a b).length := by rw [List.size_toArray, hyl.length, List.length_map]
  have hll : (lackOf a b).length < 500 := by
    have h1 := ok.half
    have h2 : (a - 1) * (b - 1) ≤ 6 * 7 := Nat.mul_le_mul (by omega) (by omega)
    omega
  have hla : (shortest (paidOf a b) a).length = a := by unfold shortest; rw [List.length_map, List.length_range]
  have hlb : (shortest (paidOf a b) b).length = b := by unfold shortest; rw [List.length_map, List.length_range]
  (try dsimp only)
  ((repeat' ((fail_if_success (with_reducible show wpAny _ _ (call (Value.ref 214) _) _ _ _)); (first | (k_unfold; (try dsimp only)) | ((with_reducible first | show wpAny _ _ (exec _ _) _ _ _ | show wpAny _ _ (execs _ _) _ _ _); k_fold) | (k_end; wrow_close) | walk1 | (dsimp only; walk1) | (leave1; (try dsimp only))))) <;> (repeat (k_unfold; (try dsimp only))))
  rename Fr _ _ _ _ => F5
  rename News _ _ _ _ => N5
  rename Obj => o6
  rename (Obj.data o6 = Data.cell _) => k6
  have ll : ∀ q ∈ (Db, listOf yb.toArray kb) :: (Da, listOf ya.toArray ka) :: (Dl, listOf yl.toArray kl) :: (Dp, listOf yp.toArray kp) :: (Dc, listOf (two a b i1 i2).toArray kc) :: [(173, tabObj tab), (L + 1 + 1 + 1 + 1 + 1, o6), (L + 1 + 1 + 1 + 1, o4), (L + 1 + 1 + 1, o3), (L + 1 + 1, o2), (L + 1, o1)], ∀ r ∈ T3 ++ T4, q.1 ≠ r.1 := by
    refine List.forall_mem_cons.mpr ⟨fun r hr => neB r (List.mem_append_right _ hr), List.forall_mem_cons.mpr ⟨fun r hr => neA r (List.mem_append_right _ hr), ?_⟩⟩
    exact fst_forall (l := (Dl, listOf yl.toArray kl) :: (Dp, listOf yp.toArray kp) :: (Dc, listOf (two a b i1 i2).toArray kc) :: [(173, tabObj tab), (L + 1 + 1 + 1 + 1 + 1, o5), (L + 1 + 1 + 1 + 1, o4), (L + 1 + 1 + 1, o3), (L + 1 + 1, o2), (L + 1, o1)]) (P := fun x => ∀ r ∈ T3 ++ T4, x ≠ r.1) (by rfl) offT
  refine lead_use (aa := (Db, listOf yb.toArray kb) :: (Da, listOf ya.toArray ka) :: (Dl, listOf yl.toArray kl) :: (Dp, listOf yp.toArray kp) :: (Dc, listOf (two a b i1 i2).toArray kc) :: [(173, tabObj tab), (L + 1 + 1 + 1 + 1 + 1, o6), (L + 1 + 1 + 1 + 1, o4), (L + 1 + 1 + 1, o3), (L + 1 + 1, o2), (L + 1, o1)]) (its := ya) (k := ka) (ws := shortest (paidOf a b) a) S3 S4 ll (.tail _ (.head _)) hya (by omega) (by omega) (by omega) (fun q hq => by have := ok.smax q (List.mem_append_left _ hq); omega) ok.toldA B F5 X N5 T rfl rfl (by k_room) (by k_units) ?_
  intro T3' T4' h6 tk6 S3' S4' ll2 F6 N6
  clear F5 N5
  simp only [List.cons_append, List.nil_append] at N6
  (try dsimp only)
  ((repeat' ((fail_if_success (with_reducible show wpAny _ _ (call (Value.ref 214) _) _ _ _)); (first | (k_unfold; (try dsimp only)) | ((with_reducible first | show wpAny _ _ (exec _ _) _ _ _ | show wpAny _ _ (execs _ _) _ _ _); k_fold) | (k_end; wrow_close) | walk1 | (dsimp only; walk1) | (leave1; (try dsimp only))))) <;> (repeat (k_unfold; (try dsimp only))))
  rename Fr _ _ _ _ => F7
  rename News _ _ _ _ => N7
  refine lead_use (aa := (Db, listOf yb.toArray kb) :: (Da, listOf ya.toArray ka) :: (Dl, listOf yl.toArray kl) :: (Dp, listOf yp.toArray kp) :: (Dc, listOf (two a b i1 i2).toArray kc) :: [(173, tabObj tab), (L + 1 + 1 + 1 + 1 + 1, o6), (L + 1 + 1 + 1 + 1, o4), (L + 1 + 1 + 1, o3), (L + 1 + 1, o2), (L + 1, o1)]) (its := yb) (k := kb) (ws := shortest (paidOf a b) b) S3' S4' ll2 (.head _) hyb (by omega) (by omega) (by omega) (fun q hq => by have := ok.smax q (List.mem_append_right _ hq); omega) ok.toldB B F7 X N7 T rfl rfl (by k_room) (by k_units) ?_
  intro T3'' T4'' h8 tk8 S3'' S4'' ll3 F8 N8
  clear F7 N7
  try clear F6
  try clear N6
  simp only [List.cons_append, List.nil_append] at N8
  (try dsimp only)
  ((repeat' ((fail_if_success (with_reducible show wpAny _ _ (execs (Stmt.Assign [Expr.Name (Str.ofString "sums") _] _ _ :: _) _) _ _ _)); (first | (k_unfold; (try dsimp only)) | ((with_reducible first | show wpAny _ _ (exec _ _) _ _ _ | show wpAny _ _ (execs _ _) _ _ _); k_fold) | (k_end; wrow_close) | walk1 | (dsimp only; walk1) | (leave1; (try dsimp only))))) <;> (repeat (k_unfold; (try dsimp only))))
  rename Fr _ _ _ _ => F9
  rename News _ _ _ _ => N9
  have F10 : Fr h₀ L _ (wl3 (some (.ref sc)) totals (some (.int (a : Int) ta)) text machine (some (.ref Dc)) (some (.int ((a : Int) * b - a - b) tg)) over (some (.ref Da)) none none) := Fr.congr F9 (by (intro y; unfold wl3; (rcases Classical.em (y = "script") with rfl | h0); exact rfl; (rcases Classical.em (y = "totals") with rfl | h1); exact rfl; (rcases Classical.em (y = "a") with rfl | h2); exact rfl; (rcases Classical.em (y = "text") with rfl | h3); exact rfl; (rcases Classical.em (y = "machine") with rfl | h4); exact rfl; (rcases Classical.em (y = "coins") with rfl | h5); exact rfl; (rcases Classical.em (y = "greatest") with rfl | h6); exact rfl; (rcases Classical.em (y = "over") with rfl | h7); exact rfl; (rcases Classical.em (y = "by_a") with rfl | h8); exact rfl; (rcases Classical.em (y = "sums") with rfl | h9); exact rfl; (rcases Classical.em (y = "needed") with rfl | h10); exact rfl; (try simp only [if_neg h0, if_neg h1, if_neg h2, if_neg h3, if_neg h4, if_neg h5, if_neg h6, if_neg h7, if_neg h8, if_neg h9, if_neg h10]); (first | done | exact rfl | (show List.lookup y (_ :: _) = none; simp only [List.lookup, beq_eq_false_iff_ne.mpr h0, beq_eq_false_iff_ne.mpr h1, beq_eq_false_iff_ne.mpr h2, beq_eq_false_iff_ne.mpr h3, beq_eq_false_iff_ne.mpr h4, beq_eq_false_iff_ne.mpr h5, beq_eq_false_iff_ne.mpr h6, beq_eq_false_iff_ne.mpr h7, beq_eq_false_iff_ne.mpr h8, beq_eq_false_iff_ne.mpr h9, beq_eq_false_iff_ne.mpr h10]) | (simp only [List.lookup, beq_eq_false_iff_ne.mpr h0, beq_eq_false_iff_ne.mpr h1, beq_eq_false_iff_ne.mpr h2, beq_eq_false_iff_ne.mpr h3, beq_eq_false_iff_ne.mpr h4, beq_eq_false_iff_ne.mpr h5, beq_eq_false_iff_ne.mpr h6, beq_eq_false_iff_ne.mpr h7, beq_eq_false_iff_ne.mpr h8, beq_eq_false_iff_ne.mpr h9, beq_eq_false_iff_ne.mpr h10]; done))))
  refine stH (s := { s with heap := _, toks := _ }) (kl := kl) (kb := kb) (tab := tab) (o2 := o2) (o4 := o4) (by exact rfl) B X T hsc hi hl S3'' S4'' ok k1 k3 k6 ha hyl hyb F10 (fun q hq => N9 q ?_) ?_ hL hd' hu hQ
  · rcases List.mem_cons.mp hq with rfl | hq
    · exact .head _
    · rcases List.mem_cons.mp hq with rfl | hq
      · exact .tail _ (.tail _ (.head _))
      · exact .tail _ (.tail _ (.tail _ (.tail _ (.tail _ hq))))
  · refine List.forall_mem_cons.mpr ⟨ll3 _ (.head _), List.forall_mem_cons.mpr ⟨ll3 _ (.tail _ (.tail _ (.head _))), fun q hq => ll3 q (.tail _ (.tail _ (.tail _ (.tail _ (.tail _ hq)))))⟩⟩
end

section
variable {w : World} {dp un : Nat} {gd : Option (List Code)} {outer : List Env} {A₀ : Around} {base h₀ : Heap} {L fa : Addr} {cd : Value} {tp : Program} {tl : List Str} {mean : ExcName → Option Value} {mg mb : Str → Option Value} {s : Shared} {Q : Flow → Shared → Prop} {E : Value → Shared → Prop} {rest : List Stmt} {scope : Scope}
theorem stF (hdef : lawRest ((hd.heap_1 w.params).lookup 219) 14 = some (rest, scope)) (B : Below A₀ base outer h₀) (X : (hd.heap_1 w.params).In h₀) (T : Top tp tl mean mg mb h₀)
    {sc : Addr} {vs : List Value} {ns : List Int} (hsc : h₀.IsList sc vs.toArray) (hi : IntsAre vs ns) (hl : ns.length ≤ 63)
    {T3 T4 : List (Addr × Obj)} {tab : Array Value} (S3 : TabSt 37 35 4 "_int2digits.<locals>.inner" T3) (S4 : TabSt 44 50 4 "_digits2int.<locals>.inner" T4)
    {la : LexA} {adr : List Addr} {RO : Nat → List (Addr × Obj) → Prop} {txt : Str} {p : Nat} {blk : List (Addr × Obj)} (Rd : Reader w la.rd txt adr RO) (O : la.Ok adr) (M : MachSt w la RO (1 + nlTo txt p) "\n\t\r " [] p blk) (hp : p ≤ txt.length) (htl : txt.length < 2000) (hcod : codes txt p = [])
    {a b : Nat} (ok : Ok3 a b) {o1 o2 o3 o4 o5 : Obj} {Dm Dl Dp Dc : Addr} {ym yl yp : List Value} {km kl kp kc : Nat} {ta tb tg i1 i2 : Tok} {totals text over : Option Value} {v5 : Option Value}
    (k1 : cellIs o1 (some (.int (b : Int) tb))) (k2 : cellIs o2 (some (.ref Dp))) (k3 : cellIs o3 (some (.ref Dl))) (k4 : cellIs o4 (some (.ref Dm))) (k5 : cellIs o5 v5) (ha : 2 ≤ a ∧ a ≤ 7)
    (hym : IntsAre ym (marksOf a b)) (hyl : IntsAre yl ((lackOf a b).map fun x : Nat => (x : Int))) (hyp : StrsAre yp ((paidOf a b).map blank))
    (F : Fr h₀ L s.heap (wl3 (some (.ref sc)) totals (some (.int (a : Int) ta)) text (some (.ref la.x)) (some (.ref Dc)) (some (.int ((a : Int) * b - a - b) tg)) over none none none))
    (N : News h₀ L s.heap ((Dm, listOf ym.toArray km) :: (Dl, listOf yl.toArray kl) :: (Dp, listOf yp.toArray kp) :: (Dc, listOf (two a b i1 i2).toArray kc) :: [(173, tabObj tab), (L + 1 + 1 + 1 + 1 + 1, o5), (L + 1 + 1 + 1 + 1, o4), (L + 1 + 1 + 1, o3), (L + 1 + 1, o2), (L + 1, o1)] ++ (blk ++ (T3 ++ T4))))
    (offM : ∀ q ∈ (Dm, listOf ym.toArray km) :: (Dl, listOf yl.toArray kl) :: (Dp, listOf yp.toArray kp) :: (Dc, listOf (two a b i1 i2).toArray kc) :: [(173, tabObj tab), (L + 1 + 1 + 1 + 1 + 1, o5), (L + 1 + 1 + 1 + 1, o4), (L + 1 + 1 + 1, o3), (L + 1 + 1, o2), (L + 1, o1)], q.1 ∉ la.adrs ++ adr) (offTM : ∀ r ∈ T3 ++ T4, r.1 ∉ la.adrs ++ adr)
    (offT : ∀ q ∈ (Dl, listOf yl.toArray kl) :: (Dp, listOf yp.toArray kp) :: (Dc, listOf (two a b i1 i2).toArray kc) :: [(173, tabObj tab), (L + 1 + 1 + 1 + 1 + 1, o5), (L + 1 + 1 + 1 + 1, o4), (L + 1 + 1 + 1, o3), (L + 1 + 1, o2), (L + 1, o1)], ∀ r ∈ T3 ++ T4, q.1 ≠ r.1)
    (offD : ∀ q ∈ [(Dl, listOf yl.toArray kl), (Dp, listOf yp.toArray kp), (Dc, listOf (two a b i1 i2).toArray kc)], q.1 ≠ L + 1 + 1 + 1 + 1 + 1)
    (hL : 173 < L) (hd' : dp + 200 < recursionLimit) (hu : un + 2000 < cLine) (hQ : LawEnd h₀ L Q s) :
    wpAny (model Challenge.rw_pe0259_03.row.prog w) (Ar dp un gd (envOfC "law" scope L fa cd :: outer)) (execs rest (envOfC "law" scope L fa cd)) Q E s := by
  revert hdef
  k_fill
  intro hdef
  refine' law_out ?hl hdef ?_
  (case hl => k_is)
  clear hdef
  intro hdef
  cases hdef
  have codeHd := codeHd_of_K (c := 41) (P := 37) X (by kernel_rfl)
  (try dsimp only [List.drop]); (try k_fold)
  unfold wl3 at F
  obtain ⟨hb2, hb9⟩ := ok.hb
  have hml : (marksOf a b).length = lenM a b := by unfold marksOf digsOf; rw [List.length_map, List.length_range]
  have hyml : ym.length = lenM a b := by rw [hym.length, hml]
  have hl60 := ok.len.1
  obtain ⟨lt6, tw6, k6, l6, its6, hl6, hi6, rfl⟩ := id M
  simp only [lexObjs, List.cons_append, List.nil_append, List.append_assoc] at N
  ((repeat' ((fail_if_success (with_reducible show wpAny _ _ (eval (Expr.ListComp _ _ _ _) _) _ _ _)); (first | (k_unfold; (try dsimp only)) | ((with_reducible first | show wpAny _ _ (exec _ _) _ _ _ | show wpAny _ _ (execs _ _) _ _ _); k_fold) | (k_end; wrow_close) | walk1 | (dsimp only; walk1) | (leave1; (try dsimp only))))) <;> (repeat (k_unfold; (try dsimp only))))
  rename Fr _ _ _ _ => F1
  rename News _ _ _ _ => N1
  refine LCg.ListComp_U (F₀ := F1) (by with_unfolding_all rfl) (by decide) (by rfl) (by decide) (by rfl) ?_
  ((repeat' ((fail_if_success (with_reducible show LCg.CompSrc _ _ _ _ _ _ _ _ _ _ _ _ _ _)); (first | (k_unfold; (try dsimp only)) | ((with_reducible first | show wpAny _ _ (exec _ _) _ _ _ | show wpAny _ _ (execs _ _) _ _ _); k_fold) | (k_end; wrow_close) | walk1 | (dsimp only; walk1) | (leave1; (try dsimp only))))) <;> (repeat (k_unfold; (try dsimp only))))
  rename Fr _ _ _ _ => F2
  rename News _ _ _ _ => N2
  obtain ⟨NW, hNW⟩ : ∃ NW, NW = (Dm, listOf ym.toArray km) :: (Dl, listOf yl.toArray kl) :: (Dp, listOf yp.toArray kp) :: (Dc, listOf (two a b i1 i2).toArray kc) :: [(173, tabObj tab), (L + 1 + 1 + 1 + 1 + 1, o5), (L + 1 + 1 + 1 + 1, o4), (L + 1 + 1 + 1, o3), (L + 1 + 1, o2), (L + 1, o1)] ++ ((lexObjs w la (.int (1 + nlTo txt p) lt6) (.str "\n\t\r " tw6) its6 k6 ++ l6) ++ (T3 ++ T4)) := ⟨_, rfl⟩
  refine LCg.CompSrc.ledger (k := km) (its := ym.toArray) (news := NW) rfl F2 (by rw [hNW]; simpa only [lexObjs, List.cons_append, List.nil_append, List.append_assoc] using N2) (by rw [hNW]; exact .head _) (by rw [List.size_toArray, hyml]; exact size_n (Nat.le_trans hl60 (by decide))) (fun g' => ?_)
  refine rest_of ym.toArray.size (fun i ys news => IntsAre ys (((marksOf a b).take i).map fun x => 1 - x) ∧ news = NW) ?_ ?_ _ 0 [] _ (Nat.zero_add _) ⟨.nil, rfl⟩
  · rintro i ys news v I oI C oC D m₂ h8 tk8 E' hi2 ⟨hys, rfl⟩ hv hns hx F11 N11 o3' ne
    obtain ⟨tx', x, hxx, rfl⟩ := ints_at hym (by simpa using hv)
    clear F2 N2
    try clear F1
    try clear N1
    (try dsimp only); (try k_fold)
    ((repeat' ((fail_if_success (with_reducible show LCg.CompEnd _ _ _ _ _ _ _ _ _ _ _ _ _ _)); (first | (k_unfold; (try dsimp only)) | ((with_reducible first | show wpAny _ _ (exec _ _) _ _ _ | show wpAny _ _ (execs _ _) _ _ _); k_fold) | (k_end; wrow_close) | walk1 | (dsimp only; walk1) | (leave1; (try dsimp only))))) <;> (repeat (k_unfold; (try dsimp only))))
    rename Fr _ _ _ _ => F14
    rename News _ _ _ _ => N14
    refine LCg.CompEnd.intro F14 N14 _ (fun q hq => hq) o3' (.inr ⟨_, by rw [hNW]; exact .head _, rfl, _, rfl⟩) ⟨?_, rfl⟩
    rw [List.take_add_one, hxx]
    show IntsAre _ (List.map _ (_ ++ [x]))
    rw [List.map_append]
    exact ints_snoc1 hys
  · rintro ys news ⟨hys, rfl⟩ Dz h8 tk8 F11 N11 oD
    rw [List.size_toArray, hyml, ← hml, List.take_length, ok.rev] at hys
    subst hNW
    clear F2 N2
    try clear F1
    try clear N1
    simp only [lexObjs, List.cons_append, List.nil_append, List.append_assoc] at N11
    (try dsimp only); (try k_fold)
    ((repeat' ((fail_if_success (with_reducible show wpAny _ _ (compareOp _ _ _) _ _ _)); (first | (k_unfold; (try dsimp only)) | ((with_reducible first | show wpAny _ _ (exec _ _) _ _ _ | show wpAny _ _ (execs _ _) _ _ _); k_fold) | (k_end; wrow_close) | walk1 | (dsimp only; walk1) | (leave1; (try dsimp only))))) <;> (repeat (k_unfold; (try dsimp only))))
    rename Fr _ _ _ _ => F12
    rename News _ _ _ _ => N12
    rename Addr => Dn
    rename List Value => nv
    rename (IntsAre nv _) => hnv
    (try dsimp only)
    ((repeat' ((fail_if_success (with_reducible show wpAny _ _ (compareOp _ _ _) _ _ _)); (first | (k_unfold; (try dsimp only)) | ((with_reducible first | show wpAny _ _ (exec _ _) _ _ _ | show wpAny _ _ (execs _ _) _ _ _); k_fold) | (k_end; wrow_close) | walk1 | (dsimp only; walk1) | (leave1; (try dsimp only))))) <;> (repeat (k_unfold; (try dsimp only))))
    rename Fr _ _ _ _ => F13
    rename News _ _ _ _ => N13
    refine ne_ints (News.isList N13 (.tail _ (.head _))) (News.isList N13 (.head _)) hys hnv (by k_units) ?_
    rw [decide_eq_true rfl, Bool.not_true]
    (try dsimp only)
    ((repeat' ((fail_if_success (with_reducible show wpAny _ _ (call (Value.ref 91) _) _ _ _)); (first | (k_unfold; (try dsimp only)) | ((with_reducible first | show wpAny _ _ (exec _ _) _ _ _ | show wpAny _ _ (execs _ _) _ _ _); k_fold) | (k_end; wrow_close) | walk1 | (dsimp only; walk1) | (leave1; (try dsimp only))))) <;> (repeat (k_unfold; (try dsimp only))))
    rename Fr _ _ _ _ => F14
    rename News _ _ _ _ => N14
    have N14' := cb_drop N14 (fun q hq => List.Mem.tail _ (List.Mem.tail _ hq))
    refine mach_get0 (aa := ((Dm, listOf ym.toArray km) :: (Dl, listOf yl.toArray kl) :: (Dp, listOf yp.toArray kp) :: (Dc, listOf (two a b i1 i2).toArray kc) :: [(173, tabObj tab), (L + 1 + 1 + 1 + 1 + 1, o5), (L + 1 + 1 + 1 + 1, o4), (L + 1 + 1 + 1, o3), (L + 1 + 1, o2), (L + 1, o1)]) ++ (T3 ++ T4)) Rd O M ?_ hp (by omega) B F14 X (News.mid (a := (Dm, listOf ym.toArray km) :: (Dl, listOf yl.toArray kl) :: (Dp, listOf yp.toArray kp) :: (Dc, listOf (two a b i1 i2).toArray kc) :: [(173, tabObj tab), (L + 1 + 1 + 1 + 1 + 1, o5), (L + 1 + 1 + 1 + 1, o4), (L + 1 + 1 + 1, o3), (L + 1 + 1, o2), (L + 1, o1)]) (b := lexObjs w la (.int (1 + nlTo txt p) lt6) (.str "\n\t\r " tw6) its6 k6 ++ l6) (c := T3 ++ T4) (by simpa only [lexObjs, List.cons_append, List.nil_append, List.append_assoc] using N14')) T rfl rfl (by k_room) (by k_units) ?_
    · intro q hq
      rcases List.mem_append.mp hq with hq | hq
      · exact offM q hq
      · exact offTM q hq
    clear N14'
    intro t9 p9 blk9 h9 tk9 hp9 hc9 F15 N15 M9
    rw [hcod, show lex0 "\n\t\r " [] = (("" : Str), []) from by rw [lex0.eq_def]]
    clear F14 N14
    try clear F13
    try clear N13
    try clear F12
    try clear N12
    try clear F11
    try clear N11
    replace N15 : News h₀ L h9 ((Dl, listOf yl.toArray kl) :: (Dp, listOf yp.toArray kp) :: (Dc, listOf (two a b i1 i2).toArray kc) :: [(173, tabObj tab), (L + 1 + 1 + 1 + 1 + 1, o5), (L + 1 + 1 + 1 + 1, o4), (L + 1 + 1 + 1, o3), (L + 1 + 1, o2), (L + 1, o1)] ++ (T3 ++ T4)) := fun q hq => N15 q (List.mem_append_left _ (.tail _ hq))
    simp only [List.cons_append, List.nil_append] at N15
    (try dsimp only)
    ((repeat' ((fail_if_success (with_reducible show wpAny _ _ (execs (Stmt.Assign [Expr.Name (Str.ofString "by_a") _] _ _ :: _) _) _ _ _)); (first | (k_unfold; (try dsimp only)) | ((with_reducible first | show wpAny _ _ (exec _ _) _ _ _ | show wpAny _ _ (execs _ _) _ _ _); k_fold) | (k_end; wrow_close) | walk1 | (dsimp only; walk1) | (leave1; (try dsimp only))))) <;> (repeat (k_unfold; (try dsimp only))))
    rename Fr _ _ _ _ => F16
    rename News _ _ _ _ => N16
    have F17 : Fr h₀ L _ (wl3 (some (.ref sc)) totals (some (.int (a : Int) ta)) text (some (.ref la.x)) (some (.ref Dc)) (some (.int ((a : Int) * b - a - b) tg)) over none none none) := Fr.congr F16 (by (intro y; unfold wl3; (rcases Classical.em (y = "script") with rfl | h0); exact rfl; (rcases Classical.em (y = "totals") with rfl | h1); exact rfl; (rcases Classical.em (y = "a") with rfl | h2); exact rfl; (rcases Classical.em (y = "text") with rfl | h3); exact rfl; (rcases Classical.em (y = "machine") with rfl | h4); exact rfl; (rcases Classical.em (y = "coins") with rfl | h5); exact rfl; (rcases Classical.em (y = "greatest") with rfl | h6); exact rfl; (rcases Classical.em (y = "over") with rfl | h7); exact rfl; (rcases Classical.em (y = "by_a") with rfl | h8); exact rfl; (rcases Classical.em (y = "sums") with rfl | h9); exact rfl; (rcases Classical.em (y = "needed") with rfl | h10); exact rfl; (try simp only [if_neg h0, if_neg h1, if_neg h2, if_neg h3, if_neg h4, if_neg h5, if_neg h6, if_neg h7, if_neg h8, if_neg h9, if_neg h10]); (first | done | exact rfl | (show List.lookup y (_ :: _) = none; simp only [List.lookup, beq_eq_false_iff_ne.mpr h0, beq_eq_false_iff_ne.mpr h1, beq_eq_false_iff_ne.mpr h2, beq_eq_false_iff_ne.mpr h3, beq_eq_false_iff_ne.mpr h4, beq_eq_false_iff_ne.mpr h5, beq_eq_false_iff_ne.mpr h6, beq_eq_false_iff_ne.mpr h7, beq_eq_false_iff_ne.mpr h8, beq_eq_false_iff_ne.mpr h9, beq_eq_false_iff_ne.mpr h10]) | (simp only [List.lookup, beq_eq_false_iff_ne.mpr h0, beq_eq_false_iff_ne.mpr h1, beq_eq_false_iff_ne.mpr h2, beq_eq_false_iff_ne.mpr h3, beq_eq_false_iff_ne.mpr h4, beq_eq_false_iff_ne.mpr h5, beq_eq_false_iff_ne.mpr h6, beq_eq_false_iff_ne.mpr h7, beq_eq_false_iff_ne.mpr h8, beq_eq_false_iff_ne.mpr h9, beq_eq_false_iff_ne.mpr h10]; done))))
    exact stG (s := { s with heap := _, toks := _ }) (kl := kl) (kp := kp) (kc := kc) (i1 := i1) (i2 := i2) (tab := tab) (o4 := o4) (by exact rfl) B X T hsc hi hl S3 S4 ok k1 k2 k3 k5 ha hyl hyp F17 N16 offT offD hL hd' hu hQ
end

noncomputable abbrev overO (a b : Nat) (tq tr : Tok) : Obj := { cls := .type "tuple", data := .seq #[.int ((quoOf a b : Nat) : Int) tq, .int 0 tr] }
theorem ones_in {a b i : Nat} (h : (marksOf a b).getD i 0 = 1) : (List.range (i + 1)).filter (fun x => decide ((marksOf a b).getD x 0 = 1)) = (List.range i).filter (fun x => decide ((marksOf a b).getD x 0 = 1)) ++ [i] := by
  rw [List.range_succ, List.filter_append, List.filter_cons_of_pos (by simpa using h), List.filter_nil]
theorem ones_out {a b i : Nat} (h : (marksOf a b).getD i 0 ≠ 1) : (List.range (i + 1)).filter (fun x => decide ((marksOf a b).getD x 0 = 1)) = (List.range i).filter (fun x => decide ((marksOf a b).getD x 0 = 1)) := by
  rw [List.range_succ, List.filter_append, List.filter_cons_of_neg (by simpa using h), List.filter_nil, List.append_nil]
section
variable {w : World} {dp un : Nat} {gd : Option (List Code)} {outer : List Env} {A₀ : Around} {base h₀ : Heap} {L fa : Addr} {cd : Value} {tp : Program} {tl : List Str} {mean : ExcName → Option Value} {mg mb : Str → Option Value} {s : Shared} {Q : Flow → Shared → Prop} {E : Value → Shared → Prop} {rest : List Stmt} {scope : Scope}
theorem stE (hdef : lawRest ((hd.heap_1 w.params).lookup 219) 12 = some (rest, scope)) (B : Below A₀ base outer h₀) (X : (hd.heap_1 w.params).In h₀) (T : Top tp tl mean mg mb h₀)
    {sc : Addr} {vs : List Value} {ns : List Int} (hsc : h₀.IsList sc vs.toArray) (hi : IntsAre vs ns) (hl : ns.length ≤ 63)
    {T3 T4 : List (Addr × Obj)} {tab : Array Value} (S3 : TabSt 37 35 4 "_int2digits.<locals>.inner" T3) (S4 : TabSt 44 50 4 "_digits2int.<locals>.inner" T4)
    {la : LexA} {adr : List Addr} {RO : Nat → List (Addr × Obj) → Prop} {txt : Str} {p : Nat} {blk : List (Addr × Obj)} (Rd : Reader w la.rd txt adr RO) (O : la.Ok adr) (M : MachSt w la RO (1 + nlTo txt p) "\n\t\r " [] p blk) (hp : p ≤ txt.length) (htl : txt.length < 2000) (hcod : codes txt p = [])
    {a b : Nat} (ok : Ok3 a b) {o1 o2 o3 o4 o5 : Obj} {Do Dm Dl Dp Dc : Addr} {ym yl yp : List Value} {km kl kp kc : Nat} {ta tb tg tq tr i1 i2 : Tok} {totals text : Option Value} {v5 : Option Value}
    (k1 : cellIs o1 (some (.int (b : Int) tb))) (k2 : cellIs o2 (some (.ref Dp))) (k3 : cellIs o3 (some (.ref Dl))) (k4 : cellIs o4 (some (.ref Dm))) (k5 : cellIs o5 v5) (ha : 2 ≤ a ∧ a ≤ 7)
    (hym : IntsAre ym (marksOf a b)) (hyl : IntsAre yl ((lackOf a b).map fun x : Nat => (x : Int))) (hyp : StrsAre yp ((paidOf a b).map blank))
    (F : Fr h₀ L s.heap (wl3 (some (.ref sc)) totals (some (.int (a : Int) ta)) text (some (.ref la.x)) (some (.ref Dc)) (some (.int ((a : Int) * b - a - b) tg)) (some (.ref Do)) none none none))
    (N : News h₀ L s.heap ((Do, overO a b tq tr) :: (Dm, listOf ym.toArray km) :: (Dl, listOf yl.toArray kl) :: (Dp, listOf yp.toArray kp) :: (Dc, listOf (two a b i1 i2).toArray kc) :: [(173, tabObj tab), (L + 1 + 1 + 1 + 1 + 1, o5), (L + 1 + 1 + 1 + 1, o4), (L + 1 + 1 + 1, o3), (L + 1 + 1, o2), (L + 1, o1)] ++ (blk ++ (T3 ++ T4))))
    (offM : ∀ q ∈ (Dm, listOf ym.toArray km) :: (Dl, listOf yl.toArray kl) :: (Dp, listOf yp.toArray kp) :: (Dc, listOf (two a b i1 i2).toArray kc) :: [(173, tabObj tab), (L + 1 + 1 + 1 + 1 + 1, o5), (L + 1 + 1 + 1 + 1, o4), (L + 1 + 1 + 1, o3), (L + 1 + 1, o2), (L + 1, o1)], q.1 ∉ la.adrs ++ adr) (offTM : ∀ r ∈ T3 ++ T4, r.1 ∉ la.adrs ++ adr)
    (offT : ∀ q ∈ (Dl, listOf yl.toArray kl) :: (Dp, listOf yp.toArray kp) :: (Dc, listOf (two a b i1 i2).toArray kc) :: [(173, tabObj tab), (L + 1 + 1 + 1 + 1 + 1, o5), (L + 1 + 1 + 1 + 1, o4), (L + 1 + 1 + 1, o3), (L + 1 + 1, o2), (L + 1, o1)], ∀ r ∈ T3 ++ T4, q.1 ≠ r.1)
    (offD : ∀ q ∈ [(Dl, listOf yl.toArray kl), (Dp, listOf yp.toArray kp), (Dc, listOf (two a b i1 i2).toArray kc)], q.1 ≠ L + 1 + 1 + 1 + 1 + 1)
    (hL : 173 < L) (hd' : dp + 200 < recursionLimit) (hu : un + 2000 < cLine) (hQ : LawEnd h₀ L Q s) :
    wpAny (model Challenge.rw_pe0259_03.row.prog w) (Ar dp un gd (envOfC "law" scope L fa cd :: outer)) (execs rest (envOfC "law" scope L fa cd)) Q E s := by
  revert hdef
  k_fill
  intro hdef
  refine' law_out ?hl hdef ?_
  (case hl => k_is)
  clear hdef
  intro hdef
  cases hdef
  have codeHd := codeHd_of_K (c := 41) (P := 37) X (by kernel_rfl)
  (try dsimp only [List.drop]); (try k_fold)
  unfold wl3 at F
  obtain ⟨hb2, hb9⟩ := ok.hb
  have hml : (marksOf a b).length = lenM a b := by unfold marksOf digsOf; rw [List.length_map, List.length_range]
  have hyml : ym.length = lenM a b := by rw [hym.length, hml]
  have hl60 := ok.len.1
  have hyms : (List.toArray ym).size = lenM a b := by rw [List.size_toArray]; exact hyml
  have hyls : (List.toArray yl).size = (lackOf a b).length := by rw [List.size_toArray, hyl.length, List.length_map]
  have hll : (lackOf a b).length < 500 := by
    have h1 := ok.half
    have h2 : (a - 1) * (b - 1) ≤ 6 * 7 := Nat.mul_le_mul (by omega) (by omega)
    omega
  simp only [List.cons_append, List.nil_append] at N
  ((repeat' ((fail_if_success (with_reducible show wpAny _ _ (eval (Expr.ListComp _ _ _ _) _) _ _ _)); (first | (k_unfold; (try dsimp only)) | ((with_reducible first | show wpAny _ _ (exec _ _) _ _ _ | show wpAny _ _ (execs _ _) _ _ _); k_fold) | (k_end; wrow_close) | walk1 | (dsimp only; walk1) | (leave1; (try dsimp only))))) <;> (repeat (k_unfold; (try dsimp only))))
  rename Fr _ _ _ _ => F1
  rename News _ _ _ _ => N1
  refine LCt.ListComp_T (F₀ := F1) (by with_unfolding_all rfl) (by decide) (by rfl) (by decide) (by rfl) ?_
  ((repeat' ((fail_if_success (with_reducible show LCt.CompSrcT _ _ _ _ _ _ _ _ _ _ _ _ _ _ _)); (first | (k_unfold; (try dsimp only)) | ((with_reducible first | show wpAny _ _ (exec _ _) _ _ _ | show wpAny _ _ (execs _ _) _ _ _); k_fold) | (k_end; wrow_close) | walk1 | (dsimp only; walk1) | (leave1; (try dsimp only))))) <;> (repeat (k_unfold; (try dsimp only))))
  rename IsRange _ _ _ _ _ _ _ _ => R2
  rename Fr _ _ _ _ => F2
  rename News _ _ _ _ => N2
  obtain ⟨NW, hNW⟩ : ∃ NW, NW = (Do, overO a b tq tr) :: (Dm, listOf ym.toArray km) :: (Dl, listOf yl.toArray kl) :: (Dp, listOf yp.toArray kp) :: (Dc, listOf (two a b i1 i2).toArray kc) :: [(173, tabObj tab), (L + 1 + 1 + 1 + 1 + 1, o5), (L + 1 + 1 + 1 + 1, o4), (L + 1 + 1 + 1, o3), (L + 1 + 1, o2), (L + 1, o1)] ++ (blk ++ (T3 ++ T4)) := ⟨_, rfl⟩
  refine LCt.CompSrcT.range (n := lenM a b) (news := NW) rfl F2 (by rw [hNW]; exact N2) R2 (small_n (Nat.le_trans hl60 (by decide))) (by rw [rangeSize_nat, Int.sub_zero, Int.toNat_natCast]) (size_n (Nat.le_trans hl60 (by decide))) (fun g' => ?_)
  refine restT_of (lenM a b) (fun i ys news => IntsAre ys (((List.range i).filter (fun x => decide ((marksOf a b).getD x 0 = 1))).map fun x : Nat => (x : Int)) ∧ news = NW) ?_ ?_ _ 0 [] _ (Nat.zero_add _) ⟨.nil, rfl⟩
  · rintro i ys news v I oI C oC D m₂ h9 tk9 E' hi2 ⟨hys, rfl⟩ ⟨tv, rfl⟩ hns hx F11 N11 o3' ne
    rw [Int.zero_add] at hx
    subst hNW
    clear F2 N2
    try clear F1
    try clear N1
    simp only [List.cons_append, List.nil_append] at N11
    (try dsimp only); (try k_fold)
    ((repeat' ((fail_if_success (with_reducible show LCg.CompEnd _ _ _ _ _ _ _ _ _ _ _ _ _ _)); (first | (k_unfold; (try dsimp only)) | ((with_reducible first | show wpAny _ _ (exec _ _) _ _ _ | show wpAny _ _ (execs _ _) _ _ _); k_fold) | (k_end; wrow_close) | walk1 | (dsimp only; walk1) | (leave1; (try dsimp only))))) <;> (repeat (k_unfold; (try dsimp only))))
    · rename List.getD _ _ _ = 1 => hq2
      rw [Int.toNat_natCast] at hq2
      rename Fr _ _ _ _ => F13
      rename News _ _ _ _ => N13
      refine LCg.CompEnd.intro F13 N13 _ (fun q hq => hq) o3' trivial ⟨?_, rfl⟩
      rw [ones_in hq2, List.map_append]
      exact ints_snoc1 hys
    · rename List.getD _ _ _ ≠ 1 => hq2
      rw [Int.toNat_natCast] at hq2
      rename Fr _ _ _ _ => F13
      rename News _ _ _ _ => N13
      refine LCg.CompEnd.intro F13 N13 _ (fun q hq => hq) o3' trivial ⟨?_, rfl⟩
      rw [ones_out hq2]
      exact hys
  · rintro ys news ⟨hys, rfl⟩ Dz h9 tk9 F11 N11 oD
    subst hNW
    clear F2 N2
    try clear F1
    try clear N1
    simp only [List.cons_append, List.nil_append] at N11
    (try dsimp only); (try k_fold)
    ((repeat' ((fail_if_success (with_reducible show wpAny _ _ (compareOp CmpOp.NotEq (Value.ref _) (Value.ref _)) _ _ _)); (first | (k_unfold; (try dsimp only)) | ((with_reducible first | show wpAny _ _ (exec _ _) _ _ _ | show wpAny _ _ (execs _ _) _ _ _); k_fold) | (k_end; wrow_close) | walk1 | (dsimp only; walk1) | (leave1; (try dsimp only))))) <;> (repeat (k_unfold; (try dsimp only))))
    rename Fr _ _ _ _ => F12
    rename News _ _ _ _ => N12
    refine ne_ints (News.isList N12 (by k_mem)) (News.isList N12 (by k_mem)) hyl hys (by k_units) ?_
    rw [ok.ones]
    unfold onesOf
    rw [decide_eq_true rfl, Bool.not_true]
    (try dsimp only)
    have eh : 2 * ((lackOf a b).length : Int) = ((a : Int) - 1) * ((b : Int) - 1) := by
      have := ok.half
      have e1 : ((a - 1 : Nat) : Int) = (a : Int) - 1 := by omega
      have e2 : ((b - 1 : Nat) : Int) = (b : Int) - 1 := by omega
      rw [← e1, ← e2, ← Int.natCast_mul, ← this]
      omega
    ((repeat' ((fail_if_success (with_reducible show wpAny _ _ (execs (Stmt.If (Expr.BoolOp BoolOp.Or [(Expr.ListComp _ _ _ _).Compare _ _ _, _] _) _ _ _ :: _) _) _ _ _)); (first | ((with_reducible show wpAny _ _ (binaryOp Operator.Mult (Value.int _ _) (Value.int _ _)) _ _ _); refine mul_small (by omega) ?_) | (k_unfold; (try dsimp only)) | ((with_reducible first | show wpAny _ _ (exec _ _) _ _ _ | show wpAny _ _ (execs _ _) _ _ _); k_fold) | (k_end; wrow_close) | walk1 | (dsimp only; walk1) | (leave1; (try dsimp only))))) <;> (repeat (k_unfold; (try dsimp only))))
    · rename _ ≠ _ => hne
      exact absurd eh hne
    · rename _ ≠ _ => hne
      refine absurd ?_ hne
      have e2 := ok.len.2
      have e3 : ((lenM a b + a + b : Nat) : Int) = ((a * b + 1 : Nat) : Int) := by rw [e2]
      rw [Int.natCast_add, Int.natCast_add, Int.natCast_add, Int.natCast_mul] at e3
      omega
    · rename Fr _ _ _ _ => F13
      rename News _ _ _ _ => N13
      have F14 : Fr h₀ L _ (wl3 (some (.ref sc)) totals (some (.int (a : Int) ta)) text (some (.ref la.x)) (some (.ref Dc)) (some (.int ((a : Int) * b - a - b) tg)) (some (.ref Do)) none none none) := Fr.congr F13 (by (intro y; unfold wl3; (rcases Classical.em (y = "script") with rfl | h0); exact rfl; (rcases Classical.em (y = "totals") with rfl | h1); exact rfl; (rcases Classical.em (y = "a") with rfl | h2); exact rfl; (rcases Classical.em (y = "text") with rfl | h3); exact rfl; (rcases Classical.em (y = "machine") with rfl | h4); exact rfl; (rcases Classical.em (y = "coins") with rfl | h5); exact rfl; (rcases Classical.em (y = "greatest") with rfl | h6); exact rfl; (rcases Classical.em (y = "over") with rfl | h7); exact rfl; (rcases Classical.em (y = "by_a") with rfl | h8); exact rfl; (rcases Classical.em (y = "sums") with rfl | h9); exact rfl; (rcases Classical.em (y = "needed") with rfl | h10); exact rfl; (try simp only [if_neg h0, if_neg h1, if_neg h2, if_neg h3, if_neg h4, if_neg h5, if_neg h6, if_neg h7, if_neg h8, if_neg h9, if_neg h10]); (first | done | exact rfl | (show List.lookup y (_ :: _) = none; simp only [List.lookup, beq_eq_false_iff_ne.mpr h0, beq_eq_false_iff_ne.mpr h1, beq_eq_false_iff_ne.mpr h2, beq_eq_false_iff_ne.mpr h3, beq_eq_false_iff_ne.mpr h4, beq_eq_false_iff_ne.mpr h5, beq_eq_false_iff_ne.mpr h6, beq_eq_false_iff_ne.mpr h7, beq_eq_false_iff_ne.mpr h8, beq_eq_false_iff_ne.mpr h9, beq_eq_false_iff_ne.mpr h10]) | (simp only [List.lookup, beq_eq_false_iff_ne.mpr h0, beq_eq_false_iff_ne.mpr h1, beq_eq_false_iff_ne.mpr h2, beq_eq_false_iff_ne.mpr h3, beq_eq_false_iff_ne.mpr h4, beq_eq_false_iff_ne.mpr h5, beq_eq_false_iff_ne.mpr h6, beq_eq_false_iff_ne.mpr h7, beq_eq_false_iff_ne.mpr h8, beq_eq_false_iff_ne.mpr h9, beq_eq_false_iff_ne.mpr h10]; done))))
      exact stF (s := { s with heap := _, toks := _ }) (km := km) (kl := kl) (kp := kp) (kc := kc) (i1 := i1) (i2 := i2) (tab := tab) (by exact rfl) B X T hsc hi hl S3 S4 Rd O M hp htl hcod ok k1 k2 k3 k4 k5 ha hym hyl hyp F14 (cb_drop N13 (fun q hq => List.Mem.tail _ (List.Mem.tail _ hq))) offM offTM offT offD hL hd' hu hQ
end

section
variable {w : World} {dp un : Nat} {gd : Option (List Code)} {outer : List Env} {A₀ : Around} {base h₀ : Heap} {L fa : Addr} {cd : Value} {tp : Program} {tl : List Str} {mean : ExcName → Option Value} {mg mb : Str → Option Value} {s : Shared} {Q : Flow → Shared → Prop} {E : Value → Shared → Prop} {rest : List Stmt} {scope : Scope}
theorem stD (hdef : lawRest ((hd.heap_1 w.params).lookup 219) 9 = some (rest, scope)) (B : Below A₀ base outer h₀) (X : (hd.heap_1 w.params).In h₀) (T : Top tp tl mean mg mb h₀)
    {sc : Addr} {vs : List Value} {ns : List Int} (hsc : h₀.IsList sc vs.toArray) (hi : IntsAre vs ns) (hl : ns.length ≤ 63)
    {T3 T4 : List (Addr × Obj)} {tab : Array Value} (S3 : TabSt 37 35 4 "_int2digits.<locals>.inner" T3) (S4 : TabSt 44 50 4 "_digits2int.<locals>.inner" T4)
    {la : LexA} {adr : List Addr} {RO : Nat → List (Addr × Obj) → Prop} {txt : Str} {p : Nat} {blk : List (Addr × Obj)} (Rd : Reader w la.rd txt adr RO) (O : la.Ok adr) (M : MachSt w la RO (1 + nlTo txt p) "\n\t\r " [] p blk) (hp : p ≤ txt.length) (htl : txt.length < 2000) (hcod : codes txt p = [])
    {a b : Nat} (ok : Ok3 a b) {o1 o2 o3 o4 o5 : Obj} {Dl Dp Dc : Addr} {yl yp : List Value} {kl kp kc : Nat} {ta tb i1 i2 : Tok} {totals text : Option Value} {v4 v5 : Option Value}
    (k1 : cellIs o1 (some (.int (b : Int) tb))) (k2 : cellIs o2 (some (.ref Dp))) (k3 : cellIs o3 (some (.ref Dl))) (k4 : cellIs o4 v4) (k5 : cellIs o5 v5) (ha : 2 ≤ a ∧ a ≤ 7)
    (hyl : IntsAre yl ((lackOf a b).map fun x : Nat => (x : Int))) (hyp : StrsAre yp ((paidOf a b).map blank))
    (F : Fr h₀ L s.heap (wl3 (some (.ref sc)) totals (some (.int (a : Int) ta)) text (some (.ref la.x)) (some (.ref Dc)) none none none none none))
    (N : News h₀ L s.heap ((Dl, listOf yl.toArray kl) :: (Dp, listOf yp.toArray kp) :: (Dc, listOf (two a b i1 i2).toArray kc) :: [(173, tabObj tab), (L + 1 + 1 + 1 + 1 + 1, o5), (L + 1 + 1 + 1 + 1, o4), (L + 1 + 1 + 1, o3), (L + 1 + 1, o2), (L + 1, o1)] ++ (blk ++ (T3 ++ T4))))
    (offM : ∀ q ∈ (Dl, listOf yl.toArray kl) :: (Dp, listOf yp.toArray kp) :: (Dc, listOf (two a b i1 i2).toArray kc) :: [(173, tabObj tab), (L + 1 + 1 + 1 + 1 + 1, o5), (L + 1 + 1 + 1 + 1, o4), (L + 1 + 1 + 1, o3), (L + 1 + 1, o2), (L + 1, o1)], q.1 ∉ la.adrs ++ adr) (offTM : ∀ r ∈ T3 ++ T4, r.1 ∉ la.adrs ++ adr)
    (offT : ∀ q ∈ (Dl, listOf yl.toArray kl) :: (Dp, listOf yp.toArray kp) :: (Dc, listOf (two a b i1 i2).toArray kc) :: [(173, tabObj tab), (L + 1 + 1 + 1 + 1 + 1, o5), (L + 1 + 1 + 1 + 1, o4), (L + 1 + 1 + 1, o3), (L + 1 + 1, o2), (L + 1, o1)], ∀ r ∈ T3 ++ T4, q.1 ≠ r.1)
    (offD : ∀ q ∈ [(Dl, listOf yl.toArray kl), (Dp, listOf yp.toArray kp), (Dc, listOf (two a b i1 i2).toArray kc)], q.1 ≠ L + 1 + 1 + 1 + 1 + 1) (offE : ∀ q ∈ [(Dl, listOf yl.toArray kl), (Dp, listOf yp.toArray kp), (Dc, listOf (two a b i1 i2).toArray kc)], q.1 ≠ L + 1 + 1 + 1 + 1)
    (hL : 173 < L) (hd' : dp + 200 < recursionLimit) (hu : un + 2000 < cLine) (hQ : LawEnd h₀ L Q s) :
    wpAny (model Challenge.rw_pe0259_03.row.prog w) (Ar dp un gd (envOfC "law" scope L fa cd :: outer)) (execs rest (envOfC "law" scope L fa cd)) Q E s := by
  revert hdef
  k_fill
  intro hdef
  refine' law_out ?hl hdef ?_
  (case hl => k_is)
  clear hdef
  intro hdef
  cases hdef
  have codeHd := codeHd_of_K (c := 41) (P := 37) X (by kernel_rfl)
  (try dsimp only [List.drop]); (try k_fold)
  unfold wl3 at F
  obtain ⟨hb2, hb9⟩ := ok.hb
  simp only [List.cons_append, List.nil_append] at N
  have hab : a * b ≤ 7 * 8 := Nat.mul_le_mul (by omega) (by omega)
  have ha2 : 2 ^ a ≤ 2 ^ 7 := Nat.pow_le_pow_right (by decide) (by omega)
  have hb2' : 2 ^ b ≤ 2 ^ 8 := Nat.pow_le_pow_right (by decide) (by omega)
  have ha4 : 2 ^ 2 ≤ 2 ^ a := Nat.pow_le_pow_right (by decide) (by omega)
  have hb4 : 2 ^ 2 ≤ 2 ^ b := Nat.pow_le_pow_right (by decide) (by omega)
  have hq59 := ok.quo.2.2
  obtain ⟨c6, d1, d2, d3⟩ := And.intro (kn37 hL) (And.intro (offE _ (.head _)) (And.intro (offE _ (.tail _ (.head _))) (offE _ (.tail _ (.tail _ (.head _))))))
  ((repeat' ((fail_if_success (with_reducible show wpAny _ _ (execs (Stmt.Assign [Expr.Name (Str.ofString "over") _] _ _ :: _) _) _ _ _)); (first | ((with_reducible show wpAny _ _ (binaryOp Operator.Mult (Value.int (Nat.cast _) _) (Value.int (Nat.cast _) _)) _ _ _); refine mulN_st (by omega) ?_) | (k_unfold; (try dsimp only)) | ((with_reducible first | show wpAny _ _ (exec _ _) _ _ _ | show wpAny _ _ (execs _ _) _ _ _); k_fold) | (k_end; wrow_close) | walk1 | (dsimp only; walk1) | (leave1; (try dsimp only))))) <;> (repeat (k_unfold; (try dsimp only))))
  rename Fr _ _ _ _ => F1
  rename News _ _ _ _ => N1
  (try dsimp only)
  ((repeat' ((fail_if_success (with_reducible show wpAny _ _ (call (Value.ref 63) _) _ _ _)); (first | ((with_reducible show wpAny _ _ (binaryOp Operator.Mult (Value.int (Nat.cast _) _) (Value.int (Nat.cast _) _)) _ _ _); refine mulN_st (by omega) ?_) | ((with_reducible show wpAny _ _ (binaryOp Operator.Pow (Value.int 2 _) (Value.int (Nat.cast _) _)) _ _ _); refine pow2_st (by omega) ?_) | ((with_reducible show wpAny _ _ (binaryOp Operator.Mult (Value.int _ _) (Value.int _ _)) _ _ _); refine mul_small (by omega) ?_) | (k_unfold; (try dsimp only)) | ((with_reducible first | show wpAny _ _ (exec _ _) _ _ _ | show wpAny _ _ (execs _ _) _ _ _); k_fold) | (k_end; wrow_close) | walk1 | (dsimp only; walk1) | (leave1; (try dsimp only))))) <;> (repeat (k_unfold; (try dsimp only))))
  rename Fr _ _ _ _ => F2
  rename News _ _ _ _ => N2
  have hB : 0 < (2 ^ a - 1) * (2 ^ b - 1) := Nat.mul_pos (by omega) (by omega)
  have hB2 : (2 ^ a - 1) * (2 ^ b - 1) ≤ 127 * 255 := Nat.mul_le_mul (by omega) (by omega)
  rw [nat_pred (m := 2 ^ (a * b)) Nat.one_le_two_pow, nat_pred (m := 2 ^ a) Nat.one_le_two_pow, nat_pred (m := 2 ^ b) Nat.one_le_two_pow, ← Int.natCast_mul]
  refine dm_use (aa := ((Dl, listOf yl.toArray kl) :: (Dp, listOf yp.toArray kp) :: (Dc, listOf (two a b i1 i2).toArray kc) :: [(173, tabObj tab), (L + 1 + 1 + 1 + 1 + 1, o5), (L + 1 + 1 + 1 + 1, o4), (L + 1 + 1 + 1, o3), (L + 1 + 1, o2), (L + 1, o1)]) ++ blk) (T3 := T3) (T4 := T4) S3 S4 ?_ (by exact_mod_cast hB) (by rw [Int.natAbs_natCast]; omega) (by rw [Int.natAbs_natCast]; omega) B F2 X (by simpa only [List.cons_append, List.nil_append, List.append_assoc] using N2) T rfl rfl (by k_room) (by k_units) ?_
  · intro q hq r hr
    rcases List.mem_append.mp hq with hq | hq
    · exact offT q hq r hr
    · exact of_adrs M Rd (offTM r hr) q hq
  intro D9 T3' T4' tq9 tr9 h9 tk9 S3' S4' off9 offD9 offD9' F3 N3
  rw [← Int.natCast_ediv, ← Int.natCast_emod, ok.rest] at N3
  replace N3 : News h₀ L h9 ((D9, overO a b tq9 tr9) :: (((Dl, listOf yl.toArray kl) :: (Dp, listOf yp.toArray kp) :: (Dc, listOf (two a b i1 i2).toArray kc) :: [(173, tabObj tab), (L + 1 + 1 + 1 + 1 + 1, o5), (L + 1 + 1 + 1 + 1, o4), (L + 1 + 1 + 1, o3), (L + 1 + 1, o2), (L + 1, o1)]) ++ blk ++ (T3' ++ T4'))) := N3
  clear F2 N2
  try clear F1
  try clear N1
  simp only [List.cons_append, List.nil_append, List.append_assoc] at N3
  (try dsimp only)
  ((repeat' ((fail_if_success (with_reducible show wpAny _ _ (call (Value.ref 42) _) _ _ _)); (first | (k_unfold; (try dsimp only)) | ((with_reducible first | show wpAny _ _ (exec _ _) _ _ _ | show wpAny _ _ (execs _ _) _ _ _); k_fold) | (k_end; wrow_close) | walk1 | (dsimp only; walk1) | (leave1; (try dsimp only))))) <;> (repeat (k_unfold; (try dsimp only))))
  rename Fr _ _ _ _ => F4
  rename News _ _ _ _ => N4
  rw [nat_pred ok.quo.1]
  refine digs_use (aa := (D9, overO a b tq9 tr9) :: (((Dl, listOf yl.toArray kl) :: (Dp, listOf yp.toArray kp) :: (Dc, listOf (two a b i1 i2).toArray kc) :: [(173, tabObj tab), (L + 1 + 1 + 1 + 1 + 1, o5), (L + 1 + 1 + 1 + 1, o4), (L + 1 + 1 + 1, o3), (L + 1 + 1, o2), (L + 1, o1)]) ++ blk)) (T3 := T3') (T4 := T4') S3' S4' (List.forall_mem_cons.mpr ⟨offD9', off9⟩) (Nat.lt_of_le_of_lt (Nat.sub_le _ _) (Nat.lt_of_lt_of_le ok.quo.2.1 (Nat.pow_le_pow_right (by decide) (by decide)))) (len := lenM a b) rfl ok.len.1 B F4 X (by simpa only [List.cons_append, List.nil_append, List.append_assoc] using N4) T rfl rfl (by k_room) (by k_units) ?_
  intro Dm ym km T3'' h10 tk10 S3'' hym off10 offm offm' F5 N5
  clear F4 N4
  try clear F3
  try clear N3
  simp only [List.cons_append, List.nil_append, List.append_assoc] at N5
  have d4 : Dm ≠ L + 1 + 1 + 1 + 1 := offm (L + 1 + 1 + 1 + 1, o4) (.tail _ (List.mem_append_left _ (.tail _ (.tail _ (.tail _ (.tail _ (.tail _ (.head _))))))))
  have d5 : D9 ≠ L + 1 + 1 + 1 + 1 := offD9 (L + 1 + 1 + 1 + 1, o4) (List.mem_append_left _ (.tail _ (.tail _ (.tail _ (.tail _ (.tail _ (.head _)))))))
  have d6 : ∀ q ∈ blk ++ (T3'' ++ T4'), q.1 ≠ L + 1 + 1 + 1 + 1 := fun q hq => by
    rcases List.mem_append.mp hq with hq | hq
    · exact of_adrs M Rd (offM (L + 1 + 1 + 1 + 1, o4) (.tail _ (.tail _ (.tail _ (.tail _ (.tail _ (.head _))))))) q hq
    · exact (off10 (L + 1 + 1 + 1 + 1, o4) (.tail _ (List.mem_append_left _ (.tail _ (.tail _ (.tail _ (.tail _ (.tail _ (.head _)))))))) q hq).symm
  (try dsimp only)
  ((repeat' ((fail_if_success (with_reducible show wpAny _ _ (execs (Stmt.If _ _ _ _ :: _) _) _ _ _)); (first | (k_unfold; (try dsimp only)) | ((with_reducible first | show wpAny _ _ (exec _ _) _ _ _ | show wpAny _ _ (execs _ _) _ _ _); k_fold) | (k_end; wrow_close) | walk1 | (dsimp only; walk1) | (leave1; (try dsimp only))))) <;> (repeat (k_unfold; (try dsimp only))))
  rename Fr _ _ _ _ => F6
  rename News _ _ _ _ => N6
  rename Obj => o6
  rename (Obj.data o6 = Data.cell _) => k6
  rw [Int.natCast_mul] at F6
  have F7 : Fr h₀ L _ (wl3 (some (.ref sc)) totals (some (.int (a : Int) ta)) text (some (.ref la.x)) (some (.ref Dc)) (some (.int ((a : Int) * b - a - b) _)) (some (.ref D9)) none none none) := Fr.congr F6 (by (intro y; unfold wl3; (rcases Classical.em (y = "script") with rfl | h0); exact rfl; (rcases Classical.em (y = "totals") with rfl | h1); exact rfl; (rcases Classical.em (y = "a") with rfl | h2); exact rfl; (rcases Classical.em (y = "text") with rfl | h3); exact rfl; (rcases Classical.em (y = "machine") with rfl | h4); exact rfl; (rcases Classical.em (y = "coins") with rfl | h5); exact rfl; (rcases Classical.em (y = "greatest") with rfl | h6); exact rfl; (rcases Classical.em (y = "over") with rfl | h7); exact rfl; (rcases Classical.em (y = "by_a") with rfl | h8); exact rfl; (rcases Classical.em (y = "sums") with rfl | h9); exact rfl; (rcases Classical.em (y = "needed") with rfl | h10); exact rfl; (try simp only [if_neg h0, if_neg h1, if_neg h2, if_neg h3, if_neg h4, if_neg h5, if_neg h6, if_neg h7, if_neg h8, if_neg h9, if_neg h10]); (first | done | exact rfl | (show List.lookup y (_ :: _) = none; simp only [List.lookup, beq_eq_false_iff_ne.mpr h0, beq_eq_false_iff_ne.mpr h1, beq_eq_false_iff_ne.mpr h2, beq_eq_false_iff_ne.mpr h3, beq_eq_false_iff_ne.mpr h4, beq_eq_false_iff_ne.mpr h5, beq_eq_false_iff_ne.mpr h6, beq_eq_false_iff_ne.mpr h7, beq_eq_false_iff_ne.mpr h8, beq_eq_false_iff_ne.mpr h9, beq_eq_false_iff_ne.mpr h10]) | (simp only [List.lookup, beq_eq_false_iff_ne.mpr h0, beq_eq_false_iff_ne.mpr h1, beq_eq_false_iff_ne.mpr h2, beq_eq_false_iff_ne.mpr h3, beq_eq_false_iff_ne.mpr h4, beq_eq_false_iff_ne.mpr h5, beq_eq_false_iff_ne.mpr h6, beq_eq_false_iff_ne.mpr h7, beq_eq_false_iff_ne.mpr h8, beq_eq_false_iff_ne.mpr h9, beq_eq_false_iff_ne.mpr h10]; done))))
  have mA : ∀ q ∈ (Dl, listOf yl.toArray kl) :: (Dp, listOf yp.toArray kp) :: (Dc, listOf (two a b i1 i2).toArray kc) :: [(173, tabObj tab), (L + 1 + 1 + 1 + 1 + 1, o5), (L + 1 + 1 + 1 + 1, o4), (L + 1 + 1 + 1, o3), (L + 1 + 1, o2), (L + 1, o1)], q ∈ (D9, overO a b tq9 tr9) :: (((Dl, listOf yl.toArray kl) :: (Dp, listOf yp.toArray kp) :: (Dc, listOf (two a b i1 i2).toArray kc) :: [(173, tabObj tab), (L + 1 + 1 + 1 + 1 + 1, o5), (L + 1 + 1 + 1 + 1, o4), (L + 1 + 1 + 1, o3), (L + 1 + 1, o2), (L + 1, o1)]) ++ blk) := fun q hq => .tail _ (List.mem_append_left _ hq)
  refine stE (s := { s with heap := _, toks := _ }) (km := km) (kl := kl) (kp := kp) (kc := kc) (i1 := i1) (i2 := i2) (tab := tab) (o4 := o6) (tq := tq9) (tr := tr9) (by exact rfl) B X T hsc hi hl S3'' S4' Rd O M hp htl hcod ok k1 k2 k3 k6 k5 ha hym hyl hyp F7 (fun q hq => N6 q ?_) ?_ ?_ ?_ offD hL hd' hu hQ
  · rcases List.mem_cons.mp hq with rfl | hq
    · exact .tail _ (.head _)
    · rcases List.mem_cons.mp hq with rfl | hq
      · exact .head _
      · exact .tail _ (.tail _ hq)
  · refine List.forall_mem_cons.mpr ⟨not_adrs M Rd (fun r hr => (offm r (.tail _ (List.mem_append_right _ hr))).symm), ?_⟩
    exact fst_forall (l := (Dl, listOf yl.toArray kl) :: (Dp, listOf yp.toArray kp) :: (Dc, listOf (two a b i1 i2).toArray kc) :: [(173, tabObj tab), (L + 1 + 1 + 1 + 1 + 1, o5), (L + 1 + 1 + 1 + 1, o4), (L + 1 + 1 + 1, o3), (L + 1 + 1, o2), (L + 1, o1)]) (P := fun x => x ∉ la.adrs ++ adr) (by rfl) offM
  · exact fun r hr => not_adrs M Rd (fun q hq => off10 q (.tail _ (List.mem_append_right _ hq)) r hr)
  · exact fst_forall (l := (Dl, listOf yl.toArray kl) :: (Dp, listOf yp.toArray kp) :: (Dc, listOf (two a b i1 i2).toArray kc) :: [(173, tabObj tab), (L + 1 + 1 + 1 + 1 + 1, o5), (L + 1 + 1 + 1 + 1, o4), (L + 1 + 1 + 1, o3), (L + 1 + 1, o2), (L + 1, o1)]) (P := fun x => ∀ r ∈ T3'' ++ T4', x ≠ r.1) (by rfl) (fun q hq => off10 q (mA q hq))
end

theorem lack_in {l : List Nat} {i : Nat} (h : i ∉ l) : (List.range (i + 1)).filter (fun x => decide (x ∉ l)) = (List.range i).filter (fun x => decide (x ∉ l)) ++ [i] := by
  rw [List.range_succ, List.filter_append, List.filter_cons_of_pos (by simpa using h), List.filter_nil]
theorem lack_out {l : List Nat} {i : Nat} (h : i ∈ l) : (List.range (i + 1)).filter (fun x => decide (x ∉ l)) = (List.range i).filter (fun x => decide (x ∉ l)) := by
  rw [List.range_succ, List.filter_append, List.filter_cons_of_neg (by simpa using h), List.filter_nil, List.append_nil]
section
variable {w : World} {dp un : Nat} {gd : Option (List Code)} {outer : List Env} {A₀ : Around} {base h₀ : Heap} {L fa : Addr} {cd : Value} {tp : Program} {tl : List Str} {mean : ExcName → Option Value} {mg mb : Str → Option Value} {s : Shared} {Q : Flow → Shared → Prop} {E : Value → Shared → Prop} {rest : List Stmt} {scope : Scope}
theorem stC2 (hdef : lawRest ((hd.heap_1 w.params).lookup 219) 8 = some (rest, scope)) (B : Below A₀ base outer h₀) (X : (hd.heap_1 w.params).In h₀) (T : Top tp tl mean mg mb h₀)
    {sc : Addr} {vs : List Value} {ns : List Int} (hsc : h₀.IsList sc vs.toArray) (hi : IntsAre vs ns) (hl : ns.length ≤ 63)
    {T3 T4 : List (Addr × Obj)} {tab : Array Value} (S3 : TabSt 37 35 4 "_int2digits.<locals>.inner" T3) (S4 : TabSt 44 50 4 "_digits2int.<locals>.inner" T4)
    {la : LexA} {adr : List Addr} {RO : Nat → List (Addr × Obj) → Prop} {txt : Str} {p : Nat} {blk : List (Addr × Obj)} (Rd : Reader w la.rd txt adr RO) (O : la.Ok adr) (M : MachSt w la RO (1 + nlTo txt p) "\n\t\r " [] p blk) (hp : p ≤ txt.length) (htl : txt.length < 2000) (hcod : codes txt p = [])
    {a b : Nat} (ok : Ok3 a b) {o1 o2 o3 o4 o5 : Obj} {Dp Dc : Addr} {yp : List Value} {kp kc : Nat} {ta tb i1 i2 : Tok} {totals text : Option Value} {v3 v4 v5 : Option Value}
    (k1 : cellIs o1 (some (.int (b : Int) tb))) (k2 : cellIs o2 (some (.ref Dp))) (k3 : cellIs o3 v3) (k4 : cellIs o4 v4) (k5 : cellIs o5 v5) (ha : 2 ≤ a ∧ a ≤ 7)
    (hyp : StrsAre yp ((paidOf a b).map blank))
    (F : Fr h₀ L s.heap (wl3 (some (.ref sc)) totals (some (.int (a : Int) ta)) text (some (.ref la.x)) (some (.ref Dc)) none none none none none))
    (N : News h₀ L s.heap ((Dp, listOf yp.toArray kp) :: (Dc, listOf (two a b i1 i2).toArray kc) :: [(173, tabObj tab), (L + 1 + 1 + 1 + 1 + 1, o5), (L + 1 + 1 + 1 + 1, o4), (L + 1 + 1 + 1, o3), (L + 1 + 1, o2), (L + 1, o1)] ++ (blk ++ (T3 ++ T4))))
    (offM : ∀ q ∈ (Dp, listOf yp.toArray kp) :: (Dc, listOf (two a b i1 i2).toArray kc) :: [(173, tabObj tab), (L + 1 + 1 + 1 + 1 + 1, o5), (L + 1 + 1 + 1 + 1, o4), (L + 1 + 1 + 1, o3), (L + 1 + 1, o2), (L + 1, o1)], q.1 ∉ la.adrs ++ adr) (offTM : ∀ r ∈ T3 ++ T4, r.1 ∉ la.adrs ++ adr)
    (offT : ∀ q ∈ (Dp, listOf yp.toArray kp) :: (Dc, listOf (two a b i1 i2).toArray kc) :: [(173, tabObj tab), (L + 1 + 1 + 1 + 1 + 1, o5), (L + 1 + 1 + 1 + 1, o4), (L + 1 + 1 + 1, o3), (L + 1 + 1, o2), (L + 1, o1)], ∀ r ∈ T3 ++ T4, q.1 ≠ r.1)
    (offC : ∀ q ∈ [(Dp, listOf yp.toArray kp), (Dc, listOf (two a b i1 i2).toArray kc)], q.1 ≠ L + 1 + 1 + 1 + 1 + 1 ∧ q.1 ≠ L + 1 + 1 + 1 + 1 ∧ q.1 ≠ L + 1 + 1 + 1)
    (hL : 173 < L) (hd' : dp + 200 < recursionLimit) (hu : un + 2000 < cLine) (hQ : LawEnd h₀ L Q s) :
    wpAny (model Challenge.rw_pe0259_03.row.prog w) (Ar dp un gd (envOfC "law" scope L fa cd :: outer)) (execs rest (envOfC "law" scope L fa cd)) Q E s := by
  revert hdef
  k_fill
  intro hdef
  refine' law_out ?hl hdef ?_
  (case hl => k_is)
  clear hdef
  intro hdef
  cases hdef
  have codeHd := codeHd_of_K (c := 41) (P := 37) X (by kernel_rfl)
  (try dsimp only [List.drop]); (try k_fold)
  unfold wl3 at F
  obtain ⟨hb2, hb9⟩ := ok.hb
  simp only [List.cons_append, List.nil_append] at N
  have hab : a * b ≤ 7 * 8 := Nat.mul_le_mul (by omega) (by omega)
  ((repeat' ((fail_if_success (with_reducible show wpAny _ _ (eval (Expr.ListComp _ _ _ _) _) _ _ _)); (first | (k_unfold; (try dsimp only)) | ((with_reducible first | show wpAny _ _ (exec _ _) _ _ _ | show wpAny _ _ (execs _ _) _ _ _); k_fold) | (k_end; wrow_close) | walk1 | (dsimp only; walk1) | (leave1; (try dsimp only))))) <;> (repeat (k_unfold; (try dsimp only))))
  rename Fr _ _ _ _ => F1
  rename News _ _ _ _ => N1
  refine LCt.ListComp_T (F₀ := F1) (by with_unfolding_all rfl) (by decide) (by rfl) (by decide) (by rfl) ?_
  ((repeat' ((fail_if_success (with_reducible show LCt.CompSrcT _ _ _ _ _ _ _ _ _ _ _ _ _ _ _)); (first | ((with_reducible show wpAny _ _ (binaryOp Operator.Mult (Value.int (Nat.cast _) _) (Value.int (Nat.cast _) _)) _ _ _); refine mulN_st (by omega) ?_) | (k_unfold; (try dsimp only)) | ((with_reducible first | show wpAny _ _ (exec _ _) _ _ _ | show wpAny _ _ (execs _ _) _ _ _); k_fold) | (k_end; wrow_close) | walk1 | (dsimp only; walk1) | (leave1; (try dsimp only))))) <;> (repeat (k_unfold; (try dsimp only))))
  rename IsRange _ _ _ _ _ _ _ _ => R2
  rename Fr _ _ _ _ => F2
  rename News _ _ _ _ => N2
  obtain ⟨NW, hNW⟩ : ∃ NW, NW = (Dp, listOf yp.toArray kp) :: (Dc, listOf (two a b i1 i2).toArray kc) :: [(173, tabObj tab), (L + 1 + 1 + 1 + 1 + 1, o5), (L + 1 + 1 + 1 + 1, o4), (L + 1 + 1 + 1, o3), (L + 1 + 1, o2), (L + 1, o1)] ++ (blk ++ (T3 ++ T4)) := ⟨_, rfl⟩
  refine LCt.CompSrcT.range (n := a * b + 1) (news := NW) rfl F2 (by rw [hNW]; exact N2) R2 (small_n (Nat.le_trans (Nat.succ_le_succ hab) (by decide))) (by rw [show ((a * b : Nat) : Int) + 1 = ((a * b + 1 : Nat) : Int) from rfl, rangeSize_nat, Int.sub_zero, Int.toNat_natCast]) (size_n (Nat.le_trans (Nat.succ_le_succ hab) (by decide))) (fun g' => ?_)
  refine restT_of (a * b + 1) (fun i ys news => IntsAre ys (((List.range i).filter (fun x => decide (x ∉ paidOf a b))).map fun x : Nat => (x : Int)) ∧ news = NW) ?_ ?_ _ 0 [] _ (Nat.zero_add _) ⟨.nil, rfl⟩
  · rintro i ys news v I oI C oC D m₂ h9 tk9 E' hi2 ⟨hys, rfl⟩ ⟨tv, rfl⟩ hns hx F11 N11 o3' ne
    rw [Int.zero_add] at hx
    subst hNW
    clear F2 N2
    try clear F1
    try clear N1
    simp only [List.cons_append, List.nil_append] at N11
    (try dsimp only); (try k_fold)
    ((repeat' ((fail_if_success (with_reducible show wpAny _ _ (compareOp _ _ _) _ _ _)); (first | (k_unfold; (try dsimp only)) | ((with_reducible first | show wpAny _ _ (exec _ _) _ _ _ | show wpAny _ _ (execs _ _) _ _ _); k_fold) | (k_end; wrow_close) | walk1 | (dsimp only; walk1) | (leave1; (try dsimp only))))) <;> (repeat (k_unfold; (try dsimp only))))
    rename Fr _ _ _ _ => F12
    rename News _ _ _ _ => N12
    rw [show Txt.mul (Str.ofString " ") ((i : Nat) : Int) = blank i from by rw [lit_s, Tx_mul1]]
    refine notin_strs (News.isList N12 (by k_mem)) hyp (okBs _) (okB i) (by k_units) ?_
    rw [show decide (blank i ∈ (paidOf a b).map blank) = decide (i ∈ paidOf a b) from decide_eq_decide.mpr blank_mem]
    (try dsimp only)
    ((repeat' ((fail_if_success (with_reducible show LCg.CompEnd _ _ _ _ _ _ _ _ _ _ _ _ _ _)); (first | (k_unfold; (try dsimp only)) | ((with_reducible first | show wpAny _ _ (exec _ _) _ _ _ | show wpAny _ _ (execs _ _) _ _ _); k_fold) | (k_end; wrow_close) | walk1 | (dsimp only; walk1) | (leave1; (try dsimp only))))) <;> (repeat (k_unfold; (try dsimp only))))
    · rename _ ∈ _ => hq2
      rename Fr _ _ _ _ => F13
      rename News _ _ _ _ => N13
      refine LCg.CompEnd.intro F13 N13 _ (fun q hq => hq) o3' trivial ⟨?_, rfl⟩
      rw [lack_out hq2]
      exact hys
    · rename ¬ _ ∈ _ => hq2
      rename Fr _ _ _ _ => F13
      rename News _ _ _ _ => N13
      refine LCg.CompEnd.intro F13 N13 _ (fun q hq => hq) o3' trivial ⟨?_, rfl⟩
      rw [lack_in hq2, List.map_append]
      exact ints_snoc1 hys
  · rintro ys news ⟨hys, rfl⟩ Dz h9 tk9 F11 N11 oD
    have om := Off1_mem oD
    subst hNW
    clear F2 N2
    try clear F1
    try clear N1
    simp only [List.cons_append, List.nil_append] at N11
    obtain ⟨⟨c1, c2, c3⟩, c4, c5, c6⟩ := And.intro (offC _ (.head _)) (offC _ (.tail _ (.head _)))
    have c7 := kn37 hL
    have c8 : ∀ q ∈ blk ++ (T3 ++ T4), q.1 ≠ L + 1 + 1 + 1 := fun q hq => by
      rcases List.mem_append.mp hq with hq | hq
      · exact of_adrs M Rd (offM (L + 1 + 1 + 1, o3) (.tail _ (.tail _ (.tail _ (.tail _ (.tail _ (.head _))))))) q hq
      · exact (offT (L + 1 + 1 + 1, o3) (.tail _ (.tail _ (.tail _ (.tail _ (.tail _ (.head _)))))) q hq).symm
    have c9 : Dz ≠ L + 1 + 1 + 1 := (om (L + 1 + 1 + 1, o3) (.tail _ (.tail _ (.tail _ (.tail _ (.tail _ (.head _))))))).symm
    (try dsimp only); (try k_fold)
    ((repeat' ((fail_if_success (with_reducible show wpAny _ _ (execs (Stmt.Assign [Expr.Name (Str.ofString "greatest") _] _ _ :: _) _) _ _ _)); (first | (k_unfold; (try dsimp only)) | ((with_reducible first | show wpAny _ _ (exec _ _) _ _ _ | show wpAny _ _ (execs _ _) _ _ _); k_fold) | (k_end; wrow_close) | walk1 | (dsimp only; walk1) | (leave1; (try dsimp only))))) <;> (repeat (k_unfold; (try dsimp only))))
    rename Fr _ _ _ _ => F12
    rename News _ _ _ _ => N12
    rename Obj => o6
    rename (Obj.data o6 = Data.cell _) => k6
    have F13 : Fr h₀ L _ (wl3 (some (.ref sc)) totals (some (.int (a : Int) ta)) text (some (.ref la.x)) (some (.ref Dc)) none none none none none) := Fr.congr F12 (by (intro y; unfold wl3; (rcases Classical.em (y = "script") with rfl | h0); exact rfl; (rcases Classical.em (y = "totals") with rfl | h1); exact rfl; (rcases Classical.em (y = "a") with rfl | h2); exact rfl; (rcases Classical.em (y = "text") with rfl | h3); exact rfl; (rcases Classical.em (y = "machine") with rfl | h4); exact rfl; (rcases Classical.em (y = "coins") with rfl | h5); exact rfl; (rcases Classical.em (y = "greatest") with rfl | h6); exact rfl; (rcases Classical.em (y = "over") with rfl | h7); exact rfl; (rcases Classical.em (y = "by_a") with rfl | h8); exact rfl; (rcases Classical.em (y = "sums") with rfl | h9); exact rfl; (rcases Classical.em (y = "needed") with rfl | h10); exact rfl; (try simp only [if_neg h0, if_neg h1, if_neg h2, if_neg h3, if_neg h4, if_neg h5, if_neg h6, if_neg h7, if_neg h8, if_neg h9, if_neg h10]); (first | done | exact rfl | (show List.lookup y (_ :: _) = none; simp only [List.lookup, beq_eq_false_iff_ne.mpr h0, beq_eq_false_iff_ne.mpr h1, beq_eq_false_iff_ne.mpr h2, beq_eq_false_iff_ne.mpr h3, beq_eq_false_iff_ne.mpr h4, beq_eq_false_iff_ne.mpr h5, beq_eq_false_iff_ne.mpr h6, beq_eq_false_iff_ne.mpr h7, beq_eq_false_iff_ne.mpr h8, beq_eq_false_iff_ne.mpr h9, beq_eq_false_iff_ne.mpr h10]) | (simp only [List.lookup, beq_eq_false_iff_ne.mpr h0, beq_eq_false_iff_ne.mpr h1, beq_eq_false_iff_ne.mpr h2, beq_eq_false_iff_ne.mpr h3, beq_eq_false_iff_ne.mpr h4, beq_eq_false_iff_ne.mpr h5, beq_eq_false_iff_ne.mpr h6, beq_eq_false_iff_ne.mpr h7, beq_eq_false_iff_ne.mpr h8, beq_eq_false_iff_ne.mpr h9, beq_eq_false_iff_ne.mpr h10]; done))))
    have lA : ((Dp, listOf yp.toArray kp) :: (Dc, listOf (two a b i1 i2).toArray kc) :: [(173, tabObj tab), (L + 1 + 1 + 1 + 1 + 1, o5), (L + 1 + 1 + 1 + 1, o4), (L + 1 + 1 + 1, o3), (L + 1 + 1, o2), (L + 1, o1)]).map Prod.fst = ((Dp, listOf yp.toArray kp) :: (Dc, listOf (two a b i1 i2).toArray kc) :: [(173, tabObj tab), (L + 1 + 1 + 1 + 1 + 1, o5), (L + 1 + 1 + 1 + 1, o4), (L + 1 + 1 + 1, o6), (L + 1 + 1, o2), (L + 1, o1)]).map Prod.fst := by rfl
    refine stD (s := { s with heap := _, toks := _ }) (kl := ys.length) (kp := kp) (kc := kc) (i1 := i1) (i2 := i2) (tab := tab) (o3 := o6) (by exact rfl) B X T hsc hi hl S3 S4 Rd O M hp htl hcod ok k1 k2 k6 k4 k5 ha hys hyp F13 N12 ?_ offTM ?_ ?_ ?_ hL hd' hu hQ
    · refine List.forall_mem_cons.mpr ⟨not_adrs M Rd (fun r hr => om r (.tail _ (.tail _ (List.mem_append_right [(173, tabObj tab), (L + 1 + 1 + 1 + 1 + 1, o5), (L + 1 + 1 + 1 + 1, o4), (L + 1 + 1 + 1, o3), (L + 1 + 1, o2), (L + 1, o1)] (List.mem_append_left _ hr))))), fst_forall (P := fun x => x ∉ la.adrs ++ adr) lA offM⟩
    · refine List.forall_mem_cons.mpr ⟨fun r hr => (om r (.tail _ (.tail _ (List.mem_append_right [(173, tabObj tab), (L + 1 + 1 + 1 + 1 + 1, o5), (L + 1 + 1 + 1 + 1, o4), (L + 1 + 1 + 1, o3), (L + 1 + 1, o2), (L + 1, o1)] (List.mem_append_right _ hr))))).symm, fst_forall (P := fun x => ∀ r ∈ T3 ++ T4, x ≠ r.1) lA offT⟩
    · exact List.forall_mem_cons.mpr ⟨(om (L + 1 + 1 + 1 + 1 + 1, o5) (.tail _ (.tail _ (.tail _ (.head _))))).symm, List.forall_mem_cons.mpr ⟨c1, List.forall_mem_cons.mpr ⟨c4, List.forall_mem_nil _⟩⟩⟩
    · exact List.forall_mem_cons.mpr ⟨(om (L + 1 + 1 + 1 + 1, o4) (.tail _ (.tail _ (.tail _ (.tail _ (.head _)))))).symm, List.forall_mem_cons.mpr ⟨c2, List.forall_mem_cons.mpr ⟨c5, List.forall_mem_nil _⟩⟩⟩
theorem stC (hdef : lawRest ((hd.heap_1 w.params).lookup 219) 7 = some (rest, scope)) (B : Below A₀ base outer h₀) (X : (hd.heap_1 w.params).In h₀) (T : Top tp tl mean mg mb h₀)
    {sc : Addr} {vs : List Value} {ns : List Int} (hsc : h₀.IsList sc vs.toArray) (hi : IntsAre vs ns) (hl : ns.length ≤ 63)
    {T3 T4 : List (Addr × Obj)} {tab : Array Value} (S3 : TabSt 37 35 4 "_int2digits.<locals>.inner" T3) (S4 : TabSt 44 50 4 "_digits2int.<locals>.inner" T4)
    {la : LexA} {adr : List Addr} {RO : Nat → List (Addr × Obj) → Prop} {txt : Str} {p : Nat} {blk : List (Addr × Obj)} (Rd : Reader w la.rd txt adr RO) (O : la.Ok adr) (M : MachSt w la RO (1 + nlTo txt p) "\n\t\r " [] p blk) (hp : p ≤ txt.length) (htl : txt.length < 2000) (hlex : lex0 "\n\t\r " (codes txt p) = (Tx [101, 110, 100], []))
    {a b : Nat} (ok : Ok3 a b) {o1 o2 o3 o4 o5 : Obj} {Dc : Addr} {kc : Nat} {ta tb i1 i2 : Tok} {totals text : Option Value} {v2 v3 v4 v5 : Option Value}
    (k1 : cellIs o1 (some (.int (b : Int) tb))) (k2 : cellIs o2 v2) (k3 : cellIs o3 v3) (k4 : cellIs o4 v4) (k5 : cellIs o5 v5) (ha : 2 ≤ a ∧ a ≤ 7)
    (F : Fr h₀ L s.heap (wl3 (some (.ref sc)) totals (some (.int (a : Int) ta)) text (some (.ref la.x)) (some (.ref Dc)) none none none none none))
    (N : News h₀ L s.heap ((Dc, listOf (two a b i1 i2).toArray kc) :: [(173, tabObj tab), (L + 1 + 1 + 1 + 1 + 1, o5), (L + 1 + 1 + 1 + 1, o4), (L + 1 + 1 + 1, o3), (L + 1 + 1, o2), (L + 1, o1)] ++ (blk ++ (T3 ++ T4))))
    (offM : ∀ q ∈ (Dc, listOf (two a b i1 i2).toArray kc) :: [(173, tabObj tab), (L + 1 + 1 + 1 + 1 + 1, o5), (L + 1 + 1 + 1 + 1, o4), (L + 1 + 1 + 1, o3), (L + 1 + 1, o2), (L + 1, o1)], q.1 ∉ la.adrs ++ adr) (offTM : ∀ r ∈ T3 ++ T4, r.1 ∉ la.adrs ++ adr)
    (offT : ∀ q ∈ (Dc, listOf (two a b i1 i2).toArray kc) :: [(173, tabObj tab), (L + 1 + 1 + 1 + 1 + 1, o5), (L + 1 + 1 + 1 + 1, o4), (L + 1 + 1 + 1, o3), (L + 1 + 1, o2), (L + 1, o1)], ∀ r ∈ T3 ++ T4, q.1 ≠ r.1)
    (offA : ∀ q ∈ [(173, tabObj tab), (L + 1 + 1 + 1 + 1 + 1, o5), (L + 1 + 1 + 1 + 1, o4), (L + 1 + 1 + 1, o3), (L + 1 + 1, o2), (L + 1, o1)], q.1 ≠ Dc)
    (hL : 173 < L) (hd' : dp + 200 < recursionLimit) (hu : un + 2000 < cLine) (hQ : LawEnd h₀ L Q s) :
    wpAny (model Challenge.rw_pe0259_03.row.prog w) (Ar dp un gd (envOfC "law" scope L fa cd :: outer)) (execs rest (envOfC "law" scope L fa cd)) Q E s := by
  revert hdef
  k_fill
  intro hdef
  refine' law_out ?hl hdef ?_
  (case hl => k_is)
  clear hdef
  intro hdef
  cases hdef
  have codeHd := codeHd_of_K (c := 41) (P := 37) X (by kernel_rfl)
  (try dsimp only [List.drop]); (try k_fold)
  unfold wl3 at F
  obtain ⟨hb2, hb9⟩ := ok.hb
  have hab : a * b ≤ 7 * 8 := Nat.mul_le_mul (by omega) (by omega)
  simp only [List.cons_append, List.nil_append] at N
  ((repeat' ((fail_if_success (with_reducible show wpAny _ _ (call (Value.ref 204) _) _ _ _)); (first | ((with_reducible show wpAny _ _ (binaryOp Operator.Mult (Value.int (Nat.cast _) _) (Value.int (Nat.cast _) _)) _ _ _); refine mulN_st (by omega) ?_) | (k_unfold; (try dsimp only)) | ((with_reducible first | show wpAny _ _ (exec _ _) _ _ _ | show wpAny _ _ (execs _ _) _ _ _); k_fold) | (k_end; wrow_close) | walk1 | (dsimp only; walk1) | (leave1; (try dsimp only))))) <;> (repeat (k_unfold; (try dsimp only))))
  rename Fr _ _ _ _ => F1
  rename News _ _ _ _ => N1
  refine use_g (payable_c w la txt adr RO Rd O 1 p blk M hp htl hlex Dc i1 i2 kc a b (a * b) _ (offM _ (.head _)) (by omega) (by omega) (by omega) (paidOf a b) 400 (by decide) (Prod.ext rfl ok.pay)) (oth := [(173, tabObj tab), (L + 1 + 1 + 1 + 1 + 1, o5), (L + 1 + 1 + 1 + 1, o4), (L + 1 + 1 + 1, o3), (L + 1 + 1, o2), (L + 1, o1)] ++ (T3 ++ T4)) B F1 X N1 T rfl rfl ?_ ?_ ?_ (by k_room) (by k_units) ?_
  · exact List.forall_mem_cons.mpr ⟨.head _, fun q hq => mem_skip ((Dc, listOf (two a b i1 i2).toArray kc) :: [(173, tabObj tab), (L + 1 + 1 + 1 + 1 + 1, o5), (L + 1 + 1 + 1 + 1, o4), (L + 1 + 1 + 1, o3), (L + 1 + 1, o2), (L + 1, o1)]) (List.mem_append_left (T3 ++ T4) hq)⟩
  · intro q hq
    rcases List.mem_append.mp hq with hq | hq
    · exact List.mem_append_left (blk ++ (T3 ++ T4)) (List.Mem.tail (Dc, listOf (two a b i1 i2).toArray kc) hq)
    · exact mem_skip ((Dc, listOf (two a b i1 i2).toArray kc) :: [(173, tabObj tab), (L + 1 + 1 + 1 + 1 + 1, o5), (L + 1 + 1 + 1 + 1, o4), (L + 1 + 1 + 1, o3), (L + 1 + 1, o2), (L + 1, o1)]) (List.mem_append_right blk hq)
  · intro z hz r hr
    rcases List.mem_append.mp hz with hz | hz
    · rcases List.mem_cons.mp hr with rfl | hr
      · exact offA z hz
      · exact (of_adrs M Rd (offM z (.tail _ hz)) r hr).symm
    · rcases List.mem_cons.mp hr with rfl | hr
      · exact (offT (Dc, listOf (two a b i1 i2).toArray kc) (.head _) z hz).symm
      · exact (of_adrs M Rd (offTM z hz) r hr).symm
  rintro v14 blk14 h14 tk14 F14 N14 ne14 - ⟨Dp, yp, kp, blk2, p2, rfl, hyp, hp2, hcod, M2, hDpM, hDpc, rfl⟩
  clear F1 N1
  replace N14 : News h₀ L h14 ((Dp, listOf yp.toArray kp) :: (Dc, listOf (two a b i1 i2).toArray kc) :: [(173, tabObj tab), (L + 1 + 1 + 1 + 1 + 1, o5), (L + 1 + 1 + 1 + 1, o4), (L + 1 + 1 + 1, o3), (L + 1 + 1, o2), (L + 1, o1)] ++ (blk2 ++ (T3 ++ T4))) := fun q hq => by
    rcases List.mem_cons.mp hq with rfl | hq
    · exact N14 _ (.head _)
    · rcases List.mem_cons.mp hq with rfl | hq
      · exact N14 _ (.tail _ (.head _))
      · rcases List.mem_append.mp (show q ∈ [(173, tabObj tab), (L + 1 + 1 + 1 + 1 + 1, o5), (L + 1 + 1 + 1 + 1, o4), (L + 1 + 1 + 1, o3), (L + 1 + 1, o2), (L + 1, o1)] ++ (blk2 ++ (T3 ++ T4)) from hq) with hq | hq
        · exact N14 q (List.mem_append_right _ (List.mem_append_left _ hq))
        · rcases List.mem_append.mp hq with hq | hq
          · exact N14 q (List.mem_append_left _ (.tail _ (.tail _ hq)))
          · exact N14 q (List.mem_append_right _ (List.mem_append_right _ hq))
  have c1 : Dp ≠ L + 1 + 1 := ne14 _ (.head _) (L + 1 + 1, o2) (.tail _ (.tail _ (.tail _ (.tail _ (.head _)))))
  have c2 : Dc ≠ L + 1 + 1 := (offA (L + 1 + 1, o2) (.tail _ (.tail _ (.tail _ (.tail _ (.head _)))))).symm
  have c3 := kn37 hL
  have c4 : ∀ q ∈ blk2 ++ (T3 ++ T4), q.1 ≠ L + 1 + 1 := fun q hq => by
    rcases List.mem_append.mp hq with hq | hq
    · exact ne14 q (.tail _ (.tail _ hq)) (L + 1 + 1, o2) (.tail _ (.tail _ (.tail _ (.tail _ (.head _)))))
    · exact (offT (L + 1 + 1, o2) (.tail _ (.tail _ (.tail _ (.tail _ (.tail _ (.head _)))))) q hq).symm
  simp only [List.cons_append, List.nil_append] at N14
  (try dsimp only)
  ((repeat' ((fail_if_success (with_reducible show wpAny _ _ (execs (Stmt.Assign [Expr.Name (Str.ofString "lacking") _] _ _ :: _) _) _ _ _)); (first | (k_unfold; (try dsimp only)) | ((with_reducible first | show wpAny _ _ (exec _ _) _ _ _ | show wpAny _ _ (execs _ _) _ _ _); k_fold) | (k_end; wrow_close) | walk1 | (dsimp only; walk1) | (leave1; (try dsimp only))))) <;> (repeat (k_unfold; (try dsimp only))))
  rename Fr _ _ _ _ => F15
  rename News _ _ _ _ => N15
  rename Obj => o6
  rename (Obj.data o6 = Data.cell _) => k6
  have F16 : Fr h₀ L _ (wl3 (some (.ref sc)) totals (some (.int (a : Int) ta)) text (some (.ref la.x)) (some (.ref Dc)) none none none none none) := Fr.congr F15 (by (intro y; unfold wl3; (rcases Classical.em (y = "script") with rfl | h0); exact rfl; (rcases Classical.em (y = "totals") with rfl | h1); exact rfl; (rcases Classical.em (y = "a") with rfl | h2); exact rfl; (rcases Classical.em (y = "text") with rfl | h3); exact rfl; (rcases Classical.em (y = "machine") with rfl | h4); exact rfl; (rcases Classical.em (y = "coins") with rfl | h5); exact rfl; (rcases Classical.em (y = "greatest") with rfl | h6); exact rfl; (rcases Classical.em (y = "over") with rfl | h7); exact rfl; (rcases Classical.em (y = "by_a") with rfl | h8); exact rfl; (rcases Classical.em (y = "sums") with rfl | h9); exact rfl; (rcases Classical.em (y = "needed") with rfl | h10); exact rfl; (try simp only [if_neg h0, if_neg h1, if_neg h2, if_neg h3, if_neg h4, if_neg h5, if_neg h6, if_neg h7, if_neg h8, if_neg h9, if_neg h10]); (first | done | exact rfl | (show List.lookup y (_ :: _) = none; simp only [List.lookup, beq_eq_false_iff_ne.mpr h0, beq_eq_false_iff_ne.mpr h1, beq_eq_false_iff_ne.mpr h2, beq_eq_false_iff_ne.mpr h3, beq_eq_false_iff_ne.mpr h4, beq_eq_false_iff_ne.mpr h5, beq_eq_false_iff_ne.mpr h6, beq_eq_false_iff_ne.mpr h7, beq_eq_false_iff_ne.mpr h8, beq_eq_false_iff_ne.mpr h9, beq_eq_false_iff_ne.mpr h10]) | (simp only [List.lookup, beq_eq_false_iff_ne.mpr h0, beq_eq_false_iff_ne.mpr h1, beq_eq_false_iff_ne.mpr h2, beq_eq_false_iff_ne.mpr h3, beq_eq_false_iff_ne.mpr h4, beq_eq_false_iff_ne.mpr h5, beq_eq_false_iff_ne.mpr h6, beq_eq_false_iff_ne.mpr h7, beq_eq_false_iff_ne.mpr h8, beq_eq_false_iff_ne.mpr h9, beq_eq_false_iff_ne.mpr h10]; done))))
  have lA : ((Dc, listOf (two a b i1 i2).toArray kc) :: [(173, tabObj tab), (L + 1 + 1 + 1 + 1 + 1, o5), (L + 1 + 1 + 1 + 1, o4), (L + 1 + 1 + 1, o3), (L + 1 + 1, o2), (L + 1, o1)]).map Prod.fst = ((Dc, listOf (two a b i1 i2).toArray kc) :: [(173, tabObj tab), (L + 1 + 1 + 1 + 1 + 1, o5), (L + 1 + 1 + 1 + 1, o4), (L + 1 + 1 + 1, o3), (L + 1 + 1, o6), (L + 1, o1)]).map Prod.fst := by rfl
  refine stC2 (s := { s with heap := _, toks := _ }) (kp := kp) (kc := kc) (i1 := i1) (i2 := i2) (tab := tab) (o2 := o6) (by exact rfl) B X T hsc hi hl S3 S4 Rd O M2 hp2 htl hcod ok k1 k6 k3 k4 k5 ha hyp F16 N15 ?_ offTM ?_ ?_ hL hd' hu hQ
  · exact List.forall_mem_cons.mpr ⟨hDpM, fst_forall (P := fun x => x ∉ la.adrs ++ adr) lA offM⟩
  · exact List.forall_mem_cons.mpr ⟨fun r hr => ne14 _ (.head _) r (List.mem_append_right _ hr), fst_forall (P := fun x => ∀ r ∈ T3 ++ T4, x ≠ r.1) lA offT⟩
  · have nD : ∀ z ∈ [(173, tabObj tab), (L + 1 + 1 + 1 + 1 + 1, o5), (L + 1 + 1 + 1 + 1, o4), (L + 1 + 1 + 1, o3), (L + 1 + 1, o2), (L + 1, o1)], Dp ≠ z.1 := fun z hz => ne14 _ (.head _) z (List.mem_append_left _ hz)
    exact List.forall_mem_cons.mpr ⟨⟨nD (L + 1 + 1 + 1 + 1 + 1, o5) (.tail _ (.head _)), nD (L + 1 + 1 + 1 + 1, o4) (.tail _ (.tail _ (.head _))), nD (L + 1 + 1 + 1, o3) (.tail _ (.tail _ (.tail _ (.head _))))⟩,
      List.forall_mem_cons.mpr ⟨⟨(offA (L + 1 + 1 + 1 + 1 + 1, o5) (.tail _ (.head _))).symm, (offA (L + 1 + 1 + 1 + 1, o4) (.tail _ (.tail _ (.head _)))).symm, (offA (L + 1 + 1 + 1, o3) (.tail _ (.tail _ (.tail _ (.head _))))).symm⟩, List.forall_mem_nil _⟩⟩
end

/-- the text of the two coins -/
noncomputable def txt3 (a b : Nat) (m1 m2 : Int) : List Nat := spellL a m1 ++ spellL b m2 ++ [101, 110, 100]
theorem txt3_len {a b : Nat} {m1 m2 : Int} (ha : a < 20) (hb : b < 20) : (txt3 a b m1 m2).length ≤ 103 := by
  unfold txt3
  have h1 := spell_len (k := a) (m := m1) ha
  have h2 := spell_len (k := b) (m := m2) hb
  rw [List.length_append, List.length_append]
  simp only [List.length_cons, List.length_nil]
  omega
section
variable {w : World} {dp un : Nat} {gd : Option (List Code)} {outer : List Env} {A₀ : Around} {base h₀ : Heap} {L fa : Addr} {cd : Value} {tp : Program} {tl : List Str} {mean : ExcName → Option Value} {mg mb : Str → Option Value} {s : Shared} {Q : Flow → Shared → Prop} {E : Value → Shared → Prop} {rest : List Stmt} {scope : Scope}
theorem stB (hdef : lawRest ((hd.heap_1 w.params).lookup 219) 5 = some (rest, scope)) (B : Below A₀ base outer h₀) (X : (hd.heap_1 w.params).In h₀) (T : Top tp tl mean mg mb h₀)
    {sc : Addr} {vs : List Value} {ns : List Int} (hsc : h₀.IsList sc vs.toArray) (hi : IntsAre vs ns) (hl : ns.length ≤ 63)
    {T3 T4 : List (Addr × Obj)} {tab : Array Value} (S3 : TabSt 37 35 4 "_int2digits.<locals>.inner" T3) (S4 : TabSt 44 50 4 "_digits2int.<locals>.inner" T4)
    {la : LexA} {adr : List Addr} {RO : Nat → List (Addr × Obj) → Prop} {blk : List (Addr × Obj)} {a b : Nat} {m1 m2 : Int} (Rd : Reader w la.rd (Tx (txt3 a b m1 m2)) adr RO) (O : la.Ok adr) (M : MachSt w la RO 1 "\n\t\r " [] 0 blk)
    (ok : Ok3 a b) {o1 o2 o3 o4 o5 : Obj} {ta tb tt : Tok} {totals : Option Value} {v2 v3 v4 v5 : Option Value}
    (k1 : cellIs o1 (some (.int (b : Int) tb))) (k2 : cellIs o2 v2) (k3 : cellIs o3 v3) (k4 : cellIs o4 v4) (k5 : cellIs o5 v5) (ha : 2 ≤ a ∧ a ≤ 7)
    (F : Fr h₀ L s.heap (wl3 (some (.ref sc)) totals (some (.int (a : Int) ta)) (some (.str (Tx (txt3 a b m1 m2)) tt)) (some (.ref la.x)) none none none none none none))
    (N : News h₀ L s.heap ([(173, tabObj tab), (L + 1 + 1 + 1 + 1 + 1, o5), (L + 1 + 1 + 1 + 1, o4), (L + 1 + 1 + 1, o3), (L + 1 + 1, o2), (L + 1, o1)] ++ (blk ++ (T3 ++ T4))))
    (offM : ∀ q ∈ [(173, tabObj tab), (L + 1 + 1 + 1 + 1 + 1, o5), (L + 1 + 1 + 1 + 1, o4), (L + 1 + 1 + 1, o3), (L + 1 + 1, o2), (L + 1, o1)], q.1 ∉ la.adrs ++ adr) (offTM : ∀ r ∈ T3 ++ T4, r.1 ∉ la.adrs ++ adr)
    (offT : ∀ q ∈ [(173, tabObj tab), (L + 1 + 1 + 1 + 1 + 1, o5), (L + 1 + 1 + 1 + 1, o4), (L + 1 + 1 + 1, o3), (L + 1 + 1, o2), (L + 1, o1)], ∀ r ∈ T3 ++ T4, q.1 ≠ r.1)
    (hL : 173 < L) (hd' : dp + 200 < recursionLimit) (hu : un + 2000 < cLine) (hQ : LawEnd h₀ L Q s) :
    wpAny (model Challenge.rw_pe0259_03.row.prog w) (Ar dp un gd (envOfC "law" scope L fa cd :: outer)) (execs rest (envOfC "law" scope L fa cd)) Q E s := by
  revert hdef
  k_fill
  intro hdef
  refine' law_out ?hl hdef ?_
  (case hl => k_is)
  clear hdef
  intro hdef
  cases hdef
  have codeHd := codeHd_of_K (c := 41) (P := 37) X (by kernel_rfl)
  (try dsimp only [List.drop]); (try k_fold)
  unfold wl3 at F
  obtain ⟨hb2, hb9⟩ := ok.hb
  have htl : (Tx (txt3 a b m1 m2)).length < 2000 := by
    have := txt3_len (a := a) (b := b) (m1 := m1) (m2 := m2) (by omega) (by omega)
    rw [Tx_len]; omega
  have M0 : MachSt w la RO (1 + nlTo (Tx (txt3 a b m1 m2)) 0) "\n\t\r " [] 0 blk := by simpa [nlTo] using M
  obtain ⟨pre1, hpre1, hlex1⟩ := lex_spell a m1 (spellL b m2 ++ [101, 110, 100])
  obtain ⟨pre2, hpre2, hlex2⟩ := lex_spell b m2 [101, 110, 100]
  have hc0 : lex0 "\n\t\r " (codes (Tx (txt3 a b m1 m2)) 0) = (blank a, pre1 ++ (spellL b m2 ++ [101, 110, 100])) := by
    rw [← hlex1]; congr 1
    show (Tx (txt3 a b m1 m2)).cps.toList.drop 0 = _
    rw [Tx_cps, List.drop_zero]; unfold txt3; rw [List.append_assoc]
  obtain ⟨lt6, tw6, k6, l6, its6, hl6, hi6, rfl⟩ := id M0
  have N0 := N
  simp only [lexObjs, List.cons_append, List.nil_append, List.append_assoc] at N
  ((repeat' ((fail_if_success (with_reducible show wpAny _ _ (call (Value.ref 91) _) _ _ _)); (first | (k_unfold; (try dsimp only)) | ((with_reducible first | show wpAny _ _ (exec _ _) _ _ _ | show wpAny _ _ (execs _ _) _ _ _); k_fold) | (k_end; wrow_close) | walk1 | (dsimp only; walk1) | (leave1; (try dsimp only))))) <;> (repeat (k_unfold; (try dsimp only))))
  rename Fr _ _ _ _ => F1
  rename News _ _ _ _ => N1
  refine mach_get0 (aa := [(173, tabObj tab), (L + 1 + 1 + 1 + 1 + 1, o5), (L + 1 + 1 + 1 + 1, o4), (L + 1 + 1 + 1, o3), (L + 1 + 1, o2), (L + 1, o1)] ++ (T3 ++ T4)) Rd O M0 ?_ (Nat.zero_le _) (by omega) B F1 X (News.mid (a := [(173, tabObj tab), (L + 1 + 1 + 1 + 1 + 1, o5), (L + 1 + 1 + 1 + 1, o4), (L + 1 + 1 + 1, o3), (L + 1 + 1, o2), (L + 1, o1)]) (b := lexObjs w la (.int (1 + nlTo (Tx (txt3 a b m1 m2)) 0) lt6) (.str "\n\t\r " tw6) its6 k6 ++ l6) (c := T3 ++ T4) (by simpa only [lexObjs, List.cons_append, List.nil_append, List.append_assoc] using N1)) T rfl rfl (by k_room) (by k_units) ?_
  · intro q hq
    rcases List.mem_append.mp hq with hq | hq
    · exact offM q hq
    · exact offTM q hq
  intro t9 p9 blk9 h9 tk9 hp9 hc9 F2 N2 M2
  rw [hc0] at hc9 ⊢
  replace N2 := News.unmid (a := [(173, tabObj tab), (L + 1 + 1 + 1 + 1 + 1, o5), (L + 1 + 1 + 1 + 1, o4), (L + 1 + 1 + 1, o3), (L + 1 + 1, o2), (L + 1, o1)]) N2
  clear F1 N1
  try clear N
  try clear N0
  have hc1 : lex0 "\n\t\r " (codes (Tx (txt3 a b m1 m2)) p9) = (blank b, pre2 ++ [101, 110, 100]) := by rw [hc9]; show lex0 _ (pre1 ++ _) = _; rw [lex_pre hpre1, hlex2]
  obtain ⟨lt7, tw7, k7, l7, its7, hl7, hi7, rfl⟩ := id M2
  simp only [lexObjs, List.cons_append, List.nil_append, List.append_assoc] at N2
  (try dsimp only)
  ((repeat' ((fail_if_success (with_reducible show wpAny _ _ (call (Value.ref 91) _) _ _ _)); (first | (k_unfold; (try dsimp only)) | ((with_reducible first | show wpAny _ _ (exec _ _) _ _ _ | show wpAny _ _ (execs _ _) _ _ _); k_fold) | (k_end; wrow_close) | walk1 | (dsimp only; walk1) | (leave1; (try dsimp only))))) <;> (repeat (k_unfold; (try dsimp only))))
  rename Fr _ _ _ _ => F3
  rename News _ _ _ _ => N3
  refine mach_get0 (aa := [(173, tabObj tab), (L + 1 + 1 + 1 + 1 + 1, o5), (L + 1 + 1 + 1 + 1, o4), (L + 1 + 1 + 1, o3), (L + 1 + 1, o2), (L + 1, o1)] ++ (T3 ++ T4)) Rd O M2 ?_ hp9 (by omega) B F3 X (News.mid (a := [(173, tabObj tab), (L + 1 + 1 + 1 + 1 + 1, o5), (L + 1 + 1 + 1 + 1, o4), (L + 1 + 1 + 1, o3), (L + 1 + 1, o2), (L + 1, o1)]) (b := lexObjs w la (.int (1 + nlTo (Tx (txt3 a b m1 m2)) p9) lt7) (.str "\n\t\r " tw7) its7 k7 ++ l7) (c := T3 ++ T4) (by simpa only [lexObjs, List.cons_append, List.nil_append, List.append_assoc] using N3)) T rfl rfl (by k_room) (by k_units) ?_
  · intro q hq
    rcases List.mem_append.mp hq with hq | hq
    · exact offM q hq
    · exact offTM q hq
  intro t10 p10 blk10 h10 tk10 hp10 hc10 F4 N4 M4
  rw [hc1] at hc10 ⊢
  replace N4 := News.unmid (a := [(173, tabObj tab), (L + 1 + 1 + 1 + 1 + 1, o5), (L + 1 + 1 + 1 + 1, o4), (L + 1 + 1 + 1, o3), (L + 1 + 1, o2), (L + 1, o1)]) N4
  clear F3 N3
  try clear F2
  try clear N2
  have hcnt : Txt.count (Tx (txt3 a b m1 m2)) (Str.ofString "\n") = nlTo (Tx (txt3 a b m1 m2)) p10 := by
    rw [nl_all hpre2 hc10]; exact count_one _ 10
  obtain ⟨lt8, tw8, k8, l8, its8, hl8, hi8, rfl⟩ := id M4
  simp only [lexObjs, List.cons_append, List.nil_append, List.append_assoc] at N4
  (try dsimp only)
  ((repeat' ((fail_if_success (with_reducible show wpAny _ _ (execs (Stmt.If _ _ _ _ :: _) _) _ _ _)); (first | (k_unfold; (try dsimp only)) | ((with_reducible first | show wpAny _ _ (exec _ _) _ _ _ | show wpAny _ _ (execs _ _) _ _ _); k_fold) | (k_end; wrow_close) | walk1 | (dsimp only; walk1) | (leave1; (try dsimp only))))) <;> (repeat (k_unfold; (try dsimp only))))
  rename Addr => Dc
  rename (_ < Dc ∧ _ < Dc ∧ _ < Dc ∧ _) => lDc
  rename Fr _ _ _ _ => F5
  rename News _ _ _ _ => N5
  obtain ⟨e1, e2, e3, e4, e5, e6, e7, e8, e9, e10, e11, e12⟩ := lDc
  (try dsimp only)
  ((repeat' ((fail_if_success (with_reducible show wpAny _ _ (compareOp CmpOp.NotEq (Value.ref _) (Value.ref _)) _ _ _)); (first | (k_unfold; (try dsimp only)) | ((with_reducible first | show wpAny _ _ (exec _ _) _ _ _ | show wpAny _ _ (execs _ _) _ _ _); k_fold) | (k_end; wrow_close) | walk1 | (dsimp only; walk1) | (leave1; (try dsimp only))))) <;> (repeat (k_unfold; (try dsimp only))))
  rename Fr _ _ _ _ => F6
  rename News _ _ _ _ => N6
  rw [show Txt.mul (Str.ofString " ") ((a : Nat) : Int) = blank a from by rw [lit_s, Tx_mul1], show Txt.mul (Str.ofString " ") ((b : Nat) : Int) = blank b from by rw [lit_s, Tx_mul1]] at N6
  refine ne_strs (xs := [blank a, blank b]) (ys := [blank a, blank b]) (News.isList N6 (.tail _ (.head _))) (News.isList N6 (.head _)) (.cons _ _ (.cons _ _ .nil)) (.cons _ _ (.cons _ _ .nil)) (okBs [a, b]) (okBs [a, b]) (by k_units) ?_
  rw [decide_eq_true rfl, Bool.not_true]
  have N7 := cb_drop N6 (fun q hq => List.Mem.tail _ hq)
  clear N6
  (try dsimp only)
  ((repeat' ((fail_if_success (with_reducible show wpAny _ _ (execs (Stmt.Assign [Expr.Name (Str.ofString "paid") _] _ _ :: _) _) _ _ _)); (first | ((with_reducible show wpAny _ _ (call (Value.builtin "str.count") _) _ _ _); refine PySem.SC.count ?_; rw [hcnt]) | (k_unfold; (try dsimp only)) | ((with_reducible first | show wpAny _ _ (exec _ _) _ _ _ | show wpAny _ _ (execs _ _) _ _ _); k_fold) | (k_end; wrow_close) | walk1 | (dsimp only; walk1) | (leave1; (try dsimp only))))) <;> (repeat (k_unfold; (try dsimp only))))
  · exact absurd rfl (by assumption : 1 + nlTo (Tx (txt3 a b m1 m2)) p10 ≠ 1 + nlTo (Tx (txt3 a b m1 m2)) p10)
  rename Fr _ _ _ _ => F8
  rename News _ _ _ _ => N8
  have F9 : Fr h₀ L _ (wl3 (some (.ref sc)) totals (some (.int (a : Int) ta)) (some (.str (Tx (txt3 a b m1 m2)) tt)) (some (.ref la.x)) (some (.ref Dc)) none none none none none) := Fr.congr F8 (by (intro y; unfold wl3; (rcases Classical.em (y = "script") with rfl | h0); exact rfl; (rcases Classical.em (y = "totals") with rfl | h1); exact rfl; (rcases Classical.em (y = "a") with rfl | h2); exact rfl; (rcases Classical.em (y = "text") with rfl | h3); exact rfl; (rcases Classical.em (y = "machine") with rfl | h4); exact rfl; (rcases Classical.em (y = "coins") with rfl | h5); exact rfl; (rcases Classical.em (y = "greatest") with rfl | h6); exact rfl; (rcases Classical.em (y = "over") with rfl | h7); exact rfl; (rcases Classical.em (y = "by_a") with rfl | h8); exact rfl; (rcases Classical.em (y = "sums") with rfl | h9); exact rfl; (rcases Classical.em (y = "needed") with rfl | h10); exact rfl; (try simp only [if_neg h0, if_neg h1, if_neg h2, if_neg h3, if_neg h4, if_neg h5, if_neg h6, if_neg h7, if_neg h8, if_neg h9, if_neg h10]); (first | done | exact rfl | (show List.lookup y (_ :: _) = none; simp only [List.lookup, beq_eq_false_iff_ne.mpr h0, beq_eq_false_iff_ne.mpr h1, beq_eq_false_iff_ne.mpr h2, beq_eq_false_iff_ne.mpr h3, beq_eq_false_iff_ne.mpr h4, beq_eq_false_iff_ne.mpr h5, beq_eq_false_iff_ne.mpr h6, beq_eq_false_iff_ne.mpr h7, beq_eq_false_iff_ne.mpr h8, beq_eq_false_iff_ne.mpr h9, beq_eq_false_iff_ne.mpr h10]) | (simp only [List.lookup, beq_eq_false_iff_ne.mpr h0, beq_eq_false_iff_ne.mpr h1, beq_eq_false_iff_ne.mpr h2, beq_eq_false_iff_ne.mpr h3, beq_eq_false_iff_ne.mpr h4, beq_eq_false_iff_ne.mpr h5, beq_eq_false_iff_ne.mpr h6, beq_eq_false_iff_ne.mpr h7, beq_eq_false_iff_ne.mpr h8, beq_eq_false_iff_ne.mpr h9, beq_eq_false_iff_ne.mpr h10]; done))))
  refine stC (s := { s with heap := _, toks := _ }) (kc := 0) (i1 := t9) (i2 := t10) (tab := tab) (by exact rfl) B X T hsc hi hl S3 S4 Rd O M4 hp10 htl (by rw [hc10, lex_pre hpre2, lex_end]) ok k1 k2 k3 k4 k5 ha F9 (by simpa only [lexObjs, List.cons_append, List.nil_append, List.append_assoc] using N8) ?_ offTM ?_ ?_ hL hd' hu hQ
  · refine List.forall_mem_cons.mpr ⟨not_adrs M4 Rd (List.forall_mem_cons.mpr ⟨Nat.ne_of_lt e7, List.forall_mem_cons.mpr ⟨Nat.ne_of_lt e8, List.forall_mem_cons.mpr ⟨Nat.ne_of_lt e9, List.forall_mem_cons.mpr ⟨Nat.ne_of_lt e10, List.forall_mem_cons.mpr ⟨Nat.ne_of_lt e11, fun r hr => Nat.ne_of_lt (allLt_mem e12 r (List.mem_append_left _ hr))⟩⟩⟩⟩⟩), offM⟩
  · exact List.forall_mem_cons.mpr ⟨fun r hr => (Nat.ne_of_lt (allLt_mem e12 r (List.mem_append_right _ hr))).symm, offT⟩
  · exact List.forall_mem_cons.mpr ⟨Nat.ne_of_lt e1, List.forall_mem_cons.mpr ⟨Nat.ne_of_lt e2, List.forall_mem_cons.mpr ⟨Nat.ne_of_lt e3, List.forall_mem_cons.mpr ⟨Nat.ne_of_lt e4, List.forall_mem_cons.mpr ⟨Nat.ne_of_lt e5, List.forall_mem_cons.mpr ⟨Nat.ne_of_lt e6, List.forall_mem_nil _⟩⟩⟩⟩⟩⟩
end
/-- a contract over a frame heap that has the property P -/
noncomputable def ConP (P : Heap → Prop) (w : World) (D U : Nat) (f : Addr) (args : List Value) (sel : List (Addr × Obj)) (Post : Nat → Value → List (Addr × Obj) → Prop) : Prop :=
  ∀ (dp un : Nat) (gd : Option (List Code)) (outer : List Env) (base g : Heap) (tp : Program) (tl : List Str) (mean : ExcName → Option Value) (mg mb : Str → Option Value) (s : Shared) (R : Result → Shared → Prop), P g →
    Below (Ar dp un gd outer) base outer g → g.StaysIn s.heap → g.objs.size ≤ s.heap.objs.size → (∀ p ∈ sel, s.heap.get? p.1 = some p.2 ∧ g.get? p.1 = none) → (hd.heap_1 w.params).In g → Top tp tl mean mg mb g →
    dp + D < recursionLimit → un + U < cLine →
    (∀ v sel' h' tk', g.StaysIn h' → (∀ p ∈ sel', h'.get? p.1 = some p.2 ∧ g.get? p.1 = none) → Post s.heap.objs.size v sel' → R (.ok (.ret v)) { s with heap := h', toks := tk' }) →
    codeAny (model Challenge.rw_pe0259_03.row.prog w) (Ar dp un gd outer) (.call (.ref f) ⟨args, []⟩) R s
theorem use_gP {P : Heap → Prop} {w : World} {D U : Nat} {f : Addr} {args : List Value} {sel news oth : List (Addr × Obj)} {Post : Nat → Value → List (Addr × Obj) → Prop}
    (C : ConP P w D U f args sel Post)
    {dp un : Nat} {gd : Option (List Code)} {env : Env} {outer : List Env} {A₀ : Around} {base h₀ : Heap} {L : Addr} {m : Str → Option Value} {tp : Program} {tl : List Str} {mean : ExcName → Option Value} {mg mb : Str → Option Value} {s : Shared} {Q E : Value → Shared → Prop}
    (hP : P h₀) (hPk : ∀ h h' : Heap, h.StaysIn h' → P h → P h')
    (B : Below A₀ base outer h₀) (F : Fr h₀ L s.heap m) (X : (hd.heap_1 w.params).In h₀) (N : News h₀ L s.heap news) (T : Top tp tl mean mg mb h₀) (hf : env.frame = some L) (hke : env.scope.kind = .function)
    (hsel : ∀ p ∈ sel, p ∈ news) (hoth1 : ∀ p ∈ oth, p ∈ news) (hoth2 : ∀ p ∈ oth, ∀ q ∈ sel, p.1 ≠ q.1)
    (hd : dp + D < recursionLimit) (hu : un + U < cLine)
    (ret : ∀ v sel' h' tk', Fr h₀ L h' m → News h₀ L h' (sel' ++ oth) → (∀ p ∈ sel', ∀ q ∈ oth, p.1 ≠ q.1) → (∀ p ∈ news, p.1 < s.heap.objs.size) → Post s.heap.objs.size v sel' → Q v { s with heap := h', toks := tk' }) :
    wpAny (model Challenge.rw_pe0259_03.row.prog w) (Ar dp un gd (env :: outer)) (call (.ref f) args) Q E s := by
  have hoth : ∀ p ∈ oth, p ∈ news ∧ p.1 ∉ sel.map Prod.fst := fun p hp => ⟨hoth1 p hp, fun q => by
    obtain ⟨r, hr, e⟩ := List.mem_map.mp q
    exact hoth2 p hp r hr e.symm⟩
  have nm : ∀ b o, h₀.get? b = some o → b ∉ sel.map Prod.fst := fun b o e q => by
    obtain ⟨p, hp, rfl⟩ := List.mem_map.mp q
    rw [(N p (hsel p hp)).2.2] at e; cases e
  have st : h₀.StaysIn (hideAll s.heap (sel.map Prod.fst)) := fun b o e => hideAll_get _ (F.keep b o e) (nm b o e)
  obtain ⟨oL, es, ep, hL, hLd, hLk, hLf⟩ := F.ns
  have nL : L ∉ sel.map Prod.fst := fun q => by
    obtain ⟨p, hp, e⟩ := List.mem_map.mp q
    exact (N p (hsel p hp)).2.1 e
  have hLg := hideAll_get (sel.map Prod.fst) hL nL
  have B₁ := pushX B F hf hke
  have B₂ : Below (Ar dp un gd (env :: outer)) base (env :: outer) (hideAll s.heap (sel.map Prod.fst)) := by
    refine ⟨rfl, fun b o e => st b o (B.stays b o e), funFrames_hideAll B₁.frames fun env' he b hb hf' => ?_⟩
    cases he with
    | head => exact nL ((Option.some.inj (hf.symm.trans hf') : L = b) ▸ hb)
    | tail _ he =>
      obtain ⟨L₁, o₁, hf₁, ho₁⟩ := funFrames_in B.frames env' he
      rw [hf₁] at hf'
      exact nm L₁ o₁ ho₁ ((Option.some.inj hf' : L₁ = b) ▸ hb)
  refine wpAny_call (C dp un gd (env :: outer) base (hideAll s.heap (sel.map Prod.fst)) tp tl mean mg mb s _ (hPk _ _ st hP) B₂ (fun b o e => of_hideAll _ e) (Nat.le_of_eq (hideAll_size _ _))
    (fun p hp => ⟨(N p (hsel p hp)).1, hideAll_none _ (List.mem_map_of_mem hp)⟩) (X.keeps st) (T.keeps st) hd hu fun v sel' h' tk' k1 k2 k3 => ?_)
  have hgo : ∀ p ∈ oth, (hideAll s.heap (sel.map Prod.fst)).get? p.1 = some p.2 := fun p hp => hideAll_get _ (N p (hoth p hp).1).1 (hoth p hp).2
  refine ret v sel' h' tk' ⟨⟨oL, es, ep, k1 L oL hLg, hLd, hLk, hLf⟩, fun b o e => k1 b o (st b o e), F.above⟩ (fun p hp => ?_) (fun p hp q hq e => ?_) (fun p hp => Heap.lt_size (N p hp).1) k3
  · rcases List.mem_append.mp hp with hp | hp
    · refine ⟨(k2 p hp).1, fun q => ?_, ?_⟩
      · have := (k2 p hp).2; rw [q, hLg] at this; cases this
      · cases q : h₀.get? p.1 with
        | none => rfl
        | some o => have := (k2 p hp).2; rw [st _ _ q] at this; cases this
    · exact ⟨k1 _ _ (hgo p hp), (N p (hoth p hp).1).2⟩
  · have := (k2 p hp).2
    rw [e, hgo q hq] at this; cases this
/-- three ints within b of nought -/
noncomputable def Three (b : Int) (ts : List Int) : Prop := ts.length = 3 ∧ ∀ j, -b ≤ ts.getD j 0 ∧ ts.getD j 0 ≤ b
noncomputable def ThreeAt (v : Value) (blk : List (Addr × Obj)) : Prop := ∃ D vs k ts, v = .ref D ∧ blk = [(D, listOf vs.toArray k)] ∧ IntsAre vs ts ∧ Three 2000 ts
theorem three_set {ts : List Int} {i k n : Nat} {x : Int} (h : Three (4 + 61 * (i : Int)) ts) (_hi : i < n) (hx : -(4 + 61 * ((i + 1 : Nat) : Int)) ≤ x ∧ x ≤ 4 + 61 * ((i + 1 : Nat) : Int)) : Three (4 + 61 * ((i + 1 : Nat) : Int)) (ts.set k x) := by
  refine ⟨by simp [h.1], fun j => ?_⟩
  rw [List.getD_eq_getElem?_getD, List.getElem?_set]
  have h2 := h.2 j
  rw [List.getD_eq_getElem?_getD] at h2
  by_cases hk : k = j
  · rw [if_pos hk]
    split
    · exact hx
    · simp; omega
  · rw [if_neg hk]
    omega
/-- the locals of _law_totals -/
noncomputable def tm (sc D : Addr) (kv : Option Value) : Str → Option Value := fun y => if y = "k" then kv else if y = "totals" then some (.ref D) else if y = "script" then some (.ref sc) else none
theorem three_end {g h : Heap} {L D : Addr} {news : List (Addr × Obj)} {vs : List Value} {k : Nat} {ts : List Int} {b : Int} (N : News g L h news) (m1 : (D, listOf vs.toArray k) ∈ news) (hi : IntsAre vs ts) (h3 : Three b ts) (hb : b ≤ 2000) :
    ∃ sel', (∀ p ∈ sel', h.get? p.1 = some p.2 ∧ g.get? p.1 = none) ∧ ThreeAt (.ref D) sel' :=
  ⟨_, List.forall_mem_cons.mpr ⟨⟨(N _ m1).1, (N _ m1).2.2⟩, List.forall_mem_nil _⟩, D, vs, k, ts, rfl, rfl, hi, h3.1, fun j => ⟨by have := (h3.2 j).1; omega, by have := (h3.2 j).2; omega⟩⟩
theorem totals_c (w : World) (sc : Addr) (vs : List Value) (ns : List Int) (hi : IntsAre vs ns) (hl : ns.length ≤ 63) :
    ConP (fun g => g.IsList sc vs.toArray) w 10 100 185 [.ref sc] [] (fun _ v blk => ThreeAt v blk) := by
  have hlv := hi.length
  unfold ConP
  k_fill
  intro dp un gd outer base g tp tl mean mg mb s R hP B hg hsz hsel X T hd hu ret
  refine' enter_g B hg hsz hsel X T ?k6 ?k7 ?k8 ?k9 ?kB ?_ ?c2 ?c3 ?c4 ?c5
  (case k6 => k_is); (case k7 => k_is); (case k8 => ktr_room); (case k9 => exact BindsTo.of_eq rfl); (case c5 => decide); (case kB => exact locs rfl); (case c2 => exact rfl); (case c3 => exact rfl); (case c4 => exact rfl)
  k_whole
  intro L' h' tk' F' N' l1
  (try dsimp only); (try k_fold)
  ((repeat' ((fail_if_success (with_reducible show wpAny _ _ (exec (Stmt.For _ _ _ _ _) _) _ _ _)); (first | (k_unfold; (try dsimp only)) | ((with_reducible first | show wpAny _ _ (exec _ _) _ _ _ | show wpAny _ _ (execs _ _) _ _ _); k_fold) | (k_end; wrow_close) | walk1 | (dsimp only; walk1) | (leave1; (try dsimp only))))) <;> (repeat (k_unfold; (try dsimp only))))
  rename Fr _ _ _ _ => F4
  rename News _ _ _ _ => N4
  refine wpAny_For ?_
  ((repeat' ((fail_if_success (with_reducible show wpAny _ _ (pyIter _) _ _ _)); (first | (k_unfold; (try dsimp only)) | ((with_reducible first | show wpAny _ _ (exec _ _) _ _ _ | show wpAny _ _ (execs _ _) _ _ _); k_fold) | (k_end; wrow_close) | walk1 | (dsimp only; walk1) | (leave1; (try dsimp only))))) <;> (repeat (k_unfold; (try dsimp only))))
  rename Fr _ _ _ _ => F5
  rename News _ _ _ _ => N5
  rename IsRange _ _ _ _ _ _ _ _ => R5
  rename (_ < _) => l9
  rename_i Dt _ _ _ Ds _ _ _ _ _ _ _ _ _ _ _ _ _
  refine' for_range (env := envOf _ _ L' 185 _) (n := (List.take 18 ns).length) rfl R5 ?hsm ?hn rfl rfl rfl F5 N5
    (fun i m news => ∃ vt kt ts kv, IntsAre vt ts ∧ Three (4 + 61 * i) ts ∧ (∀ p ∈ [(Dt, listOf (List.toArray vt) kt)], p ∈ news) ∧ ∀ y, m y = tm sc Dt kv y) ?h0 ?turn ?done
  case hsm => exact small_one (by omega) (by omega) (by rw [List.length_take]; omega) (by rw [List.length_take]; omega)
  case hn => rw [rangeSize_nat, Int.sub_zero, Int.toNat_natCast]
  case h0 =>
    refine' ⟨_, _, _, _, .cons _ _ (.cons _ _ (.cons _ _ .nil)), ⟨rfl, ?hbd⟩, ?sub, ?meq⟩
    case sub => exact List.forall_mem_cons.mpr ⟨by k_mem, List.forall_mem_nil _⟩
    case meq => (intro y; unfold tm; (rcases Classical.em (y = "k") with rfl | h0); exact rfl; (rcases Classical.em (y = "totals") with rfl | h1); exact rfl; (rcases Classical.em (y = "script") with rfl | h2); exact rfl; (try simp only [if_neg h0, if_neg h1, if_neg h2]); (first | done | exact rfl | (show List.lookup y (_ :: _) = none; simp only [List.lookup, beq_eq_false_iff_ne.mpr h0, beq_eq_false_iff_ne.mpr h1, beq_eq_false_iff_ne.mpr h2]) | (simp only [List.lookup, beq_eq_false_iff_ne.mpr h0, beq_eq_false_iff_ne.mpr h1, beq_eq_false_iff_ne.mpr h2]; done)))
    case hbd => intro j; rcases j with _ | _ | _ | j <;> simp
  case turn =>
    intro i t2 m₁ news₁ h6 tk6 I oI hi6 hJ hI F6 N6
    obtain ⟨vt, kt, ts, kv, hvt, h3, hsub, hm⟩ := hJ
    have N7 := News.sub_app N6 hsub
    simp only [List.cons_append, List.nil_append] at N7
    have F7 : Fr g L' h6 (tm sc Dt (some (.int (0 + (i : Int)) t2))) := Fr.congr F6 (fun y => by
      (try dsimp only); rw [hm]; unfold tm; split <;> rfl)
    try clear F5 N5 N6 F6
    unfold tm at F7
    (try dsimp only); (try k_fold)
    have hlt := hvt.length
    have hl3 := h3.1
    rw [List.length_take] at hi6
    have hDI : Dt ≠ I := hI _ (hsub _ (.head _))
    ((repeat' ((fail_if_success (with_reducible show Left _)); (first | (k_unfold; (try dsimp only)) | ((with_reducible first | show wpAny _ _ (exec _ _) _ _ _ | show wpAny _ _ (execs _ _) _ _ _); k_fold) | (k_end; wrow_close) | walk1 | (dsimp only; walk1) | (leave1; (try dsimp only))))) <;> (repeat (k_unfold; (try dsimp only))))
    (try dsimp only)
    unfold Left
    rename Fr _ _ _ _ => F9
    rename News _ _ _ _ => N9
    refine ⟨_, _, _, [(Dt, listOf (List.toArray _) _)], rfl, F9, N9, List.forall_mem_cons.mpr ⟨hDI, List.forall_mem_nil _⟩, ?_⟩
    refine' ⟨_, _, _, _, ints_set hvt _, three_set h3 hi6 ?hx, fun p hp => hp, ?meq⟩
    case hx =>
      have e1 : (0 : Int) ≤ ns.getD (0 + (i : Int)).toNat 0 % 61 := by omega
      have e2 : ns.getD (0 + (i : Int)).toNat 0 % 61 < 61 := by omega
      have := (h3.2 ((0 + (i : Int)).fmod 3).toNat)
      rw [Int.fmod_eq_emod_of_nonneg _ (by decide : (0 : Int) ≤ 61)]
      push_cast
      omega
    case meq => (intro y; unfold tm; (rcases Classical.em (y = "k") with rfl | h0); exact rfl; (rcases Classical.em (y = "totals") with rfl | h1); exact rfl; (rcases Classical.em (y = "script") with rfl | h2); exact rfl; (try simp only [if_neg h0, if_neg h1, if_neg h2]); (first | done | exact rfl | (show List.lookup y (_ :: _) = none; simp only [List.lookup, beq_eq_false_iff_ne.mpr h0, beq_eq_false_iff_ne.mpr h1, beq_eq_false_iff_ne.mpr h2]) | (simp only [List.lookup, beq_eq_false_iff_ne.mpr h0, beq_eq_false_iff_ne.mpr h1, beq_eq_false_iff_ne.mpr h2]; done)))
  case done =>
    intro m₁ news₁ h6 tk6 hJ F6 N6
    obtain ⟨vt, kt, ts, kv, hvt, h3, hsub, hm⟩ := hJ
    have N7 := cb_drop N6 hsub
    have F7 := Fr.congr F6 hm
    try clear F5 N5 N6 F6
    unfold tm at F7
    (try dsimp only)
    ((repeat' (first | (k_unfold; (try dsimp only)) | ((with_reducible first | show wpAny _ _ (exec _ _) _ _ _ | show wpAny _ _ (execs _ _) _ _ _); k_fold) | (k_end; wrow_close) | walk1 | (dsimp only; walk1) | (leave1; (try dsimp only)))) <;> (repeat (k_unfold; (try dsimp only))))
    (try dsimp only)
    rename Fr _ _ _ _ => F9
    rename News _ _ _ _ => N9
    have hlen : (List.take 18 ns).length ≤ 18 := by rw [List.length_take]; omega
    refine (three_end N9 (.head _) hvt h3 (by omega)).elim (fun sel9 H9 => ret _ sel9 _ _ F9.keep H9.1 H9.2)
theorem spelled_c (w : World) (k : Nat) (m : Int) (tk tm : Tok) (hk0 : 0 < k) (hk : k < 1000) (hm : 0 ≤ m) (hm2 : m < 3) :
    Con w 10 100 197 [.int k tk, .int m tm] [] (fun _ v blk => (∃ t, v = .str (Tx (spellL k m)) t) ∧ blk = []) := by
  unfold Con
  k_fill
  intro dp un gd outer base g tp tl mean mg mb s R B hg hsz hsel X T hd hu ret
  refine' enter_g B hg hsz hsel X T ?k6 ?k7 ?k8 ?k9 ?kB ?_ ?c2 ?c3 ?c4 ?c5
  (case k6 => k_is); (case k7 => k_is); (case k8 => ktr_room); (case k9 => exact BindsTo.of_eq rfl); (case c5 => decide); (case kB => exact locs rfl); (case c2 => exact rfl); (case c3 => exact rfl); (case c4 => exact rfl)
  k_whole
  intro L' h' tk' F' N' l1
  (try dsimp only); (try k_fold)
  ((repeat' (first | (k_unfold; (try dsimp only)) | ((with_reducible first | show wpAny _ _ (exec _ _) _ _ _ | show wpAny _ _ (execs _ _) _ _ _); k_fold) | (k_end; wrow_close) | walk1 | (dsimp only; walk1) | (leave1; (try dsimp only)))) <;> (repeat (k_unfold; (try dsimp only))))
  all_goals
    (try dsimp only)
    rename Fr _ _ _ _ => F9
    rename News _ _ _ _ => N9
    refine ret _ _ _ _ F9.keep (fun r hr => ⟨(N9 r hr).1, (N9 r hr).2.2⟩) ⟨⟨_, str_eq ?_⟩, rfl⟩
    simp only [lit_q, lit_b, lit_s, lit_n, lit_qt, Tx_mul, Tx_mul1, Tx_app]
    congr 1
    unfold spellL
  · rw [if_pos (.inl (by assumption))]; simp
  · rw [if_neg (by omega), if_pos (by assumption)]
  · rw [if_neg (by omega), if_neg (by assumption)]; simp

section
variable {w : World} {dp un : Nat} {gd : Option (List Code)} {outer : List Env} {A₀ : Around} {base h₀ : Heap} {L fa : Addr} {cd : Value} {tp : Program} {tl : List Str} {mean : ExcName → Option Value} {mg mb : Str → Option Value} {s : Shared} {Q : Flow → Shared → Prop} {E : Value → Shared → Prop} {rest : List Stmt} {scope : Scope}
theorem stA3 (hdef : lawRest ((hd.heap_1 w.params).lookup 219) 0 = some (rest, scope)) (B : Below A₀ base outer h₀) (X : (hd.heap_1 w.params).In h₀) (T : Top tp tl mean mg mb h₀)
    {sc : Addr} {vs : List Value} {ns : List Int} (hsc : h₀.IsList sc vs.toArray) (hi : IntsAre vs ns) (hl : ns.length ≤ 63)
    {c1 c2 c3 c4 c5 : Obj} (k1 : cellIs c1 none) (k2 : cellIs c2 none) (k3 : cellIs c3 none) (k4 : cellIs c4 none) (k5 : cellIs c5 none)
    (F : Fr h₀ L s.heap (wl3 (some (.ref sc)) none none none none none none none none none none))
    (N : News h₀ L s.heap [(L + 1 + 1 + 1 + 1 + 1, c5), (L + 1 + 1 + 1 + 1, c4), (L + 1 + 1 + 1, c3), (L + 1 + 1, c2), (L + 1, c1), (173, tabObj #[]), (44, tabObj #[]), (37, tabObj #[])])
    (hL : 173 < L) (hd' : dp + 200 < recursionLimit) (hu : un + 2000 < cLine) (hQ : LawEnd h₀ L Q s) :
    wpAny (model Challenge.rw_pe0259_03.row.prog w) (Ar dp un gd (envOfC "law" scope L fa cd :: outer)) (execs rest (envOfC "law" scope L fa cd)) Q E s := by
  revert hdef
  k_fill
  intro hdef
  refine' law_out ?hl hdef ?_
  (case hl => k_is)
  clear hdef
  intro hdef
  cases hdef
  have codeHd := codeHd_of_K (c := 41) (P := 37) X (by kernel_rfl)
  (try dsimp only [List.drop]); (try k_fold)
  unfold wl3 at F
  ((repeat' ((fail_if_success (with_reducible show wpAny _ _ (call (Value.ref 185) _) _ _ _)); (first | (k_unfold; (try dsimp only)) | ((with_reducible first | show wpAny _ _ (exec _ _) _ _ _ | show wpAny _ _ (execs _ _) _ _ _); k_fold) | (k_end; wrow_close) | walk1 | (dsimp only; walk1) | (leave1; (try dsimp only))))) <;> (repeat (k_unfold; (try dsimp only))))
  rename Fr _ _ _ _ => F1
  rename News _ _ _ _ => N1
  refine use_gP (totals_c w sc vs ns hi hl) (oth := [(L + 1 + 1 + 1 + 1 + 1, c5), (L + 1 + 1 + 1 + 1, c4), (L + 1 + 1 + 1, c3), (L + 1 + 1, c2), (L + 1, c1), (173, tabObj #[]), (44, tabObj #[]), (37, tabObj #[])]) hsc (fun h h' st hx => by obtain ⟨o, e, r⟩ := hx; exact ⟨o, st _ _ e, r⟩) B F1 X N1 T rfl rfl (fun p hp => nomatch hp) (fun p hp => hp) (fun p hp q hq => nomatch hq) (by k_room) (by k_units) ?_
  rintro v blk h2 tk2 F2 N2 ne2 - ⟨Dt, vt, kt, ts, rfl, rfl, hvt, h3, hb3⟩
  have hDt := ne2 _ (.head _)
  have d5 : Dt ≠ L + 1 := hDt (_, c1) (.tail _ (.tail _ (.tail _ (.tail _ (.head _)))))
  obtain ⟨t0, t1, t2, rfl⟩ : ∃ t0 t1 t2, ts = [t0, t1, t2] := by
    rcases ts with _ | ⟨t0, _ | ⟨t1, _ | ⟨t2, _ | ⟨t3, r⟩⟩⟩⟩
    · cases h3
    · cases h3
    · cases h3
    · exact ⟨t0, t1, t2, rfl⟩
    · simp at h3
  have hb0 : -2000 ≤ t0 ∧ t0 ≤ 2000 := hb3 0
  have hb1 : -2000 ≤ t1 ∧ t1 ≤ 2000 := hb3 1
  have hb2 : -2000 ≤ t2 ∧ t2 ≤ 2000 := hb3 2
  rcases hvt with _ | ⟨_, u0, hvt⟩
  rcases hvt with _ | ⟨_, u1, hvt⟩
  rcases hvt with _ | ⟨_, u2, hvt⟩
  rcases hvt with _ | ⟨_, _, _⟩
  simp only [List.cons_append, List.nil_append] at N2
  clear F1 N1 hDt ne2 hb3 h3
  have c6 := kn37 hL
  obtain ⟨a, ha⟩ : ∃ a : Nat, a = 2 + (t0 % 6).toNat := ⟨_, rfl⟩
  obtain ⟨c, hc⟩ : ∃ c : Nat, c = 2 + (t1 % 6).toNat := ⟨_, rfl⟩
  have ha2 : 2 ≤ a ∧ a ≤ 7 := by omega
  have hc2 : 2 ≤ c ∧ c ≤ 7 := by omega
  have ea : 2 + ([t0, t1, t2].getD (Int.toNat 0) 0).fmod 6 = (a : Int) := by
    show 2 + t0.fmod 6 = _
    rw [Int.fmod_eq_emod_of_nonneg _ (by decide)]; omega
  have ec : 2 + ([t0, t1, t2].getD (Int.toNat 1) 0).fmod 6 = (c : Int) := by
    show 2 + t1.fmod 6 = _
    rw [Int.fmod_eq_emod_of_nonneg _ (by decide)]; omega
  (try dsimp only)
  ((repeat' ((fail_if_success (with_reducible show wpAny _ _ (call (Value.ref 190) _) _ _ _)); (first | (k_unfold; (try dsimp only)) | ((with_reducible first | show wpAny _ _ (exec _ _) _ _ _ | show wpAny _ _ (execs _ _) _ _ _); k_fold) | (k_end; wrow_close) | walk1 | (dsimp only; walk1) | (leave1; (try dsimp only))))) <;> (repeat (k_unfold; (try dsimp only))))
  rename Fr _ _ _ _ => F3
  rename News _ _ _ _ => N3
  rw [ea] at F3 ⊢
  rw [ec]
  obtain ⟨b, hb⟩ : ∃ b, b = freeOf a 20 c := ⟨_, rfl⟩
  have ok : Ok3 a b := hb ▸ ok3_at ha2 hc2
  obtain ⟨hb2', hb9⟩ := ok.hb
  refine use_g (free_c w a c _ _ ha2 hc2 (by rw [← hb]; exact ok.div)) (oth := _) B F3 X N3 T rfl rfl (fun p hp => nomatch hp) (fun p hp => hp) (fun p hp q hq => nomatch hq) (by k_room) (by k_units) ?_
  rintro v4 blk4 h4 tk4 F4 N4 - - ⟨⟨t4, rfl⟩, rfl⟩
  rw [← hb]
  simp only [List.nil_append] at N4
  clear F3 N3
  try clear F2
  try clear N2
  have hs1 := spell_len (k := a) (m := t2 % 3) (by omega)
  have hs2 := spell_len (k := b) (m := t2 / 3 % 3) (by omega)
  (try dsimp only)
  ((repeat' ((fail_if_success (with_reducible show wpAny _ _ (call (Value.ref 197) _) _ _ _)); (first | (k_unfold; (try dsimp only)) | ((with_reducible first | show wpAny _ _ (exec _ _) _ _ _ | show wpAny _ _ (execs _ _) _ _ _); k_fold) | (k_end; wrow_close) | walk1 | (dsimp only; walk1) | (leave1; (try dsimp only))))) <;> (repeat (k_unfold; (try dsimp only))))
  rename Obj => o1
  rename (Obj.data o1 = Data.cell _) => dS
  rename Fr _ _ _ _ => F5
  rename News _ _ _ _ => N5
  rw [show ([t0, t1, t2].getD (Int.toNat 2) 0).fmod 3 = t2 % 3 from Int.fmod_eq_emod_of_nonneg _ (by decide)]
  refine use_g (spelled_c w a (t2 % 3) _ _ (by omega) (by omega) (by omega) (by omega)) (oth := _) B F5 X N5 T rfl rfl (fun p hp => nomatch hp) (fun p hp => hp) (fun p hp q hq => nomatch hq) (by k_room) (by k_units) ?_
  rintro v6 blk6 h6 tk6 F6 N6 - - ⟨⟨t6, rfl⟩, rfl⟩
  simp only [List.nil_append] at N6
  clear F5 N5
  try clear F4
  try clear N4
  (try dsimp only)
  ((repeat' ((fail_if_success (with_reducible show wpAny _ _ (call (Value.ref 197) _) _ _ _)); (first | (k_unfold; (try dsimp only)) | ((with_reducible first | show wpAny _ _ (exec _ _) _ _ _ | show wpAny _ _ (execs _ _) _ _ _); k_fold) | (k_end; wrow_close) | walk1 | (dsimp only; walk1) | (leave1; (try dsimp only))))) <;> (repeat (k_unfold; (try dsimp only))))
  rename Fr _ _ _ _ => F7
  rename News _ _ _ _ => N7
  rw [show (([t0, t1, t2].getD (Int.toNat 2) 0).fdiv 3).fmod 3 = t2 / 3 % 3 from by rw [Int.fmod_eq_emod_of_nonneg _ (by decide), Int.fdiv_eq_ediv_of_nonneg _ (by decide)]; rfl]
  refine use_g (spelled_c w b (t2 / 3 % 3) _ _ (by omega) (by omega) (by omega) (by omega)) (oth := _) B F7 X N7 T rfl rfl (fun p hp => nomatch hp) (fun p hp => hp) (fun p hp q hq => nomatch hq) (by k_room) (by k_units) ?_
  rintro v8 blk8 h8 tk8 F8 N8 - - ⟨⟨t8, rfl⟩, rfl⟩
  simp only [List.nil_append] at N8
  clear F7 N7
  try clear F6
  try clear N6
  (try dsimp only)
  ((repeat' ((fail_if_success (with_reducible show wpAny _ _ (call (Value.ref 178) _) _ _ _)); (first | ((with_reducible show wpAny _ _ (binaryOp Operator.Add (Value.str (Tx _) _) (Value.str (Tx _) _)) _ _ _); refine add_Tx rfl (by omega) ?_; intro _ _) | ((with_reducible show wpAny _ _ (binaryOp Operator.Add (Value.str (Tx _) _) (Value.str (Str.ofString "end") _)) _ _ _); refine add_Tx lit_end (by rw [List.length_append]; simp only [List.length_cons, List.length_nil]; omega) ?_; intro _ _) | (k_unfold; (try dsimp only)) | ((with_reducible first | show wpAny _ _ (exec _ _) _ _ _ | show wpAny _ _ (execs _ _) _ _ _); k_fold) | (k_end; wrow_close) | walk1 | (dsimp only; walk1) | (leave1; (try dsimp only))))) <;> (repeat (k_unfold; (try dsimp only))))
  rename Fr _ _ _ _ => F13
  rename News _ _ _ _ => N13
  have N14 : News h₀ L _ ((173, tabObj #[]) :: [(L + 1 + 1 + 1 + 1 + 1, c5), (L + 1 + 1 + 1 + 1, c4), (L + 1 + 1 + 1, c3), (L + 1 + 1, c2), (L + 1, o1), (44, tabObj #[]), (37, tabObj #[])]) := fun q hq => N13 q (by
    have hq : q ∈ (173, tabObj #[]) :: [(L + 1 + 1 + 1 + 1 + 1, c5), (L + 1 + 1 + 1 + 1, c4), (L + 1 + 1 + 1, c3), (L + 1 + 1, c2), (L + 1, o1), (44, tabObj #[]), (37, tabObj #[])] := hq
    simp only [List.mem_cons, List.not_mem_nil, or_false] at hq
    rcases hq with rfl | rfl | rfl | rfl | rfl | rfl | rfl | rfl <;> k_mem)
  clear N13
  have htl := txt3_len (a := a) (b := b) (m1 := t2 % 3) (m2 := t2 / 3 % 3) (by omega) (by omega)
  rw [show spellL a (t2 % 3) ++ spellL b (t2 / 3 % 3) ++ [101, 110, 100] = txt3 a b (t2 % 3) (t2 / 3 % 3) from rfl]
  refine use_g (machine_c w (Tx (txt3 a b (t2 % 3) (t2 / 3 % 3))) _ (by rw [Tx_len]; omega)) (oth := [(L + 1 + 1 + 1 + 1 + 1, c5), (L + 1 + 1 + 1 + 1, c4), (L + 1 + 1 + 1, c3), (L + 1 + 1, c2), (L + 1, o1), (44, tabObj #[]), (37, tabObj #[])]) B F13 X N14 T rfl rfl (by repeat' (first | exact List.forall_mem_nil _ | (refine List.forall_mem_cons.mpr ⟨by k_mem, ?_⟩))) (by repeat' (first | exact List.forall_mem_nil _ | (refine List.forall_mem_cons.mpr ⟨by k_mem, ?_⟩))) (by repeat' (first | exact List.forall_mem_nil _ | refine List.forall_mem_cons.mpr ⟨?_, ?_⟩ | ((try dsimp only); first | assumption | (refine Ne.symm ?_; assumption) | (refine neN ?_; (try dsimp only); first | (refine Nat.ne_of_gt ?_; with_reducible ((repeat (first | assumption | exact And.left (by assumption) | exact And.left (And.right (by assumption)) | exact And.right (And.right (by assumption)) | exact And.right (by assumption) | exact And.left (And.right (And.right (by assumption))) | exact And.right (And.right (And.right (by assumption))) | exact And.left (And.right (And.right (And.right (by assumption)))) | exact And.left (And.right (And.right (And.right (And.right (by assumption))))) | refine Nat.lt_trans ?_ (by assumption))); done)) | (refine Nat.ne_of_lt ?_; with_reducible ((repeat (first | assumption | exact And.left (by assumption) | exact And.left (And.right (by assumption)) | exact And.right (And.right (by assumption)) | exact And.right (by assumption) | exact And.left (And.right (And.right (by assumption))) | exact And.right (And.right (And.right (by assumption))) | exact And.left (And.right (And.right (And.right (by assumption)))) | exact And.left (And.right (And.right (And.right (And.right (by assumption))))) | refine Nat.lt_trans ?_ (by assumption))); done)) | omega)))) (by k_room) (by k_units) ?_
  rintro v14 blk14 h14 tk14 F14 N15 ne14 - ⟨la, adr, RO, blk, tab, Rd, O, rfl, M, rfl, h173⟩
  have offs : ∀ q ∈ [(L + 1 + 1 + 1 + 1 + 1, c5), (L + 1 + 1 + 1 + 1, c4), (L + 1 + 1 + 1, c3), (L + 1 + 1, c2), (L + 1, o1), (44, tabObj #[]), (37, tabObj #[])], q.1 ∉ la.adrs ++ adr := fun q hq => not_adrs M Rd (fun r hr => ne14 r (List.mem_append_left _ hr) q hq)
  clear F13 N14
  have N16 : News h₀ L h14 ([(173, tabObj tab), (L + 1 + 1 + 1 + 1 + 1, c5), (L + 1 + 1 + 1 + 1, c4), (L + 1 + 1 + 1, c3), (L + 1 + 1, c2), (L + 1, o1)] ++ (blk ++ ([(37, tabObj #[])] ++ [(44, tabObj #[])]))) := fun q hq => by
    have hq2 : q ∈ [(173, tabObj tab), (L + 1 + 1 + 1 + 1 + 1, c5), (L + 1 + 1 + 1 + 1, c4), (L + 1 + 1 + 1, c3), (L + 1 + 1, c2), (L + 1, o1)] ∨ q ∈ blk ∨ q ∈ [(37, tabObj #[]), (44, tabObj #[])] := by
      rcases List.mem_append.mp hq with hq | hq
      · exact .inl hq
      · rcases List.mem_append.mp hq with hq | hq
        · exact .inr (.inl hq)
        · exact .inr (.inr hq)
    rcases hq2 with hq | hq | hq
    · rcases List.mem_cons.mp hq with rfl | hq
      · exact N15 _ (List.mem_append_left _ (List.mem_append_right _ (.head _)))
      · exact N15 q (List.mem_append_right _ (by
          simp only [List.mem_cons, List.not_mem_nil, or_false] at hq
          rcases hq with rfl | rfl | rfl | rfl | rfl <;> k_mem))
    · exact N15 q (List.mem_append_left _ (List.mem_append_left _ hq))
    · exact N15 q (List.mem_append_right _ (by
        simp only [List.mem_cons, List.not_mem_nil, or_false] at hq
        rcases hq with rfl | rfl <;> k_mem))
  clear N15
  have d6 : ∀ q ∈ blk ++ ([(37, tabObj #[])] ++ [(44, tabObj #[])]), True := fun _ _ => trivial
  (try dsimp only)
  obtain ⟨lt6, tw6, k6, l6, its6, hl6, hi6, rfl⟩ := id M
  simp only [lexObjs, List.cons_append, List.nil_append] at N16
  ((repeat' ((fail_if_success (with_reducible show wpAny _ _ (execs (Stmt.Assign [Expr.Name (Str.ofString "coins") _] _ _ :: _) _) _ _ _)); (first | (k_unfold; (try dsimp only)) | ((with_reducible first | show wpAny _ _ (exec _ _) _ _ _ | show wpAny _ _ (execs _ _) _ _ _); k_fold) | (k_end; wrow_close) | walk1 | (dsimp only; walk1) | (leave1; (try dsimp only))))) <;> (repeat (k_unfold; (try dsimp only))))
  rename Fr _ _ _ _ => F17
  rename News _ _ _ _ => N17
  have F18 : Fr h₀ L _ (wl3 (some (.ref sc)) (some (.ref Dt)) (some (.int (a : Int) _)) (some (.str (Tx (txt3 a b (t2 % 3) (t2 / 3 % 3))) _)) (some (.ref la.x)) none none none none none none) := Fr.congr F17 (by (intro y; unfold wl3; (rcases Classical.em (y = "script") with rfl | h0); exact rfl; (rcases Classical.em (y = "totals") with rfl | h1); exact rfl; (rcases Classical.em (y = "a") with rfl | h2); exact rfl; (rcases Classical.em (y = "text") with rfl | h3); exact rfl; (rcases Classical.em (y = "machine") with rfl | h4); exact rfl; (rcases Classical.em (y = "coins") with rfl | h5); exact rfl; (rcases Classical.em (y = "greatest") with rfl | h6); exact rfl; (rcases Classical.em (y = "over") with rfl | h7); exact rfl; (rcases Classical.em (y = "by_a") with rfl | h8); exact rfl; (rcases Classical.em (y = "sums") with rfl | h9); exact rfl; (rcases Classical.em (y = "needed") with rfl | h10); exact rfl; (try simp only [if_neg h0, if_neg h1, if_neg h2, if_neg h3, if_neg h4, if_neg h5, if_neg h6, if_neg h7, if_neg h8, if_neg h9, if_neg h10]); (first | done | exact rfl | (show List.lookup y (_ :: _) = none; simp only [List.lookup, beq_eq_false_iff_ne.mpr h0, beq_eq_false_iff_ne.mpr h1, beq_eq_false_iff_ne.mpr h2, beq_eq_false_iff_ne.mpr h3, beq_eq_false_iff_ne.mpr h4, beq_eq_false_iff_ne.mpr h5, beq_eq_false_iff_ne.mpr h6, beq_eq_false_iff_ne.mpr h7, beq_eq_false_iff_ne.mpr h8, beq_eq_false_iff_ne.mpr h9, beq_eq_false_iff_ne.mpr h10]) | (simp only [List.lookup, beq_eq_false_iff_ne.mpr h0, beq_eq_false_iff_ne.mpr h1, beq_eq_false_iff_ne.mpr h2, beq_eq_false_iff_ne.mpr h3, beq_eq_false_iff_ne.mpr h4, beq_eq_false_iff_ne.mpr h5, beq_eq_false_iff_ne.mpr h6, beq_eq_false_iff_ne.mpr h7, beq_eq_false_iff_ne.mpr h8, beq_eq_false_iff_ne.mpr h9, beq_eq_false_iff_ne.mpr h10]; done))))
  have h7 : ∀ x : Addr, x ≠ 37 → x ≠ 44 → ∀ r ∈ [((37 : Addr), tabObj #[])] ++ [((44 : Addr), tabObj #[])], x ≠ r.1 := fun x h1 h2 => List.forall_mem_cons.mpr ⟨h1, List.forall_mem_cons.mpr ⟨h2, List.forall_mem_nil _⟩⟩
  have hh : ∀ k : Nat, (173 : Nat) < k → k ≠ 37 ∧ k ≠ 44 := fun k hk => ⟨by omega, by omega⟩
  have hL' : (173 : Nat) < L := hL
  have hLk : ∀ k : Nat, L + k ≠ 37 ∧ L + k ≠ 44 := fun k => hh _ (Nat.lt_of_lt_of_le hL' (Nat.le_add_right _ _))
  refine stB (s := { s with heap := _, toks := _ }) (T3 := [(37, tabObj #[])]) (T4 := [(44, tabObj #[])]) (tab := tab) (by exact rfl) B X T hsc hi hl (.inl rfl) (.inl rfl) Rd O M ok dS k2 k3 k4 k5 ha2 F18 (by simpa only [lexObjs, List.cons_append, List.nil_append, List.append_assoc] using N17) ?_ ?_ ?_ hL hd' hu hQ
  · exact List.forall_mem_cons.mpr ⟨h173, fun q hq => offs q (List.mem_append_left [(44, tabObj #[]), (37, tabObj #[])] hq)⟩
  · exact List.forall_mem_cons.mpr ⟨offs (37, tabObj #[]) (by k_mem), List.forall_mem_cons.mpr ⟨offs (44, tabObj #[]) (by k_mem), List.forall_mem_nil _⟩⟩
  · exact List.forall_mem_cons.mpr ⟨h7 173 (by decide) (by decide), List.forall_mem_cons.mpr ⟨h7 _ (hLk 5).1 (hLk 5).2, List.forall_mem_cons.mpr ⟨h7 _ (hLk 4).1 (hLk 4).2, List.forall_mem_cons.mpr ⟨h7 _ (hLk 3).1 (hLk 3).2, List.forall_mem_cons.mpr ⟨h7 _ (hLk 2).1 (hLk 2).2, List.forall_mem_cons.mpr ⟨h7 _ (hLk 1).1 (hLk 1).2, List.forall_mem_nil _⟩⟩⟩⟩⟩⟩
end
theorem fr_script {h₀ h : Heap} {L sc : Addr} (F : Fr h₀ L h (fun y => if y = "script" then some (.ref sc) else none)) : Fr h₀ L h (wl3 (some (.ref sc)) none none none none none none none none none none) :=
  Fr.congr F (by (intro y; unfold wl3; (rcases Classical.em (y = "script") with rfl | h0); exact rfl; (rcases Classical.em (y = "totals") with rfl | h1); exact rfl; (rcases Classical.em (y = "a") with rfl | h2); exact rfl; (rcases Classical.em (y = "text") with rfl | h3); exact rfl; (rcases Classical.em (y = "machine") with rfl | h4); exact rfl; (rcases Classical.em (y = "coins") with rfl | h5); exact rfl; (rcases Classical.em (y = "greatest") with rfl | h6); exact rfl; (rcases Classical.em (y = "over") with rfl | h7); exact rfl; (rcases Classical.em (y = "by_a") with rfl | h8); exact rfl; (rcases Classical.em (y = "sums") with rfl | h9); exact rfl; (rcases Classical.em (y = "needed") with rfl | h10); exact rfl; (try simp only [if_neg h0, if_neg h1, if_neg h2, if_neg h3, if_neg h4, if_neg h5, if_neg h6, if_neg h7, if_neg h8, if_neg h9, if_neg h10]); (first | done | exact rfl | (show List.lookup y (_ :: _) = none; simp only [List.lookup, beq_eq_false_iff_ne.mpr h0, beq_eq_false_iff_ne.mpr h1, beq_eq_false_iff_ne.mpr h2, beq_eq_false_iff_ne.mpr h3, beq_eq_false_iff_ne.mpr h4, beq_eq_false_iff_ne.mpr h5, beq_eq_false_iff_ne.mpr h6, beq_eq_false_iff_ne.mpr h7, beq_eq_false_iff_ne.mpr h8, beq_eq_false_iff_ne.mpr h9, beq_eq_false_iff_ne.mpr h10]) | (simp only [List.lookup, beq_eq_false_iff_ne.mpr h0, beq_eq_false_iff_ne.mpr h1, beq_eq_false_iff_ne.mpr h2, beq_eq_false_iff_ne.mpr h3, beq_eq_false_iff_ne.mpr h4, beq_eq_false_iff_ne.mpr h5, beq_eq_false_iff_ne.mpr h6, beq_eq_false_iff_ne.mpr h7, beq_eq_false_iff_ne.mpr h8, beq_eq_false_iff_ne.mpr h9, beq_eq_false_iff_ne.mpr h10]; done))))
theorem fin : PySem.Challenge.rw_pe0259_03.Holds := by
  refine holds_law well fun said => ?_
  refine holds_open (q := view) (loose := [PySem.Str.ofString "Whitespace"]) (Xt := Xs) (XP := XL view []) (Yf := hk.obs) (Ya := hk.val) (YP := Hook.says (kmHook hd.heap_1 ads adsE [173, 44, 37])) (N := 2788) left (Hook.of hk) (Hook.keeps hk) (fun s e => xl_of s (Bool.and_eq_true_iff.mp e).1) XL.keeps (by rfl) (by rfl) (by rfl) (fun s e => recFacts_of (Bool.and_eq_true_iff.mp e).2) (by rfl) said (by decide +kernel) ⟨rfl, rfl, rfl, rfl, rfl, by decide +kernel⟩ ?hw ?hc
  (case hw => w_witness2)
  clear said
  k_go0
  rename Fr _ _ _ _ => F
  rename News _ _ _ _ => N
  rename Below _ _ _ _ => B
  rename Top topProg _ _ _ _ _ => T
  rename (Heap.IsList _ _ _) => hsc
  rename IntsAre _ _ => hi
  rename (173 < _ ∧ _) => l0
  refine stA3 (by exact rfl) B (by assumption) T hsc hi (by omega) (by assumption) (by assumption) (by assumption) (by assumption) (by assumption) (fr_script F) N l0.1 ?_ ?_ ?_
  · exact Nat.lt_of_le_of_lt (Nat.le_refl _) (by decide)
  · exact Nat.lt_of_le_of_lt (Nat.le_refl _) (by decide)
  · intro m' h' tk' p1 p2 p3 F' N'
    clear F N
    (try dsimp only)
    refine ⟨?_, ?_⟩
    · wrow_close
    · repeat' (first | exact True.intro | (refine And.intro (GrownAt.of (by k_asm) (by k_mem)) ?_))
end Mine
theorem PySem.Challenge.cw_pe0259_03_holds : PySem.Challenge.rw_pe0259_03.Holds :=
  Mine.fin
