import PyProof.Rows.All
import Wide.All
import OpenK.AllK
import Wide.FinOn
import Lean
import PySem.Challenge.RW_pe0259_02
open PySem PySem.W PyProof.Rows
set_option Elab.async false
set_option maxRecDepth 100000
set_option maxHeartbeats 8000000
namespace Mine
noncomputable def pick (l : List Stmt) : List Stmt := match l with
  | [c0, _, c2, c3, c4, c5, c6, c7, c8, _, c10, _, c12, _, c14, c15, c16, c17, c18, c19, c20] => [c0, c2, c3, c4, c5, c6, c7, c8, c10, c12, c14, c15, c16, c17, c18, c19, c20]
  | _ => []
noncomputable def view : Program := { PySem.Challenge.pw_pe0259_02 with main := { PySem.Challenge.pw_pe0259_02.main with body := pick PySem.Challenge.pw_pe0259_02.main.body } }
theorem well : OpenLaw.wellSaid PySem.Challenge.rw_pe0259_02 = true := (congrFun PySem.W.Fast.te9446332074065402090 _).trans (by kernel_rfl)
section
local macro_rules | `(tactic| w_witness2) => `(tactic| trivial)
local macro_rules | `(tactic| o_head $_) => `(tactic| refine (fun (_ : True) hc => hc) ?hw ?hc)
local macro_rules | `(tactic| o_law) => `(tactic| refine holds_law well fun said => ?_)
open_top hd for PySem.Challenge.rw_pe0259_02
end
theorem walk_off : True := by
  w_top off
  trivial
noncomputable def ads : List Addr := [2, 3, 15, 17, 18, 20, 21, 22, 24, 25, 27, 28, 29, 31, 32, 34, 35, 36, 38, 39, 41, 42, 43, 45, 46, 48, 49, 50, 52, 53, 55, 56, 57, 59, 60, 62, 63, 71, 73, 74, 76, 77, 78, 80, 81, 83, 84, 85, 87, 88, 90, 91, 92, 94, 95, 97, 98, 99, 100, 101, 102, 103, 116, 118, 119, 121, 122, 123, 125, 126, 128, 129, 130, 132, 133, 135, 136, 137, 139, 140, 142, 143, 144, 146, 147, 149, 150, 151, 153, 154, 156, 157, 158, 160, 161, 163, 164, 165, 166, 167, 168, 169, 172, 174, 175, 177, 178, 179, 182, 183, 184, 187, 188, 189, 191, 192, 194, 195, 196, 198, 199, 201, 202, 203, 206, 207, 208, 211, 212]
theorem adsE : ∀ P : Params, ads = (hd.heap_1 P).map (·.1) := fun _ => by kernel_rfl
noncomputable abbrev hk : Hook := kmHook hd.heap_1 ads adsE [173, 44, 37]
noncomputable abbrev PP : Program := (OpenLaw.row PySem.Challenge.rw_pe0259_02).prog
noncomputable def topRunQ (p : Program) (w : World) (n₀ : Nat) (ann : Option Value) : Nat → SharedT → Thread → Option SharedT
  | 0, _, _ => none
  | n + 1, s, t => match through t with
    | true => some s
    | false => match PySem.W.Fast.tw6613529449190102663 n₀ ann t with
      | false => none
      | true => match PySem.W.Fast.tw10156331382660048174 (PySem.W.Fast.tw11892475500146522536 PySem.W.Fast.tw14364793385576792824) p w s t with
        | some (s', t') => topRunQ p w n₀ ann n s' t'
        | none => none
theorem topRunQ_of {p : Program} {w : World} {n₀ : Nat} {ann : Option Value} : ∀ {n : Nat} {s s' : SharedT} {t : Thread}, topRunQ p w n₀ ann n s t = some s' → topRun treeTable p w n₀ ann n s.abs t = some s'.abs
  | 0, _, _, _, h => by cases h
  | n + 1, s, s', t, h => by
    unfold topRunQ at h
    rw [← PySem.W.Fast.te6613529449190102663, ← PySem.W.Fast.te10156331382660048174, ← PySem.W.Fast.te11892475500146522536, ← PySem.W.Fast.te14364793385576792824] at h
    unfold topRun
    cases he : through t with
    | true => rw [he] at h; cases h; rfl
    | false =>
      rw [he] at h
      cases hk : stepOk n₀ ann t with
      | false => rw [hk] at h; cases h
      | true =>
        rw [hk] at h
        cases hs : stepT (denote treeTable) p w s t with
        | none => rw [hs] at h; cases h
        | some r => obtain ⟨s₂, t₂⟩ := r; rw [hs] at h; rw [stepT_spec hs]; exact topRunQ_of h
noncomputable def bt (l : List Obj) : Nat → Nat → Nat → BT
  | 0, _, _ => .nil
  | f + 1, a, b => match l[b]? with
    | some o => .node o (bt l f (2 * a) (a + b)) (bt l f (2 * a) (2 * a + b))
    | none => .nil
noncomputable def bootS (P : Params) (os : OsState) : SharedT := ⟨bt (boot_heap P).objs.toList 12 1 0, (boot_heap P).objs.size, (boot_heap P).life, #[], boot_drawn, boot_toks, os⟩
theorem bootS_abs (P : Params) (os : OsState) : (bootS P os).abs = ⟨boot_heap P, #[], boot_drawn, boot_toks, os⟩ := by kernel_rfl
noncomputable abbrev Xs (s : Shared) : Bool := xlAt view [] s && recOk (RowW.records (OpenRow.toRowW (OpenLaw.row PySem.Challenge.rw_pe0259_02))) s
noncomputable def seenQ (h₀ : Heap) (s : Shared) := ((staticsOk (PySem.W.Fast.tw5923862056798008813 PP.main.body) h₀ s.heap && namesBound PP s.heap && gensDone s && laidKept h₀ s.heap),
  PySem.W.Fast.tw4187177175401517315 view [PySem.Str.ofString "Whitespace"] (PySem.W.Fast.tw5923862056798008813 PP.main.body) Xs true s, hk.obs s)
/-- what a run of the top shows, in the world w -/
noncomputable def Run (w : World) : Prop := ∀ os : OsState, ∃ S : Shared, topRun treeTable PP w (boot_heap w.params).objs.size ((boot_heap w.params).nsMap mainGlobals "__annotations__") 2712 ⟨boot_heap w.params, #[], boot_drawn, boot_toks, os⟩ (topStub PP) = some S ∧
  (staticsOk (importedModules PP.main.body) (boot_heap w.params) S.heap && namesBound PP S.heap && gensDone S && laidKept (boot_heap w.params) S.heap) = true ∧
  openSeen view [PySem.Str.ofString "Whitespace"] (importedModules PP.main.body) Xs true S = openGood view [PySem.Str.ofString "Whitespace"] ∧ hk.obs S = hk.val w
noncomputable def wf (b : Bool) (w : World) : World := w.withFollow "special-get-raises" b
theorem run_of {w : World} (h : ∀ os : OsState, (topRunQ PP w (boot_heap w.params).objs.size (PySem.W.Fast.tw8920871248978507458 (boot_heap w.params) mainGlobals "__annotations__") 2712 (bootS w.params os) (topStub PP)).map (fun S => seenQ (boot_heap w.params) S.abs) =
    some (true, openGood view [PySem.Str.ofString "Whitespace"], hk.val w)) : Run w := fun os => by
  obtain ⟨S, e1, e2⟩ := Option.map_eq_some_iff.mp (h os)
  have r := topRunQ_of e1
  rw [bootS_abs, ← PySem.W.Fast.te8920871248978507458] at r
  unfold seenQ at e2
  rw [← PySem.W.Fast.te5923862056798008813, ← PySem.W.Fast.te4187177175401517315] at e2
  obtain ⟨e3, e4⟩ := Prod.mk.inj e2
  obtain ⟨e4, e5⟩ := Prod.mk.inj e4
  exact ⟨S.abs, r, e3, e4, e5⟩
theorem run_f (w : World) (os : OsState) : (topRunQ PP (wf false w) (boot_heap (wf false w).params).objs.size (PySem.W.Fast.tw8920871248978507458 (boot_heap (wf false w).params) mainGlobals "__annotations__") 2712 (bootS (wf false w).params os) (topStub PP)).map (fun S => seenQ (boot_heap (wf false w).params) S.abs) =
    some (true, openGood view [PySem.Str.ofString "Whitespace"], hk.val (wf false w)) := by kernel_rfl
theorem run_t (w : World) (os : OsState) : (topRunQ PP (wf true w) (boot_heap (wf true w).params).objs.size (PySem.W.Fast.tw8920871248978507458 (boot_heap (wf true w).params) mainGlobals "__annotations__") 2712 (bootS (wf true w).params os) (topStub PP)).map (fun S => seenQ (boot_heap (wf true w).params) S.abs) =
    some (true, openGood view [PySem.Str.ofString "Whitespace"], hk.val (wf true w)) := by kernel_rfl
theorem runs : ∀ w : World, Run w := byRow2 "special-get-raises" (fun w => run_of (run_f w)) (fun w => run_of (run_t w))
theorem open_boot : ∀ w : World, (fencedOpening treeTable PP w 2712).map (fun s => (s.heap, s.gens, s.drawn, s.toks)) = some (boot_heap w.params, Array.mk [], boot_drawn, boot_toks) :=
  boot_open (by kernel_rfl) (by decide) (fun s => by kernel_rfl)
theorem boot_ns (P : Params) : ((boot_heap P).isNs mainGlobals && ((#[] : Array GenState).size == 0)) = true := by kernel_rfl
theorem left : LeftO PP view [PySem.Str.ofString "Whitespace"] Xs hk.obs hk.val 2712 := fun w => by
  obtain ⟨⟨h, gs, d, k, os⟩, e, e'⟩ := Option.map_eq_some_iff.mp (open_boot w)
  obtain ⟨rfl, rfl, rfl, rfl⟩ : h = boot_heap w.params ∧ gs = #[] ∧ d = boot_drawn ∧ k = boot_toks := by simpa using e'
  obtain ⟨S, r, l1, l2, l3⟩ := runs w os
  have t : topFrom treeTable PP w 2712 ⟨boot_heap w.params, #[], boot_drawn, boot_toks, os⟩ = some S := by
    unfold topFrom
    dsimp only
    rw [boot_ns, r]
    show (match staticsOk (importedModules PP.main.body) (boot_heap w.params) S.heap && namesBound PP S.heap && gensDone S && laidKept (boot_heap w.params) S.heap with | true => _ | false => _) = _
    rw [l1]
  unfold openEnds
  rw [e]
  show (topFrom treeTable PP w 2712 _).map _ = _
  rw [t]
  exact congrArg some (Prod.ext l2 l3)
end Mine
open PySem PySem.W PyProof.Rows PySem.Calls PySem.Builtin
set_option linter.unusedVariables false
set_option linter.unusedSimpArgs false
namespace Mine

theorem room0 {x D r : Nat} (h : x + D < r) : x < r := Nat.lt_of_le_of_lt (Nat.le_add_right x D) h
theorem room1 {x D a r : Nat} (h : x + D < r) (k : Nat.ble a D = true) : x + a < r := Nat.lt_of_le_of_lt (Nat.add_le_add_left (Nat.le_of_ble_eq_true k) x) h
theorem room2 {x D a b r : Nat} (h : x + D < r) (k : Nat.ble (a + b) D = true) : x + a + b < r := by rw [Nat.add_assoc]; exact room1 h k
theorem room3 {x D a b c r : Nat} (h : x + D < r) (k : Nat.ble (a + (b + c)) D = true) : x + a + b + c < r := by rw [Nat.add_assoc]; exact room2 h k
theorem room4 {x D a b c d r : Nat} (h : x + D < r) (k : Nat.ble (a + (b + (c + d))) D = true) : x + a + b + c + d < r := by rw [Nat.add_assoc]; exact room3 h k


noncomputable abbrev Ar (dp un : Nat) (gd : Option (List Code)) (outer : List Env) : Around := { handled := none, depth := dp, frames := some outer, guards := gd, units := un }

/-- a contract: the call of f by args, over the objects sel, all else (g) kept -/
noncomputable def Con (w : World) (D U : Nat) (f : Addr) (args : List Value) (sel : List (Addr × Obj)) (Post : Nat → Value → List (Addr × Obj) → Prop) : Prop :=
  ∀ (dp un : Nat) (gd : Option (List Code)) (outer : List Env) (base g : Heap) (tp : Program) (tl : List Str) (mean : ExcName → Option Value) (mg mb : Str → Option Value) (s : Shared) (R : Result → Shared → Prop),
    Below (Ar dp un gd outer) base outer g → g.StaysIn s.heap → g.objs.size ≤ s.heap.objs.size → (∀ p ∈ sel, s.heap.get? p.1 = some p.2 ∧ g.get? p.1 = none) → (hd.heap_1 w.params).In g → Top tp tl mean mg mb g →
    dp + D < recursionLimit → un + U < cLine →
    (∀ v sel' h' tk', g.StaysIn h' → (∀ p ∈ sel', h'.get? p.1 = some p.2 ∧ g.get? p.1 = none) → Post s.heap.objs.size v sel' → R (.ok (.ret v)) { s with heap := h', toks := tk' }) →
    codeAny (model Challenge.rw_pe0259_02.row.prog w) (Ar dp un gd outer) (.call (.ref f) ⟨args, []⟩) R s

theorem Con.mono {w : World} {D U : Nat} {f : Addr} {args : List Value} {sel : List (Addr × Obj)} {Post Post' : Nat → Value → List (Addr × Obj) → Prop} (C : Con w D U f args sel Post) (h : ∀ n v sel', Post n v sel' → Post' n v sel') : Con w D U f args sel Post' :=
  fun dp un gd outer base g tp tl mean mg mb s R a1 a2 a3 a4 a5 a6 a7 a8 ret => C dp un gd outer base g tp tl mean mg mb s R a1 a2 a3 a4 a5 a6 a7 a8 fun v sel' h' tk' k1 k2 k3 => ret v sel' h' tk' k1 k2 (h _ _ _ k3)

theorem enter_g {prog : Program} {w : World} {A : Around} {s : Shared} {base g : Heap} {outer : List Env} {K : Frag} {p : Program} {loose : List Str} {mean : ExcName → Option Value} {mg mb : Str → Option Value} {sel : List (Addr × Obj)}
    {R : Result → Shared → Prop} {name qual : Str} {params : Arguments} {body : List Stmt} {scope : Scope} {dV kV doc pm cdv ct oc : Value} {an od : Option Addr} {osl : Array (Option Value)} {f : Addr} {args : Args} {binds : List (Str × Value)}
    (B : Below A base outer g) (hg : g.StaysIn s.heap) (hsz : g.objs.size ≤ s.heap.objs.size) (hsel : ∀ p ∈ sel, s.heap.get? p.1 = some p.2 ∧ g.get? p.1 = none) (X : K.In g) (T : Top p loose mean mg mb g)
    (ho : K.lookup f = some ⟨oc, od, .func (fnOf name qual params body scope dV kV doc pm an cdv ct), osl⟩) (hcd : codeIn K cdv qual = true) (hroom : A.depth < recursionLimit)
    (hbind : BindsTo s (fnOf name qual params body scope dV kV doc pm an cdv ct) args binds) (hloc : ∀ y ∈ binds, scope.names.lookup y.1 = some .local)
    (h : ∀ L' h₁ tk, Fr g L' h₁ (fun y => binds.reverse.lookup y) → News g L' h₁ sel → (∀ p ∈ sel, p.1 < L') →
      wpAny (model prog w) (A.deeper (envOf qual scope L' f cdv)) (execs body (envOf qual scope L' f cdv))
        (fun fl s' => R (.ok (.ret (match fl with | .ret v => v | _ => .none))) s')
        (fun e s' => wpAny (model prog w) (A.deeper (envOf qual scope L' f cdv)) (leaving (envOf qual scope L' f cdv) e) (fun _ s'' => R (.error e) s'') (fun e' s'' => R (.error e') s'') s')
        { s with heap := h₁, toks := tk })
    (hco : scope.isCoroutine = false) (hgen : scope.isGenerator = false) (hk : scope.kind = .function)
    (hcell : ∀ x ∈ scope.names, x.2 ≠ .cell) : codeAny (model prog w) A (.call (.ref f) args) R s := by
  refine codeAny_call_def (fd := fnOf name qual params body scope dV kV doc pm an cdv ct) (body := body) (binds := binds) hroom (hg _ _ (X _ _ ho)) rfl (T.nolimit.keeps hg) (codeRec_of (X.keeps hg) hcd) rfl hbind hcell hloc (fun h₁ hns hk₁ => ?_) hco hgen hk
  exact h s.heap.objs.size h₁ _ ⟨hns, fun b o e => hk₁ b o (hg b o e), hsz⟩ (fun p hp => ⟨hk₁ _ _ (hsel p hp).1, Nat.ne_of_lt (Heap.lt_size (hsel p hp).1), (hsel p hp).2⟩) (fun p hp => Heap.lt_size (hsel p hp).1)

theorem use_gc {w : World} {D U : Nat} {f : Addr} {args : List Value} {sel news oth : List (Addr × Obj)} {Post : Nat → Value → List (Addr × Obj) → Prop}
    (C : Con w D U f args sel Post)
    {dp un : Nat} {gd : Option (List Code)} {env : Env} {outer : List Env} {A₀ : Around} {base h₀ : Heap} {L : Addr} {m : Str → Option Value} {tp : Program} {tl : List Str} {mean : ExcName → Option Value} {mg mb : Str → Option Value} {s : Shared} {R : Result → Shared → Prop}
    (B : Below A₀ base outer h₀) (F : Fr h₀ L s.heap m) (X : (hd.heap_1 w.params).In h₀) (N : News h₀ L s.heap news) (T : Top tp tl mean mg mb h₀) (hf : env.frame = some L) (hke : env.scope.kind = .function)
    (hsel : ∀ p ∈ sel, p ∈ news) (hoth1 : ∀ p ∈ oth, p ∈ news) (hoth2 : ∀ p ∈ oth, ∀ q ∈ sel, p.1 ≠ q.1)
    (hd : dp + D < recursionLimit) (hu : un + U < cLine)
    (ret : ∀ v sel' h' tk', Fr h₀ L h' m → News h₀ L h' (sel' ++ oth) → (∀ p ∈ sel', ∀ q ∈ oth, p.1 ≠ q.1) → (∀ p ∈ news, p.1 < s.heap.objs.size) → Post s.heap.objs.size v sel' → R (.ok (.ret v)) { s with heap := h', toks := tk' }) :
    codeAny (model Challenge.rw_pe0259_02.row.prog w) (Ar dp un gd (env :: outer)) (.call (.ref f) ⟨args, []⟩) R s := by
  have hoth : ∀ p ∈ oth, p ∈ news ∧ p.1 ∉ sel.map Prod.fst := fun p hp => ⟨hoth1 p hp, fun q => by
    obtain ⟨r, hr, e⟩ := List.mem_map.mp q
    exact hoth2 p hp r hr e.symm⟩
  have nm : ∀ b o, h₀.get? b = some o → b ∉ sel.map Prod.fst := fun b o e q => by
    obtain ⟨p, hp, rfl⟩ := List.mem_map.mp q
    rw [(N p (hsel p hp)).2.2] at e; cases e
  have st : h₀.StaysIn (hideAll s.heap (sel.map Prod.fst)) := fun b o e => hideAll_get _ (F.keep b o e) (nm b o e)
  obtain ⟨oL, es, ep, hL, hLd, hLk, hLf⟩ := F.ns
  have nL : L ∉ sel.map Prod.fst := fun q => by
    obtain ⟨p, hp, e⟩ := List.mem_map.mp q
    exact (N p (hsel p hp)).2.1 e
  have hLg := hideAll_get (sel.map Prod.fst) hL nL
  have B₁ := pushX B F hf hke
  have B₂ : Below (Ar dp un gd (env :: outer)) base (env :: outer) (hideAll s.heap (sel.map Prod.fst)) := by
    refine ⟨rfl, fun b o e => st b o (B.stays b o e), funFrames_hideAll B₁.frames fun env' he b hb hf' => ?_⟩
    cases he with
    | head => exact nL ((Option.some.inj (hf.symm.trans hf') : L = b) ▸ hb)
    | tail _ he =>
      obtain ⟨L₁, o₁, hf₁, ho₁⟩ := funFrames_in B.frames env' he
      rw [hf₁] at hf'
      exact nm L₁ o₁ ho₁ ((Option.some.inj hf' : L₁ = b) ▸ hb)
  refine C dp un gd (env :: outer) base (hideAll s.heap (sel.map Prod.fst)) tp tl mean mg mb s _ B₂ (fun b o e => of_hideAll _ e) (Nat.le_of_eq (hideAll_size _ _))
    (fun p hp => ⟨(N p (hsel p hp)).1, hideAll_none _ (List.mem_map_of_mem hp)⟩) (X.keeps st) (T.keeps st) hd hu fun v sel' h' tk' k1 k2 k3 => ?_
  have hgo : ∀ p ∈ oth, (hideAll s.heap (sel.map Prod.fst)).get? p.1 = some p.2 := fun p hp => hideAll_get _ (N p (hoth p hp).1).1 (hoth p hp).2
  refine ret v sel' h' tk' ⟨⟨oL, es, ep, k1 L oL hLg, hLd, hLk, hLf⟩, fun b o e => k1 b o (st b o e), F.above⟩ (fun p hp => ?_) (fun p hp q hq e => ?_) (fun p hp => Heap.lt_size (N p hp).1) k3
  · rcases List.mem_append.mp hp with hp | hp
    · refine ⟨(k2 p hp).1, fun q => ?_, ?_⟩
      · have := (k2 p hp).2; rw [q, hLg] at this; cases this
      · cases q : h₀.get? p.1 with
        | none => rfl
        | some o => have := (k2 p hp).2; rw [st _ _ q] at this; cases this
    · exact ⟨k1 _ _ (hgo p hp), (N p (hoth p hp).1).2⟩
  · have := (k2 p hp).2
    rw [e, hgo q hq] at this; cases this

theorem use_g {w : World} {D U : Nat} {f : Addr} {args : List Value} {sel news oth : List (Addr × Obj)} {Post : Nat → Value → List (Addr × Obj) → Prop}
    (C : Con w D U f args sel Post)
    {dp un : Nat} {gd : Option (List Code)} {env : Env} {outer : List Env} {A₀ : Around} {base h₀ : Heap} {L : Addr} {m : Str → Option Value} {tp : Program} {tl : List Str} {mean : ExcName → Option Value} {mg mb : Str → Option Value} {s : Shared} {Q E : Value → Shared → Prop}
    (B : Below A₀ base outer h₀) (F : Fr h₀ L s.heap m) (X : (hd.heap_1 w.params).In h₀) (N : News h₀ L s.heap news) (T : Top tp tl mean mg mb h₀) (hf : env.frame = some L) (hke : env.scope.kind = .function)
    (hsel : ∀ p ∈ sel, p ∈ news) (hoth1 : ∀ p ∈ oth, p ∈ news) (hoth2 : ∀ p ∈ oth, ∀ q ∈ sel, p.1 ≠ q.1)
    (hd : dp + D < recursionLimit) (hu : un + U < cLine)
    (ret : ∀ v sel' h' tk', Fr h₀ L h' m → News h₀ L h' (sel' ++ oth) → (∀ p ∈ sel', ∀ q ∈ oth, p.1 ≠ q.1) → (∀ p ∈ news, p.1 < s.heap.objs.size) → Post s.heap.objs.size v sel' → Q v { s with heap := h', toks := tk' }) :
    wpAny (model Challenge.rw_pe0259_02.row.prog w) (Ar dp un gd (env :: outer)) (call (.ref f) args) Q E s :=
  wpAny_call (use_gc C B F X N T hf hke hsel hoth1 hoth2 hd hu ret)

theorem enter_gc {prog : Program} {w : World} {A : Around} {s : Shared} {g : Heap} {K : Frag} {p : Program} {loose : List Str} {mean : ExcName → Option Value} {mg mb : Str → Option Value} {sel : List (Addr × Obj)}
    {R : Result → Shared → Prop} {name qual : Str} {params : Arguments} {body : List Stmt} {scope : Scope} {dV kV doc pm cdv ct oc : Value} {an od : Option Addr} {osl : Array (Option Value)} {f : Addr} {args : Args} {binds : List (Str × Value)}
    (hg : g.StaysIn s.heap) (hsz : g.objs.size ≤ s.heap.objs.size) (hsel : ∀ p ∈ sel, s.heap.get? p.1 = some p.2 ∧ g.get? p.1 = none) (X : K.In g) (T : Top p loose mean mg mb g)
    (ho : K.lookup f = some ⟨oc, od, .func (fnOf name qual params body scope dV kV doc pm an cdv ct), osl⟩) (hcd : codeIn K cdv qual = true) (hroom : A.depth < recursionLimit)
    (hbind : BindsTo s (fnOf name qual params body scope dV kV doc pm an cdv ct) args binds) (hkind : (binds.all fun y => scope.names.lookup y.1 == some .local || scope.names.lookup y.1 == some .cell) = true)
    (hnd : ((cellsFrom 0 scope.names []).map Prod.fst).Nodup)
    (h : ∀ L' h₁ tk cells, Fr g L' h₁ (bindL (envOfC qual scope L' f cdv).kindOf binds fun _ => none) → News g L' h₁ (cells ++ sel) →
      CellsAre (bindC (envOfC qual scope L' f cdv).kindOf binds fun _ => none) (cellsFrom (L' + 1) scope.names []) cells → (∀ p ∈ sel, p.1 < L') →
      wpAny (model prog w) (A.deeper (envOfC qual scope L' f cdv)) (execs body (envOfC qual scope L' f cdv))
        (fun fl s' => R (.ok (.ret (match fl with | .ret v => v | _ => .none))) s')
        (fun e s' => wpAny (model prog w) (A.deeper (envOfC qual scope L' f cdv)) (leaving (envOfC qual scope L' f cdv) e) (fun _ s'' => R (.error e) s'') (fun e' s'' => R (.error e') s'') s')
        { s with heap := h₁, toks := tk })
    (hco : scope.isCoroutine = false) (hgen : scope.isGenerator = false) (hk : scope.kind = .function) : codeAny (model prog w) A (.call (.ref f) args) R s := by
  refine codeAny_call_function hroom (hg _ _ (X _ _ ho)) rfl hco hgen rfl (codeRec_of (X.keeps hg) hcd) (hbind _ _ _ _ ?_)
  refine wpAny_newFunctionEnv_cells hk (kindsX hkind _) fun env' he s' x => ?_
  subst he
  refine ⟨(T.nolimit.keeps hg).keeps x.toInCall.keep, codeAny_func ?_⟩
  obtain ⟨h₁, tk, rfl, _⟩ := x.done
  have hk₁ := x.toInCall.keep
  obtain ⟨cells, NC, Y⟩ := Cl.news (h₀ := s.heap) (Nat.le_refl _) fun n c hm => ⟨x.cell n c (lookup_of_mem_nodup (cellsFrom_names scope.names 0 (s.heap.objs.size + 1) [] [] rfl ▸ hnd) hm), x.above n c hm⟩
  refine h s.heap.objs.size h₁ tk cells ⟨x.toInCall.ns, fun b o e => hk₁ b o (hg b o e), hsz⟩ (fun p hp => ?_) Y (fun p hp => Heap.lt_size (hsel p hp).1)
  rcases List.mem_append.mp hp with hp | hp
  · refine ⟨(NC p hp).1, (NC p hp).2.1, ?_⟩
    cases q : g.get? p.1 with
    | none => rfl
    | some o => have := hg _ _ q; rw [(NC p hp).2.2] at this; cases this
  · exact ⟨hk₁ _ _ (hsel p hp).1, Nat.ne_of_lt (Heap.lt_size (hsel p hp).1), (hsel p hp).2⟩

theorem slot_fn_set : Slot "function" "__setattr__" "object.__setattr__" :=
  .of (owner := "object") (n := "__setattr__") (by rw [typeLookup_type, builtinLookup_eq_fast]; kernel_rfl) (by decide +kernel) (by decide +kernel) (by decide +kernel)
    (by first | exact .inl (by decide +kernel) | exact .inr (by decide +kernel)) (by rw [isSubtype_type]; kernel_rfl)
theorem slot_fn_gat : Slot "function" "__getattribute__" "object.__getattribute__" :=
  .of (owner := "object") (n := "__getattribute__") (by rw [typeLookup_type, builtinLookup_eq_fast]; kernel_rfl) (by decide +kernel) (by decide +kernel) (by decide +kernel)
    (by first | exact .inl (by decide +kernel) | exact .inr (by decide +kernel)) (by rw [isSubtype_type]; kernel_rfl)
theorem fn_read_none : typeLookup (.type "function") "read" = pure none := by rw [typeLookup_type, builtinLookup_eq_fast]; kernel_rfl
theorem fn_getattr_none : typeLookup (.type "function") "__getattr__" = pure none := by rw [typeLookup_type, builtinLookup_eq_fast]; kernel_rfl
theorem entry_gat : entryFor table "object.__getattribute__" = some Builtin.«object.__getattribute__» := entryFor_of_tree (by kernel_rfl)
theorem fn_mro : mroOf (.type "function") = pure [.type "function", .type "object"] := by kernel_rfl
theorem fn_passes (self : Value) : refuseLoop self "__setattr__" [.type "function", .type "object"] = pure () := by kernel_rfl

section
open PySem.Builtin.ObjectAttr
variable {prog : Program} {w : World} {A : Around} {E : Value → Shared → Prop} {s : Shared} {h₀ : Heap} {L f : Addr} {m : Str → Option Value} {fd : FuncData} {sl : Array (Option Value)} {v : Value}

theorem fn_setattr {pre post : List (Addr × Obj)} {Q : Unit → Shared → Prop} (F : Fr h₀ L s.heap m) (N : News h₀ L s.heap (pre ++ (f, ⟨.type "function", none, .func fd, sl⟩) :: post))
    (h1 : ∀ p ∈ pre, p.1 ≠ f) (h2 : ∀ p ∈ post, p.1 ≠ f)
    (h : ∀ d h' tk, Fr h₀ L h' m → News h₀ L h' ((d, dictOf [⟨PyData.keyHash w.params "read", .str "read" tk, v⟩] 1) :: (pre ++ (f, ⟨.type "function", some d, .func fd, sl⟩) :: post)) →
      (∀ p ∈ pre ++ (f, (⟨.type "function", none, .func fd, sl⟩ : Obj)) :: post, p.1 < d) → Q () { s with heap := h', toks := tk + 1 }) :
    wpAny (model prog w) A (setAttr (.ref f) "read" v) Q E s := by
  have SF := PySem.F.store_object
  have hf := (N (f, _) (List.mem_append_right _ (.head _))).1
  have hT : ∀ k, Shared.TypeIs { s with toks := k } (.ref f) "function" := fun _ => ⟨_, hf, rfl⟩
  unfold setAttr
  refine wpAny_bind (wpAny_mkText (wpAny_bind (wpAny_callSpecial?_slot (hT _) slot_fn_set ?_)))
  refine wpAny_call_entry slot_fn_set (hT _) SF.entry ?_ (SF.args _ _ _)
  rw [osa_eq, refuse_eq]
  refine wpAny_bind (wpAny_bind (wpAny_typeOf (hT _) ?_))
  rw [fn_mro]
  refine wpAny_bind (wpAny_pure ?_)
  rw [fn_passes]
  refine wpAny_pure (wpAny_bind (wpAny_typeOf (hT _) ?_))
  rw [fn_read_none]
  refine wpAny_bind (wpAny_pure (wpAny_bind (wpAny_pure ?_)))
  show wpAny _ _ (storeInOwnDict _ _ _ _ _ _) _ _ _
  unfold storeInOwnDict
  refine wpAny_bind (wpAny_pure ?_)
  refine wpAny_bind ?_
  show wpAny _ _ (instanceDict f true) _ _ _
  unfold instanceDict
  refine wpAny_bind (wpAny_loadPart hf ?_)
  dsimp only
  rw [show typeHasDict (.type "function") = true from by decide +kernel]
  refine wpAny_bind (wpAny_alloc ?_)
  have hsz : f < s.heap.objs.size := Heap.lt_size hf
  have F1 := F.push { cls := .type "dict", data := .dict #[] }
  have N1 := N.push F { cls := .type "dict", data := .dict #[] }
  have lt1 : ∀ p ∈ pre ++ (f, (⟨.type "function", none, .func fd, sl⟩ : Obj)) :: post, p.1 < s.heap.objs.size := fun p hp => Heap.lt_size (N p hp).1
  have U := news_upd (d := f) (f := fun o => { o with dict := some s.heap.objs.size }) (pre := (s.heap.objs.size, { cls := .type "dict", data := .dict #[] }) :: pre) (post := post) F1 N1
    (fun p hp => by
      rcases List.mem_cons.mp hp with rfl | hp
      · exact Nat.ne_of_gt hsz
      · exact h1 p hp) h2 rfl rfl
  refine wpAny_bind (wpAny_update (N1 (f, ⟨.type "function", none, .func fd, sl⟩) (.tail _ (List.mem_append_right _ (.head _)))).1 ?_)
  obtain ⟨U1, U2⟩ := U
  have D := (U2 (s.heap.objs.size, _) (.head _)).1
  unfold dictMade
  dsimp only
  rw [show finalisedInACycleAlone "function" = false from by decide +kernel]
  refine wpAny_pure ?_
  show wpAny _ _ (storeInDict _ _ _ _) _ _ _
  unfold storeInDict
  refine wpAny_bind (wpAny_pure (wpAny_bind ?_))
  unfold nsSet
  refine wpAny_bind (wpAny_bind (wpAny_askSetting (wpAny_pure (wpAny_bind (wpAny_mkText (wpAny_bind (wpAny_loadPart D ?_)))))))
  dsimp only
  rw [show aRefKeyMayBeTheName "read" #[] = false from by decide +kernel]
  refine wpAny_updatePart D ?_
  have V := news_upd (d := s.heap.objs.size) (f := Obj.putName "read" (PyData.keyHash w.params "read") (.str "read" (s.toks + 1)) v) (pre := []) U1 U2 (fun _ hp => nomatch hp)
    (fun p hp => by
      rcases List.mem_append.mp hp with hp | hp
      · exact Nat.ne_of_lt (lt1 p (List.mem_append_left _ hp))
      · rcases List.mem_cons.mp hp with rfl | hp
        · exact Nat.ne_of_lt hsz
        · exact Nat.ne_of_lt (lt1 p (List.mem_append_right _ (.tail _ hp)))) (putName_dict _ _ _ _ [] 0) rfl
  obtain ⟨V1, V2⟩ := V
  have D' := (V2 (s.heap.objs.size, _) (.head _)).1
  refine wpAny_bind (wpAny_lookBehind D' (pastItsLine_dict (by rw [List.size_toArray, sizeLine_eq]; exact Nat.le_of_ble_eq_true rfl)) ?_)
  exact wpAny_pure ⟨_, rfl, wpAny_pure (h _ _ _ V1 V2 lt1)⟩

theorem gat_eq (self : Value) (name : Str) (tk : Tok) : Builtin.«object.__getattribute__» ⟨[self, .str name tk], []⟩ = (typeOf self >>= fun tp => find self tp name >>= fun r => match r with
    | .value v => ret v
    | .bind g a => bindTo g a self tp
    | .missing => do
      if tp == .type "module" then
        if ← isOpaqueModuleObj self then
          let byTheModulesOwnEntry := match (← stack).drop 1 with
            | (.builtin "module.__getattribute__" ⟨m :: _, _⟩, _) :: _ => m == self
            | _ => false
          if !byTheModulesOwnEntry then unsupported "thirdparty:object.__getattribute__:a-miss-on-an-opaque-module"
      if tp == .type "type" then
        if let some key ← opaqueClassAbove self then unsupported s!"thirdparty:{key.toString}.{name.toString}:object.__getattribute__-misses-on-an-opaque-class"
      noSuchAttribute self name) := by kernel_rfl

theorem fn_getattr {d : Addr} {n : Nat} {hs : Int} {tk : Tok} {expr : Bool} {Q : Value → Shared → Prop} (hf : s.heap.get? f = some ⟨.type "function", some d, .func fd, sl⟩)
    (hd : s.heap.get? d = some (dictOf [⟨hs, .str "read" tk, v⟩] n)) (hv : handedIn v = true) (h : Q v { s with toks := s.toks + 1 }) :
    wpAny (model prog w) A (getAttr (.ref f) "read" expr) Q E s := by
  have hT : ∀ k, Shared.TypeIs { s with toks := k } (.ref f) "function" := fun _ => ⟨_, hf, rfl⟩
  unfold getAttr
  refine wpAny_bind (wpAny_mkText ?_)
  unfold getAttrBy
  refine wpAny_holding (wpAny_bind (wpAny_typeOf (hT _) ?_))
  rw [slot_fn_gat.lookup]
  refine wpAny_bind (wpAny_pure ?_)
  show wpAny _ _ (getAttrByItsOwn _ _ _ _ _ _) _ _ _
  unfold getAttrByItsOwn
  refine wpAny_bind (wpAny_pure ?_)
  refine wpAny_bind (wpAny_attempt (wpAny_holding ?_))
  show wpAny _ _ (callGetattribute _ _ _ _) _ _ _
  unfold callGetattribute
  rw [show (expr && onTheHeap (.builtin "object.__getattribute__")) = false from by cases expr <;> rfl]
  show wpAny _ _ (boundAndCalled _ _ _) _ _ _
  unfold boundAndCalled
  rw [slot_fn_gat.bind]
  refine wpAny_bind (wpAny_pure ?_)
  refine wpAny_call_entry slot_fn_gat (hT _) entry_gat ?_
  show wpAny _ _ (Builtin.«object.__getattribute__» ⟨[.ref f, .str _ _], []⟩) _ _ _
  rw [gat_eq]
  refine wpAny_bind (wpAny_typeOf (hT _) (wpAny_bind ?_))
  unfold find
  rw [fn_read_none]
  refine wpAny_bind (wpAny_pure (wpAny_bind (wpAny_pure (wpAny_bind (wpAny_pure ?_)))))
  show wpAny _ _ (ownThenClass _ _ _ _) _ _ _
  unfold ownThenClass
  refine wpAny_bind ?_
  show wpAny _ _ (ObjectAttr.ownDict f >>= _) _ _ _
  unfold ObjectAttr.ownDict
  refine wpAny_bind (wpAny_bind (wpAny_loadPart hf ?_))
  show wpAny _ _ (instanceDict f false) _ _ _
  unfold instanceDict
  refine wpAny_bind (wpAny_loadPart hf ?_)
  refine wpAny_pure ?_
  show wpAny _ _ (nsGet d "read") _ _ _
  unfold nsGet
  refine wpAny_bind (wpAny_loadPart hd ?_)
  have e : nsLook "read" (dictOf [⟨hs, .str "read" tk, v⟩] n) = pure (some v) := by rfl
  rw [e]
  refine wpAny_pure (wpAny_bind (wpAny_rule (wpAny_pure (wpAny_pure ⟨v, rfl, ?_⟩))))
  show wpAny _ _ (handedOut v) _ _ _
  rw [handedOut_of hv]
  exact wpAny_pure h
theorem canon_gat : Manifest.canonical "object.__getattribute__" = "object.__getattribute__" := by decide +kernel
theorem fn_getmethod {d : Addr} {n : Nat} {hs : Int} {tk : Tok} {pl : Sem Bool} {Q : Value × List Value → Shared → Prop} (hf : s.heap.get? f = some ⟨.type "function", some d, .func fd, sl⟩)
    (hd : s.heap.get? d = some (dictOf [⟨hs, .str "read" tk, v⟩] n)) (hv : handedIn v = true) (h : Q (v, []) { s with toks := s.toks + 1 }) :
    wpAny (model prog w) A (getMethod (.ref f) "read" pl) Q E s := by
  have hT : s.TypeIs (.ref f) "function" := ⟨_, hf, rfl⟩
  unfold getMethod
  refine wpAny_bind (wpAny_specialOf hT slot_fn_gat.lookup ?_)
  dsimp only
  rw [canon_gat]
  simp only [bne_self_eq_false, Bool.false_eq_true, if_false]
  refine wpAny_bind (wpAny_specialOf hT fn_getattr_none ?_)
  simp only [Option.isSome_none, Bool.false_eq_true, if_false]
  refine wpAny_bind (wpAny_specialOf hT fn_read_none ?_)
  dsimp only
  exact wpAny_bind (fn_getattr hf hd hv (wpAny_pure h))
end


/-- entering a def that a call has made -/
theorem enter_m {prog : Program} {w : World} {A : Around} {s : Shared} {g : Heap} {p : Program} {loose : List Str} {mean : ExcName → Option Value} {mg mb : Str → Option Value} {sel : List (Addr × Obj)}
    {R : Result → Shared → Prop} {name qual : Str} {params : Arguments} {body : List Stmt} {scope : Scope} {cl : List (Str × Addr)} {dV kV doc pm ct : Value} {an : Option Addr} {fo oc : Obj} {vs : Array Value} {tq : Tok} {f c : Addr} {args : Args} {binds : List (Str × Value)}
    (hg : g.StaysIn s.heap) (hsz : g.objs.size ≤ s.heap.objs.size) (hsel : ∀ p ∈ sel, s.heap.get? p.1 = some p.2 ∧ g.get? p.1 = none) (T : Top p loose mean mg mb g)
    (hfo : (f, fo) ∈ sel) (hfd : fo.data = .func (fnX name qual params body scope cl dV kV doc pm an (.ref c) ct)) (hc : (c, oc) ∈ sel) (hcd : oc.data = .fields vs) (hvs : vs[1]? = some (.str qual tq)) (hroom : A.depth < recursionLimit)
    (hbind : BindsTo s (fnX name qual params body scope cl dV kV doc pm an (.ref c) ct) args binds) (hloc : ∀ y ∈ binds, scope.names.lookup y.1 = some .local)
    (h : ∀ L' h₁ tk, Fr g L' h₁ (fun y => binds.reverse.lookup y) → News g L' h₁ sel → (∀ p ∈ sel, p.1 < L') →
      wpAny (model prog w) (A.deeper (envX qual scope L' f (.ref c) cl)) (execs body (envX qual scope L' f (.ref c) cl))
        (fun fl s' => R (.ok (.ret (match fl with | .ret v => v | _ => .none))) s')
        (fun e s' => wpAny (model prog w) (A.deeper (envX qual scope L' f (.ref c) cl)) (leaving (envX qual scope L' f (.ref c) cl) e) (fun _ s'' => R (.error e) s'') (fun e' s'' => R (.error e') s'') s')
        { s with heap := h₁, toks := tk })
    (hco : scope.isCoroutine = false) (hgen : scope.isGenerator = false) (hk : scope.kind = .function)
    (hcell : ∀ x ∈ scope.names, x.2 ≠ .cell) : codeAny (model prog w) A (.call (.ref f) args) R s := by
  refine codeAny_call_def (fd := fnX name qual params body scope cl dV kV doc pm an (.ref c) ct) (body := body) (binds := binds) hroom (hsel _ hfo).1 hfd (T.nolimit.keeps hg) ⟨c, oc, vs, tq, rfl, (hsel _ hc).1, hcd, hvs⟩ rfl hbind hcell hloc (fun h₁ hns hk₁ => ?_) hco hgen hk
  exact h s.heap.objs.size h₁ _ ⟨hns, fun b o e => hk₁ b o (hg b o e), hsz⟩ (fun p hp => ⟨hk₁ _ _ (hsel p hp).1, Nat.ne_of_lt (Heap.lt_size (hsel p hp).1), (hsel p hp).2⟩) (fun p hp => Heap.lt_size (hsel p hp).1)

/-- the parts of the def that stands at place i of a def's body -/
noncomputable def nestedDef (o : Option Obj) (i : Nat) : Option (Arguments × List Stmt × Scope) := match o with
  | some ⟨_, _, .func fd, _⟩ => (match fd.body with
    | .stmts b => (match b[i]? with
      | some (.FunctionDef _ args body _ _ _ scope _ _ _) => some (args, body, scope)
      | _ => none)
    | _ => none)
  | _ => none
theorem nested_out {K : Frag} {f : Addr} {o : Obj} {i : Nat} {x : Option (Arguments × List Stmt × Scope)} {P : Prop} (hl : K.lookup f = some o) (h : nestedDef (K.lookup f) i = x) (k : nestedDef (some o) i = x → P) : P := k (hl ▸ h)
local macro_rules | `(tactic| k_room) => `(tactic| ((try simp only [depth_under_make, depth_under_kw, depth_in1, depth_deeper, depth_caller]); (try dsimp only); (first | exact room0 (by assumption) | exact room1 (by assumption) rfl | exact room2 (by assumption) rfl | exact room3 (by assumption) rfl | exact room4 (by assumption) rfl | omega)))
local macro_rules | `(tactic| k_units) => `(tactic| ((try simp only [units_in1, units_deeper, Around.mark_units, units_caller]); (try dsimp only); (first | exact room0 (by assumption) | exact room1 (by assumption) rfl | exact room2 (by assumption) rfl | exact room3 (by assumption) rfl | exact room4 (by assumption) rfl | omega)))
local macro_rules | `(tactic| k_all) => `(tactic| assumption)
local macro_rules | `(tactic| k_ne) => `(tactic| (refine neN ?_; (try dsimp only); (first | (refine Nat.ne_of_gt ?_; with_reducible ((repeat (first | assumption | exact And.left (by assumption) | exact And.left (And.right (by assumption)) | exact And.right (And.right (by assumption)) | exact And.right (by assumption) | exact And.left (And.right (And.right (by assumption))) | exact And.right (And.right (And.right (by assumption))) | exact And.left (And.right (And.right (And.right (by assumption)))) | exact And.left (And.right (And.right (And.right (And.right (by assumption))))) | refine Nat.lt_trans ?_ (by assumption))); done)) | (refine Nat.ne_of_lt ?_; with_reducible ((repeat (first | assumption | exact And.left (by assumption) | exact And.left (And.right (by assumption)) | exact And.right (And.right (by assumption)) | exact And.right (by assumption) | exact And.left (And.right (And.right (by assumption))) | exact And.right (And.right (And.right (by assumption))) | exact And.left (And.right (And.right (And.right (by assumption)))) | exact And.left (And.right (And.right (And.right (And.right (by assumption))))) | refine Nat.lt_trans ?_ (by assumption))); done)) | exact Nat.ne_of_gt (Nat.lt_succ_self _) | exact Nat.ne_of_lt (Nat.lt_succ_self _))))
local macro_rules | `(tactic| k_ne) => `(tactic| first | assumption | (refine Ne.symm ?_; assumption))
theorem fdiv_nn (a b : Nat) : Int.fdiv (a : Int) (b : Int) = ((a / b : Nat) : Int) := by
  rw [Int.fdiv_eq_ediv_of_nonneg _ (Int.natCast_nonneg _)]; exact (Int.natCast_ediv _ _).symm
theorem fmod_nn (a b : Nat) : Int.fmod (a : Int) (b : Int) = ((a % b : Nat) : Int) := by
  rw [Int.fmod_eq_emod_of_nonneg _ (Int.natCast_nonneg _)]; exact (Int.natCast_emod _ _).symm
theorem cast_pow2 (k : Nat) : (2 : Int) ^ k = ((2 ^ k : Nat) : Int) := by simp
theorem fdiv_pow2 (x k : Nat) : Int.fdiv (x : Int) (2 ^ (Int.toNat (k : Int))) = ((x / 2 ^ k : Nat) : Int) := by
  rw [Int.toNat_natCast, cast_pow2, fdiv_nn]
theorem mul_pow2 (x k : Nat) : (x : Int) * 2 ^ (Int.toNat (k : Int)) = ((x * 2 ^ k : Nat) : Int) := by
  rw [Int.toNat_natCast, cast_pow2]; simp
theorem bits_lt {a m : Nat} (h : a < 2 ^ m) : Builtin.Int.intBits (a : Int) ≤ m := PySem.intBits_le_iff.mpr (by simpa using h)
theorem lt_bits (a : Nat) : a < 2 ^ Builtin.Int.intBits (a : Int) := by
  have := PySem.intBits_le_iff.mp (Nat.le_refl (Builtin.Int.intBits (a : Int)))
  simpa using this
theorem and_mul_pow2 (x y k : Nat) : x &&& (y * 2 ^ k) = (x / 2 ^ k &&& y) * 2 ^ k := by
  apply Nat.eq_of_testBit_eq
  intro i
  rw [Nat.testBit_and, Nat.testBit_mul_two_pow, Nat.testBit_mul_two_pow, Nat.testBit_and, Nat.testBit_div_two_pow]
  by_cases h : k ≤ i
  · simp [h, Nat.sub_add_cancel h]
  · simp [h]
theorem xor_low (x k : Nat) : Builtin.bitXor (x : Int) ((x / 2 ^ k * 2 ^ k : Nat) : Int) = ((x % 2 ^ k : Nat) : Int) := by
  rw [bitXor_and, bitAnd_pp (Int.natCast_nonneg _) (Int.natCast_nonneg _), Int.toNat_natCast, Int.toNat_natCast, and_mul_pow2, Nat.and_self]
  have := Nat.div_add_mod x (2 ^ k)
  rw [Nat.mul_comm] at this
  omega
/-- digit i of x to the base 2 ^ n -/
noncomputable def dig (n x i : Nat) : Nat := x / 2 ^ (n * i) % 2 ^ n
theorem dig_low {n x i j : Nat} (h : i < j) : dig n (x % 2 ^ (n * j)) i = dig n x i := by
  unfold dig
  rw [show n * j = n * i + n * (j - i) from by rw [← Nat.mul_add]; congr 1; omega, Nat.pow_add, Nat.mod_mul_right_div_self]
  apply Nat.mod_mod_of_dvd
  exact Nat.pow_dvd_pow 2 (Nat.le_mul_of_pos_right n (by omega))
theorem dig_high {n x i j : Nat} (h : j ≤ i) : dig n (x / 2 ^ (n * j)) (i - j) = dig n x i := by
  unfold dig
  rw [Nat.div_div_eq_div_mul, ← Nat.pow_add, ← Nat.mul_add, Nat.add_sub_cancel' h]
theorem dig_zero {n x : Nat} (h : x < 2 ^ n) : dig n x 0 = x := by
  unfold dig
  simp [Nat.mod_eq_of_lt h]
theorem half_lo {Lo mid Hi d : Nat} (h1 : Lo < mid) (h2 : mid < Hi) (h : Hi - Lo ≤ d + 1) : mid - Lo ≤ d :=
  Nat.le_of_lt_succ (Nat.lt_of_lt_of_le (Nat.sub_lt_sub_right (Nat.le_of_lt h1) h2) h)
theorem half_hi {Lo mid Hi d : Nat} (h1 : Lo < mid) (h2 : mid < Hi) (h : Hi - Lo ≤ d + 1) : Hi - mid ≤ d :=
  Nat.le_of_lt_succ (Nat.lt_of_lt_of_le (Nat.sub_lt_sub_left (Nat.lt_trans h1 h2) h1) h)
theorem sub3 {i mid Lo : Nat} (h1 : Lo < mid) : i - mid = i - Lo - (mid - Lo) := by rw [Nat.sub_sub, Nat.add_sub_cancel' (Nat.le_of_lt h1)]
theorem toNat_sub' {m : Nat} {t : Int} (h : 0 ≤ t) : ((m : Int) - t).toNat = m - t.toNat := by
  obtain ⟨k, rfl⟩ := Int.eq_ofNat_of_zero_le h
  exact Int.toNat_sub m k
theorem toNat_sub1 {b c : Nat} (h : c ≤ b) : ((b : Int) - (c : Int) + 1).toNat = b - c + 1 := by
  rw [← Int.ofNat_sub h]; exact Int.toNat_natCast (b - c + 1)
theorem sub_one_sub (len i : Nat) : len - (i + 1) = len - 1 - i := by rw [Nat.sub_sub, Nat.add_comm]
theorem turn_lt {n i : Nat} (h : i < n) : n + 1 - (i + 1) < n + 1 - i := Nat.sub_lt_sub_left (Nat.lt_succ_of_lt h) (Nat.lt_succ_self i)
noncomputable def FnAt (rd : Addr) (h : Heap) : Prop := ∃ o fd, h.get? rd = some o ∧ o.data = .func fd
theorem keeps_fn {M : Model} {rd : Addr} (h : Heap) (X : FnAt rd h) : ∃ k, (k = Keeper.frame ∨ k = Keeper.machine ∨ k = Keeper.boundFrame) ∧ Looks M h (keeperOf (.ref rd)) k := by
  obtain ⟨o, fd, e1, e2⟩ := X
  refine ⟨.frame, .inl rfl, (Looks.ld (part := none) e1).andThen ?_⟩
  rw [e2]; exact .now
theorem callWith_fn {M : Model} {A : Around} {E : Value → Shared → Prop} {s : Shared} {env : Env} {pos : Pos} {first : List Value} {Q : Value → Shared → Prop} {rd : Addr} {e : Expr} {rest : List Expr}
    (h : wpAny M A (spliced (backTo pos (starEach (e :: rest) env))) (fun vs s₁ => FnAt rd s₁.heap ∧ wpAny M A (call (.ref rd) (first ++ vs)) Q E s₁) E s)
    (he : starEach (e :: rest) env = (false, eval e env) :: starEach rest env := by rfl) (hplain : (backTo pos (starEach rest env)).any (·.1) = false := by rfl) :
    wpAny M A (callWith pos (.ref rd) first (backTo pos (starEach (e :: rest) env)) []) Q E s := by
  rw [he] at h ⊢
  exact callWith_of (by show ((false || (backTo pos (starEach rest env)).any (·.1)) || false) = false; rw [hplain]; rfl) (keeps_fn) (evalArgs_plain h)

/-- the one sign at place p, the empty text behind the end -/
noncomputable def signAt (x : Str) (p : Nat) : Str := ⟨x.cps.extract p (p + 1)⟩

structure Reader (w : World) (rd : Addr) (text : Str) (adr : List Addr) (RO : Nat → List (Addr × Obj) → Prop) : Prop where
  adrs : ∀ p l, RO p l → l.map Prod.fst = adr
  fn : ∀ p l, RO p l → ∃ o fd, (rd, o) ∈ l ∧ o.data = .func fd
  read : ∀ p l t, RO p l → Con w 2 20 rd [.int 1 t] l (fun _ v l' => RO (min (p + 1) text.length) l' ∧ ∃ t', v = .str (signAt text p) t')

structure LexA where
  x : Addr
  dx : Addr
  pb : Addr
  st : Addr
  std : Addr
  rd : Addr
  t1 : Tok
  t2 : Tok
  t3 : Tok
  t4 : Tok
  td : Tok
  fd : FuncData
  sl : Array (Option Value)

noncomputable abbrev lexDict (w : World) (a : LexA) (lin : Value) (wsp : Value) : Obj := dictOf [⟨PyData.keyHash w.params "lineno", .str "lineno" a.t1, lin⟩, ⟨PyData.keyHash w.params "instream", .str "instream" a.t2, .ref a.st⟩, ⟨PyData.keyHash w.params "whitespace", .str "whitespace" a.t3, wsp⟩, ⟨PyData.keyHash w.params "pushback", .str "pushback" a.t4, .ref a.pb⟩] 4
noncomputable abbrev lexObjs (w : World) (a : LexA) (lin wsp : Value) (items : List Value) (k : Nat) : List (Addr × Obj) :=
  [(a.x, instObj 101 a.dx), (a.dx, lexDict w a lin wsp), (a.pb, listOf items.toArray k), (a.st, ⟨.type "function", some a.std, .func a.fd, a.sl⟩), (a.std, dictOf [⟨PyData.keyHash w.params "read", .str "read" a.td, .ref a.rd⟩] 1)]

structure LexA.Ok (a : LexA) (adr : List Addr) : Prop where
  n1 : a.x ≠ a.dx
  n2 : a.x ≠ a.pb
  n3 : a.dx ≠ a.pb
  n4 : a.st ≠ a.dx
  n5 : a.st ≠ a.pb
  n6 : a.std ≠ a.dx
  n7 : a.std ≠ a.pb
  m1 : a.x ∉ adr
  m2 : a.dx ∉ adr
  m3 : a.pb ∉ adr
  m4 : a.st ∉ adr
  m5 : a.std ∉ adr

theorem not_adr {l : List (Addr × Obj)} {adr : List Addr} {d : Addr} (h : l.map Prod.fst = adr) (hd : d ∉ adr) : ∀ p ∈ l, p.1 ≠ d := fun p hp e => hd (h ▸ e ▸ List.mem_map_of_mem hp)

theorem read_char_c (w : World) (a : LexA) (text : Str) (adr : List Addr) (RO : Nat → List (Addr × Obj) → Prop) (Rd : Reader w a.rd text adr RO) (O : a.Ok adr)
    (lin : Int) (lt : Tok) (wsp : Value) (items : List Value) (k : Nat) (p : Nat) (l : List (Addr × Obj)) (hl : RO p l) :
   Con w 4 40 84 [.ref a.x] (lexObjs w a (.int lin lt) wsp items k ++ l)
     (fun _ v sel' => ∃ t lt' l', v = .str (signAt text p) t ∧ RO (min (p + 1) text.length) l' ∧
       sel' = lexObjs w a (.int (if signAt text p == "\n" then lin + 1 else lin) lt') wsp items k ++ l') := by
  unfold Con
  k_fill
  intro dp un gd outer base g tp tl mean mg mb s R B hg hsz hsel X T hd hu ret
  refine' enter_g B hg hsz hsel X T ?k6 ?k7 ?k8 ?k9 ?kB ?_ ?c2 ?c3 ?c4 ?c5
  (case k6 => k_is); (case k7 => k_is); (case k8 => ktr_room); (case k9 => exact BindsTo.of_eq rfl); (case c5 => decide); (case kB => exact locs rfl); (case c2 => exact rfl); (case c3 => exact rfl); (case c4 => exact rfl)
  k_whole
  intro L' h' tk' F' N' l1
  simp only [lexObjs, List.cons_append, List.nil_append] at N'
  obtain ⟨n1, n2, n3, n4, n5, n6, n7, q1, q2, q3, q4, q5⟩ := O
  have m1 := not_adr (Rd.adrs p l hl) q1
  have m2 := not_adr (Rd.adrs p l hl) q2
  have m3 := not_adr (Rd.adrs p l hl) q3
  have m4 := not_adr (Rd.adrs p l hl) q4
  have m5 := not_adr (Rd.adrs p l hl) q5
  (try dsimp only); (try k_fold)
  ((repeat' ((fail_if_success (with_reducible show wpAny _ _ (getMethod (Value.ref a.st) _ _) _ _ _)); (first | (k_unfold; (try dsimp only)) | ((with_reducible first | show wpAny _ _ (exec _ _) _ _ _ | show wpAny _ _ (execs _ _) _ _ _); k_fold) | (k_end; wrow_close) | walk1 | (dsimp only; walk1) | (leave1; (try dsimp only))))) <;> (repeat (k_unfold; (try dsimp only))))
  rename News _ _ _ _ => N1
  refine fn_getmethod (N1 (a.st, _) (by k_mem)).1 (N1 (a.std, _) (by k_mem)).1 rfl ?_
  (try dsimp only)
  refine callWith_fn ?_
  ((repeat' ((fail_if_success (with_reducible show FnAt _ _ ∧ _)); (first | (k_unfold; (try dsimp only)) | ((with_reducible first | show wpAny _ _ (exec _ _) _ _ _ | show wpAny _ _ (execs _ _) _ _ _); k_fold) | (k_end; wrow_close) | walk1 | (dsimp only; walk1) | (leave1; (try dsimp only))))) <;> (repeat (k_unfold; (try dsimp only))))
  obtain ⟨o9, fd9, hm9, hf9⟩ := Rd.fn p l hl
  refine ⟨⟨o9, fd9, (N1 (a.rd, o9) (by iterate 5 (refine List.Mem.tail _ ?_)
                                       exact hm9)).1, hf9⟩, ?_⟩
  refine use_g (Rd.read p l _ hl) (oth := lexObjs w a (.int lin lt) wsp items k) B (by assumption) X N1 T rfl rfl (fun p hp => ?_) ?_ ?_ ?_ ?_ ?_
  · iterate 5 (refine List.Mem.tail _ ?_)
    exact hp
  · exact List.forall_mem_cons.mpr ⟨by k_mem, List.forall_mem_cons.mpr ⟨by k_mem, List.forall_mem_cons.mpr ⟨by k_mem, List.forall_mem_cons.mpr ⟨by k_mem, List.forall_mem_cons.mpr ⟨by k_mem, List.forall_mem_nil _⟩⟩⟩⟩⟩
  · exact List.forall_mem_cons.mpr ⟨fun q hq e => m1 q hq e.symm, List.forall_mem_cons.mpr ⟨fun q hq e => m2 q hq e.symm, List.forall_mem_cons.mpr ⟨fun q hq e => m3 q hq e.symm, List.forall_mem_cons.mpr ⟨fun q hq e => m4 q hq e.symm, List.forall_mem_cons.mpr ⟨fun q hq e => m5 q hq e.symm, List.forall_mem_nil _⟩⟩⟩⟩⟩
  · k_room
  · k_units
  rintro v l2 h2 tk2 F2 N2 - - ⟨hl2, t2, rfl⟩
  replace N2 : News g L' h2 (lexObjs w a (.int lin lt) wsp items k ++ l2) := fun p hp => N2 p (List.mem_append.mpr (List.mem_append.mp hp).symm)
  simp only [lexObjs, List.cons_append, List.nil_append] at N2
  have m1 := not_adr (Rd.adrs _ l2 hl2) q1
  have m2 := not_adr (Rd.adrs _ l2 hl2) q2
  have m3 := not_adr (Rd.adrs _ l2 hl2) q3
  have m4 := not_adr (Rd.adrs _ l2 hl2) q4
  have m5 := not_adr (Rd.adrs _ l2 hl2) q5
  (try dsimp only); (try k_fold)
  ((repeat' (first | (k_unfold; (try dsimp only)) | ((with_reducible first | show wpAny _ _ (exec _ _) _ _ _ | show wpAny _ _ (execs _ _) _ _ _); k_fold) | (k_end; wrow_close) | walk1 | (dsimp only; walk1) | (leave1; (try dsimp only)))) <;> (repeat (k_unfold; (try dsimp only))))
  all_goals (
    (try dsimp only)
    rename Fr _ _ _ _ => F3
    rename News _ _ _ _ => N3
    refine ret _ _ _ _ F3.keep (fun p hp => ⟨(N3 p hp).1, (N3 p hp).2.2⟩) ?_
    rename ((_ == _) = _) => hb
    refine ⟨_, ?_, l2, rfl, hl2, ?_⟩
    rotate_left
    rw [hb]
    exact rfl)
theorem StrsAre.cons_inv {vs : List Value} {y : Str} {ys : List Str} (h : StrsAre vs (y :: ys)) : ∃ t vs', vs = .str y t :: vs' ∧ StrsAre vs' ys := by
  cases h with
  | cons _ _ h => exact ⟨_, _, rfl, h⟩

noncomputable def MachSt (w : World) (a : LexA) (RO : Nat → List (Addr × Obj) → Prop) (lin : Int) (wsp : Str) (ws : List Str) (p : Nat) (blk : List (Addr × Obj)) : Prop :=
  ∃ lt tw k l items, RO p l ∧ StrsAre items ws ∧ blk = lexObjs w a (.int lin lt) (.str wsp tw) items k ++ l

theorem MachSt.adrs {w : World} {a : LexA} {text : Str} {adr : List Addr} {RO : Nat → List (Addr × Obj) → Prop} {lin : Int} {wsp : Str} {ws : List Str} {p : Nat} {blk : List (Addr × Obj)}
    (M : MachSt w a RO lin wsp ws p blk) (Rd : Reader w a.rd text adr RO) : blk.map Prod.fst = [a.x, a.dx, a.pb, a.st, a.std] ++ adr := by
  obtain ⟨lt, tw, k, l, items, hl, hi, rfl⟩ := M
  simp only [lexObjs, List.map_append, List.map_cons, List.map_nil, Rd.adrs p l hl]

theorem push_token_c (w : World) (a : LexA) (text : Str) (adr : List Addr) (RO : Nat → List (Addr × Obj) → Prop) (Rd : Reader w a.rd text adr RO) (O : a.Ok adr)
    (lin : Int) (wsp : Str) (ws : List Str) (p : Nat) (blk : List (Addr × Obj)) (M : MachSt w a RO lin wsp ws p blk) (y : Str) (t : Tok) (hlen : ws.length < 10000) :
   Con w 4 40 98 [.ref a.x, .str y t] blk (fun _ v blk' => v = .none ∧ MachSt w a RO lin wsp (ws ++ [y]) p blk') := by
  obtain ⟨lt, tw, k, l, items, hl, hi, rfl⟩ := M
  have hlen2 : items.length < 10000 := hi.length ▸ hlen
  unfold Con
  k_fill
  intro dp un gd outer base g tp tl mean mg mb s R B hg hsz hsel X T hd hu ret
  refine' enter_g B hg hsz hsel X T ?k6 ?k7 ?k8 ?k9 ?kB ?_ ?c2 ?c3 ?c4 ?c5
  (case k6 => k_is); (case k7 => k_is); (case k8 => ktr_room); (case k9 => exact BindsTo.of_eq rfl); (case c5 => decide); (case kB => exact locs rfl); (case c2 => exact rfl); (case c3 => exact rfl); (case c4 => exact rfl)
  k_whole
  intro L' h' tk' F' N' l1
  simp only [lexObjs, List.cons_append, List.nil_append] at N'
  obtain ⟨n1, n2, n3, n4, n5, n6, n7, q1, q2, q3, q4, q5⟩ := O
  have m3 := not_adr (Rd.adrs p l hl) q3
  (try dsimp only); (try k_fold)
  ((repeat' (first | (k_unfold; (try dsimp only)) | ((with_reducible first | show wpAny _ _ (exec _ _) _ _ _ | show wpAny _ _ (execs _ _) _ _ _); k_fold) | (k_end; wrow_close) | walk1 | (dsimp only; walk1) | (leave1; (try dsimp only)))) <;> (repeat (k_unfold; (try dsimp only))))
  (try dsimp only)
  rename Fr _ _ _ _ => F3
  rename News _ _ _ _ => N3
  refine ret _ _ _ _ F3.keep (fun p hp => ⟨(N3 p hp).1, (N3 p hp).2.2⟩) ⟨rfl, lt, tw, k + 1, l, items ++ [.str y t], hl, kct_snoc hi, ?_⟩
  simp only [lexObjs, List.cons_append, List.nil_append, List.push_toArray]

theorem get_token_1 (w : World) (a : LexA) (text : Str) (adr : List Addr) (RO : Nat → List (Addr × Obj) → Prop) (Rd : Reader w a.rd text adr RO) (O : a.Ok adr)
    (lin : Int) (wsp : Str) (y : Str) (ws : List Str) (p : Nat) (blk : List (Addr × Obj)) (M : MachSt w a RO lin wsp (y :: ws) p blk) (hlen : ws.length < 10000) :
   Con w 4 40 91 [.ref a.x] blk (fun _ v blk' => (∃ t, v = .str y t) ∧ MachSt w a RO lin wsp ws p blk') := by
  obtain ⟨lt, tw, k, l, items, hl, hi, rfl⟩ := M
  obtain ⟨ty, items, rfl, hi2⟩ := StrsAre.cons_inv hi
  have hlen2 : items.length < 10000 := hi2.length ▸ hlen
  unfold Con
  k_fill
  intro dp un gd outer base g tp tl mean mg mb s R B hg hsz hsel X T hd hu ret
  refine' enter_g B hg hsz hsel X T ?k6 ?k7 ?k8 ?k9 ?kB ?_ ?c2 ?c3 ?c4 ?c5
  (case k6 => k_is); (case k7 => k_is); (case k8 => ktr_room); (case k9 => exact BindsTo.of_eq rfl); (case c5 => decide); (case kB => exact locs rfl); (case c2 => exact rfl); (case c3 => exact rfl); (case c4 => exact rfl)
  k_whole
  intro L' h' tk' F' N' l1
  simp only [lexObjs, List.cons_append, List.nil_append] at N'
  obtain ⟨n1, n2, n3, n4, n5, n6, n7, q1, q2, q3, q4, q5⟩ := O
  have m3 := not_adr (Rd.adrs p l hl) q3
  (try dsimp only); (try k_fold)
  ((repeat' ((fail_if_success (with_reducible show wpAny _ _ (truthy (Value.ref a.pb)) _ _ _)); (first | (k_unfold; (try dsimp only)) | ((with_reducible first | show wpAny _ _ (exec _ _) _ _ _ | show wpAny _ _ (execs _ _) _ _ _); k_fold) | (k_end; wrow_close) | walk1 | (dsimp only; walk1) | (leave1; (try dsimp only))))) <;> (repeat (k_unfold; (try dsimp only))))
  rename News _ _ _ _ => N1
  refine wpAny_truthy_list (News.isList N1 (by k_mem)) (by simp only [List.size_toArray, List.length_cons]; omega) ?_
  rw [show (!(Value.str y ty :: items).toArray.isEmpty) = true from by simp]
  ((repeat' ((fail_if_success (with_reducible show wpAny _ _ (call (Value.builtin "list.pop") _) _ _ _)); (first | (k_unfold; (try dsimp only)) | ((with_reducible first | show wpAny _ _ (exec _ _) _ _ _ | show wpAny _ _ (execs _ _) _ _ _); k_fold) | (k_end; wrow_close) | walk1 | (dsimp only; walk1) | (leave1; (try dsimp only))))) <;> (repeat (k_unfold; (try dsimp only))))
  rename Fr _ _ _ _ => F2
  rename News _ _ _ _ => N2
  refine' kl_popAt (its := (Value.str y ty :: items).toArray) (k := 0) (p := []) (q := items) (y := .str y ty) (n := k) F2 N2 ?f ?k ?e ?U ?z ?_
  (case f => rfl)
  (case k => simp [seqIndex?])
  (case e => rfl)
  (case U => k_upd)
  (case z => show (Value.str y ty :: items).length ≤ sizeLine; rw [sizeLine_eq, List.length_cons]; omega)
  intro h3 F3 N3
  (try dsimp only [List.nil_append, List.cons_append] at N3)
  clear F2 N2
  ((repeat' (first | (k_unfold; (try dsimp only)) | ((with_reducible first | show wpAny _ _ (exec _ _) _ _ _ | show wpAny _ _ (execs _ _) _ _ _); k_fold) | (k_end; wrow_close) | walk1 | (dsimp only; walk1) | (leave1; (try dsimp only)))) <;> (repeat (k_unfold; (try dsimp only))))
  (try dsimp only)
  refine ret _ _ _ _ F3.keep (fun p hp => ⟨(N3 p hp).1, (N3 p hp).2.2⟩) ⟨⟨_, rfl⟩, lt, tw, k + 1, l, items, hl, hi2, rfl⟩

theorem slot_cit_next : Slot "callable_iterator" "__next__" "callable_iterator.__next__" :=
  .of (owner := "callable_iterator") (n := "__next__") (by rw [typeLookup_type, builtinLookup_eq_fast]; kernel_rfl) (by decide +kernel) (by decide +kernel) (by decide +kernel)
    (by first | exact .inl (by decide +kernel) | exact .inr (by decide +kernel)) (by rw [isSubtype_type]; kernel_rfl)
theorem slot_cit_iter : Slot "callable_iterator" "__iter__" "callable_iterator.__iter__" :=
  .of (owner := "callable_iterator") (n := "__iter__") (by rw [typeLookup_type, builtinLookup_eq_fast]; kernel_rfl) (by decide +kernel) (by decide +kernel) (by decide +kernel)
    (by first | exact .inl (by decide +kernel) | exact .inr (by decide +kernel)) (by rw [isSubtype_type]; kernel_rfl)
theorem entry_cit_next : entryFor table "callable_iterator.__next__" = some Builtin.«callable_iterator.__next__» := entryFor_of_tree (by kernel_rfl)
theorem entry_cit_iter : entryFor table "callable_iterator.__iter__" = some Builtin.«dict_keyiterator.__iter__» :=
  entryFor_alias (id' := "dict_keyiterator.__iter__") (by kernel_rfl) rfl (by decide +kernel) (by kernel_rfl)
theorem args_cit_next (a : Value) : argsOk "callable_iterator.__next__" ⟨[a], []⟩ := by unfold argsOk; kernel_rfl
theorem args_cit_iter (a : Value) : argsOk "callable_iterator.__iter__" ⟨[a], []⟩ := by unfold argsOk; kernel_rfl
theorem kind_iter : builtinKind "iter" = none := by decide +kernel
theorem plain_iter : plainId "iter" = true := by decide +kernel
theorem entry_iter : entryFor table "iter" = some Builtin.«iter» := entryFor_of_tree (by kernel_rfl)
theorem args_iter2 (a b : Value) : argsOk "iter" ⟨[a, b], []⟩ := by unfold argsOk; kernel_rfl
theorem method_call_some : typeLookup (.type "method") "__call__" = pure (some (.builtin "method.__call__")) := by rw [typeLookup_type, builtinLookup_eq_fast]; kernel_rfl

noncomputable abbrev citObj (q : Addr) (t : Tok) : Obj := { cls := .type "callable_iterator", data := .fields #[.ref q, .str "" t, .bool false] }
noncomputable abbrev citEnd : Obj := { cls := .type "callable_iterator", data := .fields #[.none, .none, .bool true] }

section
variable {prog : Program} {w : World} {A : Around} {E : Value → Shared → Prop} {s : Shared} {h₀ : Heap} {L : Addr} {m : Str → Option Value}

theorem wpAny_callBorrowed {M : Model} {f : Value} {pos : List Value} {Q : Value → Shared → Prop}
    (hc : codeAny M A (.call f ⟨pos, []⟩) (fun r s' => match r with | .ok (.ret v) => Q v s' | .ok _ => False | .error e => E e s') s) :
    wpAny M A (callBorrowed f pos) Q E s := fun Γ p hΓ => by
  refine wpCode_mono (fun r s' h => ?_) (hc _ p rfl (hΓ.enter _ none p (by intro x; cases x)))
  cases r with
  | error e => exact h
  | ok f => cases f <;> first | exact h | exact h.elim

theorem pyIter_cit {it : Addr} {o : Obj} {Q : Value → Shared → Prop} (ho : s.heap.get? it = some o) (hc : o.cls = .type "callable_iterator") (h : Q (.ref it) s) : wpAny (model prog w) A (pyIter (.ref it)) Q E s := by
  have hT : s.TypeIs (.ref it) "callable_iterator" := ⟨o, ho, hc⟩
  refine wpAny_pyIter_slot hT slot_cit_iter (wpAny_call_entry slot_cit_iter hT entry_cit_iter ?_ (args_cit_iter _))
  show wpAny _ _ (ret (.ref it)) _ _ s
  exact wpAny_pure ⟨_, rfl, "callable_iterator", _, hT, slot_cit_next.lookup, h⟩

theorem iter2 {q f : Addr} {self : Value} {t : Tok} {news : List (Addr × Obj)} {Q : Value → Shared → Prop} (F : Fr h₀ L s.heap m) (N : News h₀ L s.heap news) (hq : (q, methodObj (.ref f) self) ∈ news)
    (h : ∀ it t' h', Fr h₀ L h' m → News h₀ L h' ((it, citObj q t') :: news) → (∀ p ∈ news, p.1 < it) → Q (.ref it) { s with heap := h' }) :
    wpAny (model prog w) A (call (.builtin "iter") [.ref q, .str "" t]) Q E s := by
  refine Calls.call_function_entry kind_iter plain_iter entry_iter (args_iter2 _ _) ?_
  have hT : s.TypeIs (.ref q) "method" := ⟨_, (N _ hq).1, rfl⟩
  show wpAny _ _ (specialOf (.ref q) "__call__" >>= _) _ _ s
  refine wpAny_bind (wpAny_specialOf hT method_call_some ?_)
  show wpAny _ _ (rule "iter.sentinel" >>= _) _ _ s
  refine wpAny_bind (wpAny_rule (wpAny_bind (wpAny_newObj_type (wpAny_pure ⟨_, rfl, ?_⟩))))
  exact h _ _ _ (F.push _) (N.push F _) fun p hp => Heap.lt_size (N p hp).1

theorem borrows_meth {q f : Addr} {self : Value} {o : Obj} {fd : FuncData} {Q : Bool → Shared → Prop} (hq : s.heap.get? q = some (methodObj (.ref f) self)) (hf : s.heap.get? f = some o) (hd : o.data = .func fd) (h : Q true s) :
    wpAny (model prog w) A (borrowsExactly (.ref q)) Q E s := by
  unfold borrowsExactly
  refine wpAny_bind (wpAny_load hq ?_)
  show wpAny _ _ (load f >>= _) _ _ _
  refine wpAny_bind (wpAny_load hf ?_)
  rw [hd]
  exact wpAny_pure h

/-- the turn of an ended one -/
theorem stop_raise {α : Type} {A : Around} (hh : A.handled = none) {Q : α → Shared → Prop} {P : Option Value → Shared → Prop}
    (hP : ∀ h', (∀ b o, s.heap.get? b = some o → h'.get? b = some o) → P none { s with heap := h' }) :
    wpAny (model prog w) A (SmallTypes.stopIteration : Sem α) Q
      (fun e s' => wpAny (model prog w) A (do if ← isInstance e (.type "StopIteration") then pure none else throw e) P E s') s := by
  show wpAny _ _ (newExc (.type "StopIteration") [] >>= _) _ _ _
  refine wpAny_bind ?_
  simp only [newExc, newTuple]
  refine wpAny_bind (wpAny_newObj_type ?_ (by size_fits))
  refine wpAny_bind (m := firstArgMember _ _) (wpAny_of_eq (a := Value.none) (by first | rfl | (simp only [firstArgMember]; rfl)) ?_)
  refine wpAny_newObj_type ?_ (by size_fits)
  simp only [raiseNew]
  refine wpAny_bind (wpAny_handled ?_)
  rw [hh]
  refine wpAny_bind (wpAny_pure (wpAny_throw ?_))
  refine wpAny_bind (wpAny_isInstance (T := "StopIteration") (b := true) ⟨_, Heap.get?_push_size _ rfl, rfl⟩ isSubtype_stop ?_)
  exact wpAny_pure (hP _ fun b o e => Heap.get?_push_of_some _ (Heap.get?_push_of_some _ e))

/-- the number of line ends ahead of place p -/
noncomputable def nlTo (x : Str) (p : Nat) : Int := ((x.cps.toList.take p).count 10 : Nat)
theorem signAt_lt {x : Str} {p : Nat} (h : p < x.cps.toList.length) : signAt x p = ⟨#[x.cps.toList[p]]⟩ := by
  unfold signAt
  congr 1
  apply Array.ext'
  simp [Array.toList_extract, List.take_one, List.head?_drop, List.getElem?_eq_getElem h]
theorem signAt_ge {x : Str} {p : Nat} (h : x.cps.toList.length ≤ p) : signAt x p = ⟨#[]⟩ := by
  unfold signAt
  congr 1
  apply Array.ext'
  simp [Array.toList_extract, List.drop_eq_nil_of_le h]
theorem len_cps (x : Str) : x.length = x.cps.toList.length := by show x.cps.size = _; simp
theorem beq_nl (c : Nat) : ((⟨#[c]⟩ : Str) == ("\n" : Str)) = (c == 10) := by
  have e : ("\n" : Str) = ⟨#[10]⟩ := by decide +kernel
  rw [e]
  by_cases h : c = 10
  · subst h; decide +kernel
  · have : (⟨#[c]⟩ : Str) ≠ ⟨#[10]⟩ := fun q => h (by injection q with q; simpa using q)
    rw [beq_eq_false_iff_ne.mpr this, beq_eq_false_iff_ne.mpr h]
theorem nlTo_succ {x : Str} {p : Nat} (h : p < x.length) : nlTo x (p + 1) = if signAt x p == "\n" then nlTo x p + 1 else nlTo x p := by
  rw [len_cps] at h
  rw [signAt_lt h, beq_nl]
  unfold nlTo
  rw [List.take_add_one, List.getElem?_eq_getElem h, List.count_append]
  simp only [Option.toList, List.count_cons, List.count_nil]
  split <;> simp_all

theorem fn84 (w : World) : ∃ oc od fd osl, (hd.heap_1 w.params).lookup 84 = some ⟨oc, od, .func fd, osl⟩ := ⟨_, _, _, _, by exact rfl⟩

section
variable {dp un : Nat} {gd : Option (List Code)} {env : Env} {outer : List Env} {A₀ : Around} {base : Heap} {tp : Program} {tl : List Str} {mean : ExcName → Option Value} {mg mb : Str → Option Value}

theorem cit_next {a : LexA} {text : Str} {adr : List Addr} {RO : Nat → List (Addr × Obj) → Prop} (Rd : Reader w a.rd text adr RO) (O : a.Ok adr) {c : Int} {wsp : Str} {ws : List Str} {p : Nat} {blk : List (Addr × Obj)}
    (M : MachSt w a RO (c + nlTo text p) wsp ws p blk) {it q : Addr} {t : Tok} (hiq : it ≠ q) (hib : ∀ r ∈ blk, r.1 ≠ it) (hqb : ∀ r ∈ blk, r.1 ≠ q)
    (B : Below A₀ base outer h₀) (F : Fr h₀ L s.heap m) (X : (hd.heap_1 w.params).In h₀) (T : Top tp tl mean mg mb h₀) (hf : env.frame = some L) (hke : env.scope.kind = .function)
    (N : News h₀ L s.heap ((it, citObj q t) :: (q, methodObj (.ref 84) (.ref a.x)) :: blk)) (hd : dp + 10 < recursionLimit) (hu : un + 100 < cLine) (hp : p ≤ text.length)
    {Q : Option Value → Shared → Prop}
    (h1 : p < text.length → ∀ h' tk' t' blk', Fr h₀ L h' m → News h₀ L h' ((it, citObj q t) :: (q, methodObj (.ref 84) (.ref a.x)) :: blk') → MachSt w a RO (c + nlTo text (p + 1)) wsp ws (p + 1) blk' →
      Q (some (.str (signAt text p) t')) { s with heap := h', toks := tk' })
    (h2 : p = text.length → ∀ h' tk' blk', Fr h₀ L h' m → News h₀ L h' ((it, citEnd) :: (q, methodObj (.ref 84) (.ref a.x)) :: blk') → MachSt w a RO (c + nlTo text p) wsp ws p blk' →
      Q none { s with heap := h', toks := tk' }) :
    wpAny (model Challenge.rw_pe0259_02.row.prog w) (Ar dp un gd (env :: outer)) (pyNext (.ref it)) Q E s := by
  have hit := (N (it, citObj q t) (.head _)).1
  have hT : s.TypeIs (.ref it) "callable_iterator" := ⟨_, hit, rfl⟩
  unfold pyNext
  refine wpAny_bind (wpAny_attempt (wpAny_callSpecial?_slot (name := Str.ofString "__next__") hT slot_cit_next
    (wpAny_call_entry slot_cit_next hT entry_cit_next ?_ (args_cit_next _))))
  show wpAny _ _ (field (.ref it) 2 >>= _) _ _ s
  refine wpAny_bind (wpAny_field hit rfl (x := .bool false) rfl ?_)
  show wpAny _ _ (field (.ref it) 0 >>= _) _ _ s
  refine wpAny_bind (wpAny_field hit rfl (x := .ref q) rfl ?_)
  refine wpAny_bind (wpAny_attempt ?_)
  unfold callOutOfASlot
  have hq := (N (q, methodObj (.ref 84) (.ref a.x)) (.tail _ (.head _))).1
  obtain ⟨oc, od, fd, osl, hK⟩ := fn84 w
  have h84 := F.keep _ _ (X _ _ hK)
  refine wpAny_bind (borrows_meth hq h84 rfl ?_)
  refine wpAny_callBorrowed (method_call hq ?_)
  have C : Con w 4 40 84 [.ref a.x] blk (fun _ v blk' => ∃ t, v = .str (signAt text p) t ∧ MachSt w a RO (if signAt text p == "\n" then c + nlTo text p + 1 else c + nlTo text p) wsp ws (min (p + 1) text.length) blk') := by
    obtain ⟨lt, tw, k, l, items, hl, hi, rfl⟩ := M
    refine Con.mono (read_char_c w a text adr RO Rd O _ lt _ items k p l hl) fun n v sel' hQ => ?_
    obtain ⟨t, lt', l', rfl, hl', rfl⟩ := hQ
    exact ⟨t, rfl, lt', tw, k, l', items, hl', hi, rfl⟩
  refine use_gc C (oth := [(it, citObj q t), (q, methodObj (.ref 84) (.ref a.x))]) B F X N T hf hke (fun r hr => .tail _ (.tail _ hr)) ?_ ?_ (by show dp + 4 < recursionLimit; omega) (by show un + 1 + 40 < cLine; omega) ?_
  · exact List.forall_mem_cons.mpr ⟨.head _, List.forall_mem_cons.mpr ⟨.tail _ (.head _), List.forall_mem_nil _⟩⟩
  · exact List.forall_mem_cons.mpr ⟨fun r hr e => hib r hr e.symm, List.forall_mem_cons.mpr ⟨fun r hr e => hqb r hr e.symm, List.forall_mem_nil _⟩⟩
  rintro v blk' h' tk' F' N' - - ⟨t', rfl, M'⟩
  have hit' := (N' (it, citObj q t) (List.mem_append_right _ (.head _))).1
  have hq' := (N' (q, methodObj (.ref 84) (.ref a.x)) (List.mem_append_right _ (.tail _ (.head _)))).1
  have h84' := F'.keep _ _ (X _ _ hK)
  replace N' : News h₀ L h' ((it, citObj q t) :: (q, methodObj (.ref 84) (.ref a.x)) :: blk') := fun r hr => by
    rcases List.mem_cons.mp hr with rfl | hr
    · exact N' _ (List.mem_append_right _ (.head _))
    · rcases List.mem_cons.mp hr with rfl | hr
      · exact N' _ (List.mem_append_right _ (.tail _ (.head _)))
      · exact N' _ (List.mem_append_left _ hr)
  show wpAny _ _ (field (.ref it) 2 >>= _) _ _ _
  refine wpAny_bind (wpAny_field hit' rfl (x := .bool false) rfl ?_)
  show wpAny _ _ (field (.ref it) 1 >>= _) _ _ _
  refine wpAny_bind (wpAny_field hit' rfl (x := .str "" t) rfl ?_)
  refine wpAny_bind (wpAny_holding (eqBool_str ?_))
  rcases Nat.lt_or_ge p text.length with hlt | hge
  · have hne : (("" : Str) == signAt text p) = false := by
      rw [signAt_lt (by rw [← len_cps]; exact hlt)]
      refine beq_eq_false_iff_ne.mpr fun q => ?_
      have e : ("" : Str) = ⟨#[]⟩ := by decide +kernel
      rw [e] at q; injection q with q; simp at q
    rw [hne]
    refine wpAny_pure ⟨_, rfl, ?_⟩
    refine wpAny_pure (h1 hlt h' tk' t' blk' F' N' ?_)
    rw [nlTo_succ hlt]
    rw [Nat.min_eq_left hlt] at M'
    cases hb : signAt text p == "\n" <;> rw [hb] at M' <;> simpa [Int.add_assoc] using M'
  · have e0 : ("" : Str) = ⟨#[]⟩ := by decide +kernel
    have es : signAt text p = "" := by rw [signAt_ge (by rw [← len_cps]; exact hge), e0]
    have hpe : p = text.length := Nat.le_antisymm hp hge
    rw [es]
    rw [show (("" : Str) == ("" : Str)) = true from by decide +kernel]
    show wpAny _ _ (rule _ >>= _) _ _ _
    refine wpAny_bind (wpAny_rule (wpAny_bind ?_))
    show wpAny _ _ (field (.ref it) 0 >>= _) _ _ _
    refine wpAny_bind (wpAny_field hit' rfl (x := .ref q) rfl ?_)
    refine wpAny_bind ?_
    show wpAny _ _ (borrowsExactly (.ref q) >>= _) _ _ _
    refine wpAny_bind (borrows_meth hq' h84' rfl ?_)
    refine wpAny_pure ?_
    have M2 : MachSt w a RO (c + nlTo text p) wsp ws p blk' := by
      rw [es, show (("" : Str) == ("\n" : Str)) = false from by decide +kernel, Nat.min_eq_right (by omega)] at M'
      rw [← hpe] at M'
      exact M'
    have hib' : ∀ r ∈ (q, methodObj (.ref 84) (.ref a.x)) :: blk', r.1 ≠ it := by
      refine List.forall_mem_cons.mpr ⟨Ne.symm hiq, fun r hr e => ?_⟩
      have := MachSt.adrs M2 Rd
      rw [← MachSt.adrs M Rd] at this
      have hm : r.1 ∈ blk.map Prod.fst := this ▸ List.mem_map_of_mem hr
      obtain ⟨r', hr', e'⟩ := List.mem_map.mp hm
      exact hib r' hr' (e'.trans e)
    obtain ⟨F1, N1⟩ := news_upd (pre := []) (d := it) (f := Obj.mapFields (·.setIfInBounds 0 Value.none)) F' N' (fun _ h => nomatch h) hib' rfl rfl
    refine wpAny_bind (wpAny_setField hit' rfl (by simp) ?_)
    have hit1 := (N1 (it, _) (.head _)).1
    obtain ⟨F2, N2⟩ := news_upd (pre := []) (d := it) (f := Obj.mapFields (·.setIfInBounds 1 Value.none)) F1 N1 (fun _ h => nomatch h) hib' rfl rfl
    refine wpAny_bind (wpAny_setField hit1 rfl (by simp) ?_)
    have hit2 := (N2 (it, _) (.head _)).1
    obtain ⟨F3, N3⟩ := news_upd (pre := []) (d := it) (f := Obj.mapFields (·.setIfInBounds 2 (Value.bool true))) F2 N2 (fun _ h => nomatch h) hib' rfl rfl
    refine wpAny_setField hit2 rfl (by simp) ?_
    refine wpAny_mono (stop_raise (Q := fun v s' => False) (P := Q) (E := E) rfl fun h'' hk => ?_) (fun fin s' z => z.elim) (fun e s' z => ?_)
    · refine h2 hpe h'' _ blk' ⟨?_, fun b o e => hk b o (F3.keep b o e), F3.above⟩ (fun r hr => ⟨hk _ _ (N3 r hr).1, (N3 r hr).2⟩) M2
      obtain ⟨oL, es, ep, hL, r⟩ := F3.ns
      exact ⟨oL, es, ep, hk _ _ hL, r⟩
    · exact wpAny_of_in1 z

theorem keep_all {h h' : Heap} {news : List (Addr × Obj)} (F : Fr h₀ L h m) (N : News h₀ L h news) (hk : ∀ b o, h.get? b = some o → h'.get? b = some o) : Fr h₀ L h' m ∧ News h₀ L h' news := by
  obtain ⟨oL, es, ep, hL, r⟩ := F.ns
  exact ⟨⟨⟨oL, es, ep, hk _ _ hL, r⟩, fun b o e => hk b o (F.keep b o e), F.above⟩, fun r hr => ⟨hk _ _ (N r hr).1, (N r hr).2⟩⟩

theorem cit_ended {it : Addr} {news : List (Addr × Obj)} (F : Fr h₀ L s.heap m) (N : News h₀ L s.heap ((it, citEnd) :: news)) {Q : Option Value → Shared → Prop} {A : Around} (hh : A.handled = none)
    (h : ∀ h', Fr h₀ L h' m → News h₀ L h' ((it, citEnd) :: news) → Q none { s with heap := h' }) :
    wpAny (model prog w) A (pyNext (.ref it)) Q E s := by
  have hit := (N (it, citEnd) (.head _)).1
  have hT : s.TypeIs (.ref it) "callable_iterator" := ⟨_, hit, rfl⟩
  unfold pyNext
  refine wpAny_bind (wpAny_attempt (wpAny_callSpecial?_slot (name := Str.ofString "__next__") hT slot_cit_next
    (wpAny_call_entry slot_cit_next hT entry_cit_next ?_ (args_cit_next _))))
  show wpAny _ _ (field (.ref it) 2 >>= _) _ _ s
  refine wpAny_bind (wpAny_field hit rfl (x := .bool true) rfl ?_)
  show wpAny _ _ (rule _ >>= _) _ _ s
  refine wpAny_bind (wpAny_rule ?_)
  refine wpAny_bind ?_
  refine wpAny_mono (stop_raise (A := A.in1) (Q := fun v s' => False) (P := Q) (E := E) hh fun h' hk => ?_) (fun fin s' z => z.elim) (fun e s' z => ?_)
  · obtain ⟨F', N'⟩ := keep_all F N hk
    exact h h' F' N'
  · exact wpAny_of_in1 z

theorem call_read {a : LexA} {text : Str} {adr : List Addr} {RO : Nat → List (Addr × Obj) → Prop} (Rd : Reader w a.rd text adr RO) (O : a.Ok adr) {c : Int} {wsp : Str} {ws : List Str} {p : Nat} {blk : List (Addr × Obj)}
    (M : MachSt w a RO (c + nlTo text p) wsp ws p blk) {it q : Addr} {o1 o2 : Obj} (hib : it ∉ [a.x, a.dx, a.pb, a.st, a.std] ++ adr) (hqb : q ∉ [a.x, a.dx, a.pb, a.st, a.std] ++ adr)
    (B : Below A₀ base outer h₀) (F : Fr h₀ L s.heap m) (X : (hd.heap_1 w.params).In h₀) (T : Top tp tl mean mg mb h₀) (hf : env.frame = some L) (hke : env.scope.kind = .function)
    (N : News h₀ L s.heap ((it, o1) :: (q, o2) :: blk)) (hd : dp + 10 < recursionLimit) (hu : un + 100 < cLine) (hp : p ≤ text.length)
    {Q : Value → Shared → Prop}
    (h : ∀ h' tk' t' blk' p', p' = min (p + 1) text.length → Fr h₀ L h' m → News h₀ L h' ((it, o1) :: (q, o2) :: blk') → MachSt w a RO (c + nlTo text p') wsp ws p' blk' →
      Q (.str (signAt text p) t') { s with heap := h', toks := tk' }) :
    wpAny (model Challenge.rw_pe0259_02.row.prog w) (Ar dp un gd (env :: outer)) (call (.ref 84) [.ref a.x]) Q E s := by
  have had := M.adrs Rd
  have hib' : ∀ r ∈ blk, r.1 ≠ it := fun r hr e => hib (had ▸ e ▸ List.mem_map_of_mem hr)
  have hqb' : ∀ r ∈ blk, r.1 ≠ q := fun r hr e => hqb (had ▸ e ▸ List.mem_map_of_mem hr)
  have C : Con w 4 40 84 [.ref a.x] blk (fun _ v blk' => ∃ t, v = .str (signAt text p) t ∧ MachSt w a RO (if signAt text p == "\n" then c + nlTo text p + 1 else c + nlTo text p) wsp ws (min (p + 1) text.length) blk') := by
    obtain ⟨lt, tw, k, l, items, hl, hi, rfl⟩ := M
    refine Con.mono (read_char_c w a text adr RO Rd O _ lt _ items k p l hl) fun n v sel' hQ => ?_
    obtain ⟨t, lt', l', rfl, hl', rfl⟩ := hQ
    exact ⟨t, rfl, lt', tw, k, l', items, hl', hi, rfl⟩
  refine use_g C (oth := [(it, o1), (q, o2)]) B F X N T hf hke (fun r hr => .tail _ (.tail _ hr)) ?_ ?_ (by omega) (by omega) ?_
  · exact List.forall_mem_cons.mpr ⟨.head _, List.forall_mem_cons.mpr ⟨.tail _ (.head _), List.forall_mem_nil _⟩⟩
  · exact List.forall_mem_cons.mpr ⟨fun r hr e => hib' r hr e.symm, List.forall_mem_cons.mpr ⟨fun r hr e => hqb' r hr e.symm, List.forall_mem_nil _⟩⟩
  rintro v blk' h' tk' F' N' - - ⟨t', rfl, M'⟩
  refine h h' tk' t' blk' _ rfl F' (fun r hr => ?_) ?_
  · rcases List.mem_cons.mp hr with rfl | hr
    · exact N' _ (List.mem_append_right _ (.head _))
    · rcases List.mem_cons.mp hr with rfl | hr
      · exact N' _ (List.mem_append_right _ (.tail _ (.head _)))
      · exact N' _ (List.mem_append_left _ hr)
  · rcases Nat.lt_or_ge p text.length with hlt | hge
    · rw [Nat.min_eq_left hlt] at M' ⊢
      rw [nlTo_succ hlt]
      cases hb : signAt text p == "\n" <;> rw [hb] at M' <;> simpa [Int.add_assoc] using M'
    · have hpe : p = text.length := Nat.le_antisymm hp hge
      have e0 : ("" : Str) = ⟨#[]⟩ := by decide +kernel
      rw [show signAt text p = "" from by rw [signAt_ge (by rw [← len_cps]; exact hge), e0], show (("" : Str) == ("\n" : Str)) = false from by decide +kernel, Nat.min_eq_right (by omega)] at M'
      rw [Nat.min_eq_right (by omega)]
      rw [hpe] at M'
      exact M'

/-- what a turn leaves to be shown: the walk stops ahead of it -/
noncomputable def Left (P : Prop) : Prop := P
/-- the state between two turns of a loop over the signs -/
noncomputable def CS (w : World) (a : LexA) (RO : Nat → List (Addr × Obj) → Prop) (text : Str) (c : Int) (wsp : Str) (it q : Addr) (t : Tok) (h₀ : Heap) (L : Addr) (s₀ : Shared) (exh : Bool) (p : Nat) (m : Str → Option Value) (s : Shared) : Prop :=
  ∃ h tk blk, s = { s₀ with heap := h, toks := tk } ∧ Fr h₀ L h m ∧ News h₀ L h ((it, if exh then citEnd else citObj q t) :: (q, methodObj (.ref 84) (.ref a.x)) :: blk) ∧ MachSt w a RO (c + nlTo text p) wsp [] p blk

theorem for_cit {a : LexA} {text : Str} {adr : List Addr} {RO : Nat → List (Addr × Obj) → Prop} (Rd : Reader w a.rd text adr RO) (O : a.Ok adr) {c : Int} {wsp : Str} {it q : Addr} {t : Tok}
    (hiq : it ≠ q) (hib : it ∉ [a.x, a.dx, a.pb, a.st, a.std] ++ adr) (hqb : q ∉ [a.x, a.dx, a.pb, a.st, a.std] ++ adr)
    (B : Below A₀ base outer h₀) (X : (hd.heap_1 w.params).In h₀) (T : Top tp tl mean mg mb h₀) (hf : env.frame = some L) (hke : env.scope.kind = .function) (hel : env.locals = L) (hkd : env.kindOf "ch" = some .local)
    (hd : dp + 10 < recursionLimit) (hu : un + 100 < cLine)
    {body : List Stmt} {cpos : Pos} {R : Result → Shared → Prop} (J : Bool → Nat → (Str → Option Value) → Prop)
    (turn : ∀ p m t' s', p < text.length → J false p m → CS w a RO text c wsp it q t h₀ L s false (p + 1) (fun y => if y = "ch" then some (.str (signAt text p) t') else m y) s' →
      wpAny (model Challenge.rw_pe0259_02.row.prog w) (Ar dp un gd (env :: outer)) (execs body env) (fun f s₂ => match f with
        | .next | .cont => Left (∃ exh p' m', p < p' ∧ p' ≤ text.length ∧ J exh p' m' ∧ CS w a RO text c wsp it q t h₀ L s exh p' m' s₂)
        | .brk => R (.ok .next) s₂
        | .ret v => R (.ok (.ret v)) s₂) (fun _ _ => False) s')
    (done : ∀ exh p m s', p ≤ text.length → J exh p m → (exh = true ∨ p = text.length) → CS w a RO text c wsp it q t h₀ L s true p m s' → R (.ok .next) s')
    {exh : Bool} {p : Nat} {m : Str → Option Value} {s' : Shared} (hp : p ≤ text.length) (hj : J exh p m) (hs : CS w a RO text c wsp it q t h₀ L s exh p m s') :
    codeAny (model Challenge.rw_pe0259_02.row.prog w) (Ar dp un gd (env :: outer)) (.forLoop (.Name "ch" cpos) (.ref it) body [] env) R s' := by
  refine codeAny_forLoop (fun n s' => ∃ exh p m, p ≤ text.length ∧ n = text.length - p ∧ J exh p m ∧ CS w a RO text c wsp it q t h₀ L s exh p m s') ?_ (text.length - p) ⟨exh, p, m, hp, rfl, hj, hs⟩
  rintro n s₁ ⟨exh, p, m, hp, rfl, hj, h, tk, blk, rfl, F, N, M⟩
  have had := M.adrs Rd
  have hib' : ∀ r ∈ blk, r.1 ≠ it := fun r hr e => hib (had ▸ e ▸ List.mem_map_of_mem hr)
  have hqb' : ∀ r ∈ blk, r.1 ≠ q := fun r hr e => hqb (had ▸ e ▸ List.mem_map_of_mem hr)
  cases exh with
  | true =>
    refine cit_ended (news := (q, methodObj (.ref 84) (.ref a.x)) :: blk) F N rfl fun h' F' N' => ?_
    refine wpAny_execs_nil ?_
    exact done true p m _ hp hj (.inl rfl) ⟨h', tk, blk, rfl, F', N', M⟩
  | false =>
    refine cit_next Rd O M hiq hib' hqb' B F X T hf hke N hd hu hp ?_ ?_
    · intro hlt h' tk' t' blk' F' N' M'
      refine wpAny_assign_Name ?_
      refine wpAny_storeName_local (by rw [hkd]) (by rw [hel]; exact F'.ns) (fun h'' hn hs => ?_) ?_
      · rw [hel] at hs hn
        refine wpAny_mono (turn p m t' _ hlt hj ⟨h'', _, blk', rfl, F'.set hn hs, N'.set hs, M'⟩) (fun f s₂ z => ?_) (fun _ _ z => z.elim)
        cases f with
        | next => obtain ⟨e, p', m', z1, z2, z3, z4⟩ := z; exact ⟨_, Nat.sub_lt_sub_left hlt z1, e, p', m', z2, rfl, z3, z4⟩
        | cont => obtain ⟨e, p', m', z1, z2, z3, z4⟩ := z; exact ⟨_, Nat.sub_lt_sub_left hlt z1, e, p', m', z2, rfl, z3, z4⟩
        | brk => exact z
        | ret v => exact z
      · rw [hke]; rfl
    · intro hpe h' tk' blk' F' N' M'
      refine wpAny_execs_nil ?_
      exact done false p m _ hp hj (.inr hpe) ⟨h', tk', blk', rfl, F', N', M'⟩
end
end
section
local macro_rules | `(tactic| size_fits) => `(tactic| (rw [Str.length_append, sizeLine_eq]; omega))

/-- the locals of get_token -/
noncomputable def gm (x it : Addr) (tok : Str) (tt : Tok) (chv : Option Value) : Str → Option Value :=
  fun y => if y = "ch" then chv else if y = "fiter" then some (.ref it) else if y = "token" then some (.str tok tt) else if y = "self" then some (.ref x) else none

theorem Fr.congr {h₀ h : Heap} {L : Addr} {m m' : Str → Option Value} (F : Fr h₀ L h m) (e : ∀ y, m y = m' y) : Fr h₀ L h m' := funext e ▸ F
theorem gm_ch {x it : Addr} {tok : Str} {tt : Tok} {chv v : Option Value} {m : Str → Option Value} (hm : ∀ y, m y = gm x it tok tt chv y) (y : Str) : (if y = "ch" then v else m y) = gm x it tok tt v y := by
  rw [hm]
  unfold gm
  split <;> rfl
theorem gm_start {x it : Addr} {tok : Str} {tt : Tok} (y : Str) : (if y = "fiter" then some (.ref it) else if y = "token" then some (.str tok tt) else List.lookup y [(Str.ofString "self", Value.ref x)]) = gm x it tok tt none y := by
  unfold gm
  by_cases h1 : y = "ch"
  · subst h1; rfl
  · simp only [if_neg h1]
    by_cases h2 : y = "self"
    · subst h2; rfl
    · simp only [if_neg h2, List.lookup, beq_eq_false_iff_ne.mpr h2]
theorem gm_tt {x it : Addr} {tok tok' : Str} {tt tt' : Tok} {chv : Option Value} (y : Str) :
    (if y = "token" then some (.str tok' tt') else if y = "ch" then chv else if y = "fiter" then some (.ref it) else if y = "token" then some (.str tok tt) else if y = "self" then some (.ref x) else none) = gm x it tok' tt' chv y := by
  unfold gm
  by_cases h1 : y = "token"
  · subst h1; rfl
  · simp only [if_neg h1]
theorem gm_tct {x it : Addr} {tok tok' : Str} {tt tt' : Tok} {chv chv' : Option Value} (y : Str) :
    (if y = "token" then some (.str tok' tt') else if y = "ch" then chv' else if y = "ch" then chv else if y = "fiter" then some (.ref it) else if y = "token" then some (.str tok tt) else if y = "self" then some (.ref x) else none) = gm x it tok' tt' chv' y := by
  unfold gm
  by_cases h1 : y = "token"
  · subst h1; rfl
  · by_cases h2 : y = "ch"
    · subst h2; rfl
    · simp only [if_neg h1, if_neg h2]
theorem allLt_mem {d : Nat} {l : List (Addr × Obj)} (h : AllLt d l) : ∀ p ∈ l, p.1 < d := by
  induction l with
  | nil => intro p hp; cases hp
  | cons x l ih =>
    obtain ⟨h1, h2⟩ := h
    exact List.forall_mem_cons.mpr ⟨h1, ih h2⟩
theorem not_mem_lex {w : World} {a : LexA} {lin wsp : Value} {items : List Value} {k : Nat} {l : List (Addr × Obj)} {adr : List Addr} {d : Addr} (hl : l.map Prod.fst = adr) (h : ∀ r ∈ lexObjs w a lin wsp items k ++ l, r.1 < d) :
    d ∉ [a.x, a.dx, a.pb, a.st, a.std] ++ adr := fun hm => by
  have e : (lexObjs w a lin wsp items k ++ l).map Prod.fst = [a.x, a.dx, a.pb, a.st, a.std] ++ adr := by
    rw [List.map_append, hl]; rfl
  rw [← e] at hm
  obtain ⟨r, hr, e⟩ := List.mem_map.mp hm
  have := h r hr
  rw [e] at this
  exact Nat.lt_irrefl _ this
/-- the signs' numbers from place p on -/
noncomputable abbrev codes (x : Str) (p : Nat) : List Nat := x.cps.toList.drop p
theorem codes_lt {x : Str} {p : Nat} (h : p < x.length) : ∃ c, signAt x p = ⟨#[c]⟩ ∧ codes x p = c :: codes x (p + 1) := by
  rw [len_cps] at h
  exact ⟨_, signAt_lt h, List.drop_eq_getElem_cons h⟩
theorem codes_ge {x : Str} {p : Nat} (h : x.length ≤ p) : codes x p = [] := by
  rw [len_cps] at h
  exact List.drop_eq_nil_of_le h

theorem one_beq (c k : Nat) : ((⟨#[c]⟩ : Str) == ⟨#[k]⟩) = (c == k) := by
  by_cases h : c = k
  · subst h; simp
  · have : (⟨#[c]⟩ : Str) ≠ ⟨#[k]⟩ := fun q => h (by injection q with q; simpa using q)
    rw [beq_eq_false_iff_ne.mpr this, beq_eq_false_iff_ne.mpr h]
theorem q_lit : ("\"" : Str) = ⟨#[34]⟩ := by decide +kernel
theorem b_lit : ("\\" : Str) = ⟨#[92]⟩ := by decide +kernel
theorem app_nil (x : Str) : x ++ (⟨#[]⟩ : Str) = x := by
  apply Str.ext'
  rw [Str.cps_append]; simp
theorem one_len (c : Nat) : (⟨#[c]⟩ : Str).length = 1 := rfl

/-- is the sign one of these white ones -/
noncomputable def inWs (ws : Str) (c : Nat) : Bool := !(Str.occurrences ws ⟨#[c]⟩ 0 ws.length 1).isEmpty
noncomputable def lexQ : List Nat → Str → Str × List Nat
  | [], tok => (tok, [])
  | c :: cs, tok => if c = 34 then (tok, cs) else if c = 92 then (match cs with | [] => (tok, []) | d :: cs' => lexQ cs' (tok ++ ⟨#[d]⟩)) else lexQ cs (tok ++ ⟨#[c]⟩)
noncomputable def lexW (ws : Str) : List Nat → Str → Str × List Nat
  | [], tok => (tok, [])
  | c :: cs, tok => if inWs ws c then (tok, cs) else if c = 92 then (match cs with | [] => (tok, []) | d :: cs' => lexW ws cs' (tok ++ ⟨#[d]⟩)) else lexW ws cs (tok ++ ⟨#[c]⟩)
noncomputable def lex0 (ws : Str) : List Nat → Str × List Nat
  | [] => ("", [])
  | c :: cs => if inWs ws c then lex0 ws cs else if c = 34 then lexQ cs "" else if c = 92 then (match cs with | [] => ("", []) | d :: cs' => lexW ws cs' ("" ++ ⟨#[d]⟩)) else lexW ws cs ("" ++ ⟨#[c]⟩)

theorem lexQ_cons (c : Nat) (cs : List Nat) (tok : Str) : lexQ (c :: cs) tok = if c = 34 then (tok, cs) else if c = 92 then (match cs with | [] => (tok, []) | d :: cs' => lexQ cs' (tok ++ ⟨#[d]⟩)) else lexQ cs (tok ++ ⟨#[c]⟩) := by
  rw [lexQ.eq_def]
theorem lexW_cons (ws : Str) (c : Nat) (cs : List Nat) (tok : Str) : lexW ws (c :: cs) tok = if inWs ws c then (tok, cs) else if c = 92 then (match cs with | [] => (tok, []) | d :: cs' => lexW ws cs' (tok ++ ⟨#[d]⟩)) else lexW ws cs (tok ++ ⟨#[c]⟩) := by
  rw [lexW.eq_def]
theorem lex0_cons (ws : Str) (c : Nat) (cs : List Nat) : lex0 ws (c :: cs) = if inWs ws c then lex0 ws cs else if c = 34 then lexQ cs "" else if c = 92 then (match cs with | [] => ("", []) | d :: cs' => lexW ws cs' ("" ++ ⟨#[d]⟩)) else lexW ws cs ("" ++ ⟨#[c]⟩) := by
  rw [lex0.eq_def]
theorem sign_len (x : Str) (p : Nat) : (signAt x p).length ≤ 1 := by
  rcases Nat.lt_or_ge p x.length with h | h
  · rw [signAt_lt (by rw [← len_cps]; exact h)]; exact Nat.le_refl _
  · rw [signAt_ge (by rw [← len_cps]; exact h)]; exact Nat.zero_le _
theorem lexW_esc {ws text tok : Str} {p c p' : Nat} (hcs : codes text p = c :: codes text (p + 1)) (hw : inWs ws c = false) (h92 : c = 92) (hp' : p' = min (p + 1 + 1) text.length) : lexW ws (codes text p') (tok ++ signAt text (p + 1)) = lexW ws (codes text p) tok := by
  rw [hcs, lexW_cons, hw, h92]
  rcases Nat.lt_or_ge (p + 1) text.length with h | h
  · obtain ⟨d, e1, e2⟩ := codes_lt h
    rw [e2, e1, hp', Nat.min_eq_left h]; simp
  · rw [codes_ge h, signAt_ge (by rw [← len_cps]; exact h), hp', Nat.min_eq_right (by omega), codes_ge (Nat.le_refl _), app_nil]; simp [lexW]
theorem lexQ_esc {text tok : Str} {p c p' : Nat} (hcs : codes text p = c :: codes text (p + 1)) (h92 : c = 92) (hp' : p' = min (p + 1 + 1) text.length) : lexQ (codes text p') (tok ++ signAt text (p + 1)) = lexQ (codes text p) tok := by
  rw [hcs, lexQ_cons, h92]
  rcases Nat.lt_or_ge (p + 1) text.length with h | h
  · obtain ⟨d, e1, e2⟩ := codes_lt h
    rw [e2, e1, hp', Nat.min_eq_left h]; simp
  · rw [codes_ge h, signAt_ge (by rw [← len_cps]; exact h), hp', Nat.min_eq_right (by omega), codes_ge (Nat.le_refl _), app_nil]; simp [lexQ]
theorem lex0_esc {ws text : Str} {p c p' : Nat} (hcs : codes text p = c :: codes text (p + 1)) (hw : inWs ws c = false) (h92 : c = 92) (hp' : p' = min (p + 1 + 1) text.length) : lexW ws (codes text p') ("" ++ signAt text (p + 1)) = lex0 ws (codes text p) := by
  rw [hcs, lex0_cons, hw, h92]
  rcases Nat.lt_or_ge (p + 1) text.length with h | h
  · obtain ⟨d, e1, e2⟩ := codes_lt h
    rw [e2, e1, hp', Nat.min_eq_left h]; simp
  · rw [codes_ge h, signAt_ge (by rw [← len_cps]; exact h), hp', Nat.min_eq_right (by omega), codes_ge (Nat.le_refl _), app_nil]; simp [lexW]

theorem get_token_0 (w : World) (a : LexA) (text : Str) (adr : List Addr) (RO : Nat → List (Addr × Obj) → Prop) (Rd : Reader w a.rd text adr RO) (O : a.Ok adr)
    (c : Int) (wsp : Str) (p : Nat) (blk : List (Addr × Obj)) (M : MachSt w a RO (c + nlTo text p) wsp [] p blk) (hp : p ≤ text.length) (hlen : text.length < 100000) :
   Con w 20 200 91 [.ref a.x] blk (fun _ v blk' => ∃ t p', v = .str (lex0 wsp (codes text p)).1 t ∧ p' ≤ text.length ∧ codes text p' = (lex0 wsp (codes text p)).2 ∧ MachSt w a RO (c + nlTo text p') wsp [] p' blk') := by
  obtain ⟨lt, tw, k, l, items, hl, hi, rfl⟩ := M
  cases hi
  unfold Con
  k_fill
  intro dp un gd outer base g tp tl mean mg mb s R B hg hsz hsel X T hd hu ret
  refine' enter_g B hg hsz hsel X T ?k6 ?k7 ?k8 ?k9 ?kB ?_ ?c2 ?c3 ?c4 ?c5
  (case k6 => k_is); (case k7 => k_is); (case k8 => ktr_room); (case k9 => exact BindsTo.of_eq rfl); (case c5 => decide); (case kB => exact locs rfl); (case c2 => exact rfl); (case c3 => exact rfl); (case c4 => exact rfl)
  k_whole
  intro L' h' tk' F' N' l1
  simp only [lexObjs, List.cons_append, List.nil_append] at N'
  obtain ⟨n1, n2, n3, n4, n5, n6, n7, q1, q2, q3, q4, q5⟩ := id O
  have m3 := not_adr (Rd.adrs p l hl) q3
  (try dsimp only); (try k_fold)
  ((repeat' ((fail_if_success (with_reducible show wpAny _ _ (truthy (Value.ref a.pb)) _ _ _)); (first | (k_unfold; (try dsimp only)) | ((with_reducible first | show wpAny _ _ (exec _ _) _ _ _ | show wpAny _ _ (execs _ _) _ _ _); k_fold) | (k_end; wrow_close) | walk1 | (dsimp only; walk1) | (leave1; (try dsimp only))))) <;> (repeat (k_unfold; (try dsimp only))))
  rename News _ _ _ _ => N1
  refine wpAny_truthy_list (News.isList N1 (by k_mem)) (by decide) ?_
  rw [show (!([] : List Value).toArray.isEmpty) = false from by decide]
  ((repeat' ((fail_if_success (with_reducible show wpAny _ _ (call (Value.builtin "iter") _) _ _ _)); (first | (k_unfold; (try dsimp only)) | ((with_reducible first | show wpAny _ _ (exec _ _) _ _ _ | show wpAny _ _ (execs _ _) _ _ _); k_fold) | (k_end; wrow_close) | walk1 | (dsimp only; walk1) | (leave1; (try dsimp only))))) <;> (repeat (k_unfold; (try dsimp only))))
  rename Addr => q
  rename Fr _ _ _ _ => F2
  rename News _ _ _ _ => N2
  refine iter2 F2 N2 (by k_mem) ?_
  intro it t3 h3 F3 N3 l3
  clear F2 N2
  (try dsimp only)
  ((repeat' ((fail_if_success (with_reducible show wpAny _ _ (exec (Stmt.For _ _ _ _ _) _) _ _ _)); (first | (k_unfold; (try dsimp only)) | ((with_reducible first | show wpAny _ _ (exec _ _) _ _ _ | show wpAny _ _ (execs _ _) _ _ _); k_fold) | (k_end; wrow_close) | walk1 | (dsimp only; walk1) | (leave1; (try dsimp only))))) <;> (repeat (k_unfold; (try dsimp only))))
  rename Fr _ _ _ _ => F4
  rename News _ _ _ _ => N4
  refine wpAny_For ?_
  ((repeat' ((fail_if_success (with_reducible show wpAny _ _ (pyIter _) _ _ _)); (first | (k_unfold; (try dsimp only)) | ((with_reducible first | show wpAny _ _ (exec _ _) _ _ _ | show wpAny _ _ (execs _ _) _ _ _); k_fold) | (k_end; wrow_close) | walk1 | (dsimp only; walk1) | (leave1; (try dsimp only))))) <;> (repeat (k_unfold; (try dsimp only))))
  refine pyIter_cit (N4 (it, _) (.head _)).1 rfl ?_
  (try dsimp only)
  obtain ⟨tt0, F4⟩ : ∃ tt, Fr g L' _ (gm a.x it "" tt none) := ⟨_, Fr.congr F4 gm_start⟩
  have hit0 : it ∉ [a.x, a.dx, a.pb, a.st, a.std] ++ adr := not_mem_lex (w := w) (lin := .int (c + nlTo text p) lt) (wsp := .str wsp tw) (items := []) (k := k) (Rd.adrs p l hl) (fun r hr => l3 r (.tail _ hr))
  have hq0 : q ∉ [a.x, a.dx, a.pb, a.st, a.std] ++ adr := by
    rename (_ < q ∧ _) => hl9
    obtain ⟨e1, e2, e3, e4, e5, e6⟩ := hl9
    refine not_mem_lex (w := w) (lin := .int (c + nlTo text p) lt) (wsp := .str wsp tw) (items := []) (k := k) (Rd.adrs p l hl) ?_
    exact List.forall_mem_cons.mpr ⟨e1, List.forall_mem_cons.mpr ⟨e2, List.forall_mem_cons.mpr ⟨e3, List.forall_mem_cons.mpr ⟨e4, List.forall_mem_cons.mpr ⟨e5, allLt_mem e6⟩⟩⟩⟩⟩
  have hiq : it ≠ q := Nat.ne_of_gt (l3 (q, _) (.head _))
  generalize hres : lex0 wsp (codes text p) = res at ret
  refine' for_cit (env := envOf _ _ L' 91 _) (s := s) (c := c) (wsp := wsp) (exh := false) (q := q) (t := t3) (m := gm a.x it "" tt0 none) Rd O hiq hit0 hq0 B X T rfl rfl rfl rfl ?hd1 ?hu1
    (fun exh p m => ∃ tok tt chv, (∀ y, m y = gm a.x it tok tt chv y) ∧ tok.length ≤ p ∧ (if exh then (tok, codes text p) = res else tok = "" ∧ lex0 wsp (codes text p) = res)) ?turn ?done hp ?hj ?hs
  case hd1 => show dp + 1 + 10 < _; omega
  case hu1 => show un + 3 + 100 < _; omega
  case hj => exact ⟨_, _, _, fun _ => rfl, Nat.zero_le _, rfl, hres⟩
  case hs => exact ⟨_, _, _, rfl, F4, N4, lt, tw, k, l, [], hl, .nil, rfl⟩
  case done =>
    rintro exh p2 m2 s2 hp2 ⟨tok2, tt2, chv2, hm2, htl2, hre2⟩ hend ⟨h7, tk7, blk7, rfl, F7, N7, M7⟩
    have hre3 : (tok2, codes text p2) = res := by
      cases exh with
      | true => exact hre2
      | false =>
        have hpe : p2 = text.length := hend.resolve_left (by decide)
        obtain ⟨e1, e2⟩ := hre2
        have hc := codes_ge (x := text) (p := p2) (by omega)
        rw [hc] at e2 ⊢
        rw [e1, ← e2]; rfl
    clear F4 N4
    replace F7 : Fr g L' h7 (gm a.x it tok2 tt2 chv2) := Fr.congr F7 hm2
    unfold gm at F7
    (try dsimp only)
    ((repeat' (first | (k_unfold; (try dsimp only)) | ((with_reducible first | show wpAny _ _ (exec _ _) _ _ _ | show wpAny _ _ (execs _ _) _ _ _); k_fold) | (k_end; wrow_close) | walk1 | (dsimp only; walk1) | (leave1; (try dsimp only)))) <;> (repeat (k_unfold; (try dsimp only))))
    (try dsimp only)
    rename Fr _ _ _ _ => F9
    rename News _ _ _ _ => N9
    subst hre3
    exact ret _ _ _ _ F9.keep (fun r hr => ⟨(N9 r (.tail _ (.tail _ hr))).1, (N9 r (.tail _ (.tail _ hr))).2.2⟩) ⟨_, p2, rfl, hp2, rfl, M7⟩
  case turn =>
    rintro p m t' s' hlt ⟨tok, tt, chv, hm, htl, htok, hre⟩ ⟨h5, tk5, blk5, rfl, F5, N5, M5⟩
    subst htok
    clear F4 N4
    replace F5 : Fr g L' h5 (gm a.x it "" tt (some (.str (signAt text p) t'))) := Fr.congr F5 (gm_ch hm)
    obtain ⟨lt5, tw5, k5, l5, items5, hl5, hi5, rfl⟩ := M5
    cases hi5
    replace N5 : News g L' h5 ((it, citObj q t3) :: (q, methodObj (.ref 84) (.ref a.x)) :: (lexObjs w a (.int (c + nlTo text (p + 1)) lt5) (.str wsp tw5) [] k5 ++ l5)) := N5
    simp only [lexObjs, List.cons_append, List.nil_append, if_false, Bool.false_eq_true] at N5
    unfold gm at F5
    obtain ⟨cc, hsg, hcs⟩ := codes_lt hlt
    rw [hsg] at F5
    have hone := one_len cc
    (try dsimp only); (try k_fold)
    ((repeat' ((fail_if_success (with_reducible show wpAny _ _ (exec (Stmt.For _ _ _ _ _) _) _ _ _)); (fail_if_success (with_reducible show wpAny _ _ (call (Value.ref 84) _) _ _ _)); (fail_if_success (with_reducible show Left _)); (first | (k_unfold; (try dsimp only)) | ((with_reducible first | show wpAny _ _ (exec _ _) _ _ _ | show wpAny _ _ (execs _ _) _ _ _); k_fold) | (k_end; wrow_close) | walk1 | (dsimp only; walk1) | (leave1; (try dsimp only))))) <;> (repeat (k_unfold; (try dsimp only))))
    · rename ((_ == _) = true) => hb
      rename ((Str.occurrences _ _ _ _ _).isEmpty = true) => hw
      rename Fr _ _ _ _ => F6
      rename News _ _ _ _ => N6
      rw [q_lit, one_beq] at hb
      have hb : cc = 34 := eq_of_beq hb
      have hw : inWs wsp cc = false := by unfold inWs; rw [hw]; rfl
      obtain ⟨p1, hp1e⟩ : ∃ p1, p1 = p + 1 := ⟨_, rfl⟩
      rw [← hp1e] at N6 hcs hl5
      obtain ⟨tok1, tt1, chv1, F6, htl1, hre1⟩ : ∃ tok tt chv, Fr g L' _ (gm a.x it tok tt chv) ∧ tok.length ≤ p1 ∧ lexQ (codes text p1) tok = res := ⟨"", _, _, F6, Nat.zero_le _, by rw [← hre, hcs, lex0_cons, hw, hb]; rfl⟩
      have M6 : MachSt w a RO (c + nlTo text p1) wsp [] p1 _ := ⟨lt5, tw5, k5, l5, [], hl5, .nil, rfl⟩
      have hp1 : p1 ≤ text.length := by omega
      refine wpAny_For ?_
      ((repeat' ((fail_if_success (with_reducible show wpAny _ _ (pyIter _) _ _ _)); (first | (k_unfold; (try dsimp only)) | ((with_reducible first | show wpAny _ _ (exec _ _) _ _ _ | show wpAny _ _ (execs _ _) _ _ _); k_fold) | (k_end; wrow_close) | walk1 | (dsimp only; walk1) | (leave1; (try dsimp only))))) <;> (repeat (k_unfold; (try dsimp only))))
      refine pyIter_cit (N6 (it, _) (.head _)).1 rfl ?_
      (try dsimp only)
      refine' for_cit (env := envOf _ _ L' 91 _) (s := s) (c := c) (wsp := wsp) (exh := false) (q := q) (t := t3) (m := gm a.x it tok1 tt1 chv1) Rd O hiq hit0 hq0 B X T rfl rfl rfl rfl ?hd1 ?hu1
        (fun exh p m => exh = false ∧ ∃ tok tt chv, (∀ y, m y = gm a.x it tok tt chv y) ∧ tok.length ≤ p ∧ lexQ (codes text p) tok = res) ?turn ?done hp1 ?hj ?hs
      case hd1 => omega
      case hu1 => omega
      case hj => exact ⟨rfl, _, _, _, fun _ => rfl, htl1, hre1⟩
      case hs => exact ⟨_, _, _, rfl, F6, N6, M6⟩
      case done =>
        rintro exh p2 m2 s2 hp2 ⟨rfl, tok2, tt2, chv2, hm2, htl2, hre2⟩ hend ⟨h7, tk7, blk7, rfl, F7, N7, M7⟩
        have hpe : p2 = text.length := hend.resolve_left (by decide)
        have hp12 : p < text.length := hlt
        rw [codes_ge (by omega)] at hre2
        (try dsimp only)
        ((repeat' ((fail_if_success (with_reducible show Left _)); (first | (k_unfold; (try dsimp only)) | ((with_reducible first | show wpAny _ _ (exec _ _) _ _ _ | show wpAny _ _ (execs _ _) _ _ _); k_fold) | (k_end; wrow_close) | walk1 | (dsimp only; walk1) | (leave1; (try dsimp only))))) <;> (repeat (k_unfold; (try dsimp only))))
        exact ⟨true, p2, m2, by omega, by omega, ⟨tok2, tt2, chv2, hm2, htl2, by rw [codes_ge (by omega)]; exact hre2⟩, _, _, _, rfl, F7, N7, M7⟩
      case turn =>
        rintro p2 m2 t2 s2 hlt2 ⟨-, tok2, tt2, chv2, hm2, htl2, hre2⟩ ⟨h7, tk7, blk7, rfl, F7, N7, M7⟩
        clear F6 N6
        replace F7 : Fr g L' h7 (gm a.x it tok2 tt2 (some (.str (signAt text p2) t2))) := Fr.congr F7 (gm_ch hm2)
        obtain ⟨lt7, tw7, k7, l7, items7, hl7, hi7, rfl⟩ := M7
        cases hi7
        replace N7 : News g L' h7 ((it, citObj q t3) :: (q, methodObj (.ref 84) (.ref a.x)) :: (lexObjs w a (.int (c + nlTo text (p2 + 1)) lt7) (.str wsp tw7) [] k7 ++ l7)) := N7
        simp only [lexObjs, List.cons_append, List.nil_append, if_false, Bool.false_eq_true] at N7
        unfold gm at F7
        obtain ⟨cd, hsg2, hcs2⟩ := codes_lt hlt2
        rw [hsg2] at F7
        have hone2 := one_len cd
        have hsl2 := sign_len text (p2 + 1)
        (try dsimp only); (try k_fold)
        ((repeat' ((fail_if_success (with_reducible show wpAny _ _ (call (Value.ref 84) _) _ _ _)); (fail_if_success (with_reducible show Left _)); (first | (k_unfold; (try dsimp only)) | ((with_reducible first | show wpAny _ _ (exec _ _) _ _ _ | show wpAny _ _ (execs _ _) _ _ _); k_fold) | (k_end; wrow_close) | walk1 | (dsimp only; walk1) | (leave1; (try dsimp only))))) <;> (repeat (k_unfold; (try dsimp only))))
        · rename ((_ == _) = true) => hb; rw [q_lit, one_beq] at hb; have hb : cd = 34 := eq_of_beq hb; rw [hcs2, lexQ_cons, if_pos hb] at hre2; subst hre2
          (try dsimp only)
          rename Fr _ _ _ _ => F9
          rename News _ _ _ _ => N9
          exact ret _ _ _ _ F9.keep (fun r hr => ⟨(N9 r (.tail _ (.tail _ hr))).1, (N9 r (.tail _ (.tail _ hr))).2.2⟩) ⟨_, p2 + 1, rfl, hlt2, rfl, lt7, tw7, k7, l7, [], hl7, .nil, rfl⟩
        · rename ((_ == _) = true) => hb
          rw [b_lit, one_beq] at hb
          have hb : cd = 92 := eq_of_beq hb
          refine call_read (blk := lexObjs w a (.int (c + nlTo text (p2 + 1)) lt7) (.str wsp tw7) [] k7 ++ l7) (o1 := citObj q t3) (o2 := methodObj (.ref 84) (.ref a.x)) Rd O ⟨lt7, tw7, k7, l7, [], hl7, .nil, rfl⟩ hit0 hq0 B (by assumption) X T rfl rfl (by assumption) (by omega) (by omega) (by omega) ?_
          intro h8 tk8 t8 blk8 p8 hp8 F8 N8 M8
          clear F7 N7
          (try dsimp only)
          ((repeat' ((fail_if_success (with_reducible show Left _)); (first | (k_unfold; (try dsimp only)) | ((with_reducible first | show wpAny _ _ (exec _ _) _ _ _ | show wpAny _ _ (execs _ _) _ _ _); k_fold) | (k_end; wrow_close) | walk1 | (dsimp only; walk1) | (leave1; (try dsimp only))))) <;> (repeat (k_unfold; (try dsimp only))))
          (try dsimp only)
          unfold Left
          rename Fr _ _ _ _ => F9
          rename News _ _ _ _ => N9
          exact ⟨false, p8, _, by omega, by omega, ⟨rfl, tok2 ++ signAt text (p2 + 1), _, _, gm_tct, by rw [Str.length_append]; omega, (lexQ_esc hcs2 hb hp8).trans hre2⟩, _, _, blk8, rfl, F9, N9, M8⟩
        · have hb : cd ≠ 92 := by
            rename ((_ == Str.ofString "\\") = false) => hb
            rw [b_lit, one_beq] at hb
            exact fun e => by rw [e] at hb; cases hb
          have hb2 : cd ≠ 34 := by
            rename ((_ == Str.ofString "\"") = false) => hb9
            rw [q_lit, one_beq] at hb9
            exact fun e => by rw [e] at hb9; cases hb9
          (try dsimp only)
          unfold Left
          rename Fr _ _ _ _ => F9
          rename News _ _ _ _ => N9
          refine ⟨false, p2 + 1, _, by omega, by omega, ⟨rfl, tok2 ++ ⟨#[cd]⟩, _, _, gm_tt, by rw [Str.length_append]; omega, ?_⟩, _, _, _, rfl, F9, N9, lt7, tw7, k7, l7, [], hl7, .nil, rfl⟩
          rw [← hre2, hcs2, lexQ_cons, if_neg hb2, if_neg hb]
    · rename ((_ == _) = true) => hb
      rename ((Str.occurrences _ _ _ _ _).isEmpty = true) => hw
      rw [b_lit, one_beq] at hb
      have hb : cc = 92 := eq_of_beq hb
      have hw : inWs wsp cc = false := by unfold inWs; rw [hw]; rfl
      have hsl := sign_len text (p + 1)
      refine call_read (blk := lexObjs w a (.int (c + nlTo text (p + 1)) lt5) (.str wsp tw5) [] k5 ++ l5) (o1 := citObj q t3) (o2 := methodObj (.ref 84) (.ref a.x)) Rd O ⟨lt5, tw5, k5, l5, [], hl5, .nil, rfl⟩ hit0 hq0 B (by assumption) X T rfl rfl (by assumption) (by omega) (by omega) (by omega) ?_
      intro h8 tk8 t8 blk8 p8 hp8 F8 N8 M8
      clear F5 N5
      (try dsimp only)
      ((repeat' ((fail_if_success (with_reducible show wpAny _ _ (exec (Stmt.For _ _ _ _ _) _) _ _ _)); (fail_if_success (with_reducible show Left _)); (first | (k_unfold; (try dsimp only)) | ((with_reducible first | show wpAny _ _ (exec _ _) _ _ _ | show wpAny _ _ (execs _ _) _ _ _); k_fold) | (k_end; wrow_close) | walk1 | (dsimp only; walk1) | (leave1; (try dsimp only))))) <;> (repeat (k_unfold; (try dsimp only))))
      rename Fr _ _ _ _ => F6
      rename News _ _ _ _ => N6
      obtain ⟨tok1, tt1, chv1, F6, htl1, hre1⟩ : ∃ tok tt chv, Fr g L' _ (gm a.x it tok tt chv) ∧ tok.length ≤ p8 ∧ lexW wsp (codes text p8) tok = res := ⟨"" ++ signAt text (p + 1), _, _, Fr.congr F6 gm_tct, by rw [Str.length_append, show ("" : Str).length = 0 from rfl]; omega, (lex0_esc hcs hw hb hp8).trans hre⟩
      have M6 := M8
      have hp1 : p8 ≤ text.length := by omega
      have hp1e : p + 1 ≤ p8 := by omega
      refine wpAny_For ?_
      ((repeat' ((fail_if_success (with_reducible show wpAny _ _ (pyIter _) _ _ _)); (first | (k_unfold; (try dsimp only)) | ((with_reducible first | show wpAny _ _ (exec _ _) _ _ _ | show wpAny _ _ (execs _ _) _ _ _); k_fold) | (k_end; wrow_close) | walk1 | (dsimp only; walk1) | (leave1; (try dsimp only))))) <;> (repeat (k_unfold; (try dsimp only))))
      refine pyIter_cit (N6 (it, _) (.head _)).1 rfl ?_
      (try dsimp only)
      refine' for_cit (env := envOf _ _ L' 91 _) (s := s) (c := c) (wsp := wsp) (exh := false) (q := q) (t := t3) (m := gm a.x it tok1 tt1 chv1) Rd O hiq hit0 hq0 B X T rfl rfl rfl rfl ?hd1 ?hu1
        (fun exh p m => exh = false ∧ ∃ tok tt chv, (∀ y, m y = gm a.x it tok tt chv y) ∧ tok.length ≤ p ∧ lexW wsp (codes text p) tok = res) ?turn ?done hp1 ?hj ?hs
      case hd1 => omega
      case hu1 => omega
      case hj => exact ⟨rfl, _, _, _, fun _ => rfl, htl1, hre1⟩
      case hs => exact ⟨_, _, _, rfl, F6, N6, M6⟩
      case done =>
        rintro exh p2 m2 s2 hp2 ⟨rfl, tok2, tt2, chv2, hm2, htl2, hre2⟩ hend ⟨h7, tk7, blk7, rfl, F7, N7, M7⟩
        have hpe : p2 = text.length := hend.resolve_left (by decide)
        have hp12 : p < text.length := hlt
        rw [codes_ge (by omega)] at hre2
        (try dsimp only)
        ((repeat' ((fail_if_success (with_reducible show Left _)); (first | (k_unfold; (try dsimp only)) | ((with_reducible first | show wpAny _ _ (exec _ _) _ _ _ | show wpAny _ _ (execs _ _) _ _ _); k_fold) | (k_end; wrow_close) | walk1 | (dsimp only; walk1) | (leave1; (try dsimp only))))) <;> (repeat (k_unfold; (try dsimp only))))
        exact ⟨true, p2, m2, by omega, by omega, ⟨tok2, tt2, chv2, hm2, htl2, by rw [codes_ge (by omega)]; exact hre2⟩, _, _, _, rfl, F7, N7, M7⟩
      case turn =>
        rintro p2 m2 t2 s2 hlt2 ⟨-, tok2, tt2, chv2, hm2, htl2, hre2⟩ ⟨h7, tk7, blk7, rfl, F7, N7, M7⟩
        clear F6 N6
        replace F7 : Fr g L' h7 (gm a.x it tok2 tt2 (some (.str (signAt text p2) t2))) := Fr.congr F7 (gm_ch hm2)
        obtain ⟨lt7, tw7, k7, l7, items7, hl7, hi7, rfl⟩ := M7
        cases hi7
        replace N7 : News g L' h7 ((it, citObj q t3) :: (q, methodObj (.ref 84) (.ref a.x)) :: (lexObjs w a (.int (c + nlTo text (p2 + 1)) lt7) (.str wsp tw7) [] k7 ++ l7)) := N7
        simp only [lexObjs, List.cons_append, List.nil_append, if_false, Bool.false_eq_true] at N7
        unfold gm at F7
        obtain ⟨cd, hsg2, hcs2⟩ := codes_lt hlt2
        rw [hsg2] at F7
        have hone2 := one_len cd
        have hsl2 := sign_len text (p2 + 1)
        (try dsimp only); (try k_fold)
        ((repeat' ((fail_if_success (with_reducible show wpAny _ _ (call (Value.ref 84) _) _ _ _)); (fail_if_success (with_reducible show Left _)); (first | (k_unfold; (try dsimp only)) | ((with_reducible first | show wpAny _ _ (exec _ _) _ _ _ | show wpAny _ _ (execs _ _) _ _ _); k_fold) | (k_end; wrow_close) | walk1 | (dsimp only; walk1) | (leave1; (try dsimp only))))) <;> (repeat (k_unfold; (try dsimp only))))
        · rename ((_ == _) = true) => hb
          rw [b_lit, one_beq] at hb
          have hb : cd = 92 := eq_of_beq hb
          rename ((Str.occurrences _ _ _ _ _).isEmpty = true) => hw
          have hw : inWs wsp cd = false := by unfold inWs; rw [hw]; rfl
          refine call_read (blk := lexObjs w a (.int (c + nlTo text (p2 + 1)) lt7) (.str wsp tw7) [] k7 ++ l7) (o1 := citObj q t3) (o2 := methodObj (.ref 84) (.ref a.x)) Rd O ⟨lt7, tw7, k7, l7, [], hl7, .nil, rfl⟩ hit0 hq0 B (by assumption) X T rfl rfl (by assumption) (by omega) (by omega) (by omega) ?_
          intro h8 tk8 t8 blk8 p8 hp8 F8 N8 M8
          clear F7 N7
          (try dsimp only)
          ((repeat' ((fail_if_success (with_reducible show Left _)); (first | (k_unfold; (try dsimp only)) | ((with_reducible first | show wpAny _ _ (exec _ _) _ _ _ | show wpAny _ _ (execs _ _) _ _ _); k_fold) | (k_end; wrow_close) | walk1 | (dsimp only; walk1) | (leave1; (try dsimp only))))) <;> (repeat (k_unfold; (try dsimp only))))
          (try dsimp only)
          unfold Left
          rename Fr _ _ _ _ => F9
          rename News _ _ _ _ => N9
          exact ⟨false, p8, _, by omega, by omega, ⟨rfl, tok2 ++ signAt text (p2 + 1), _, _, gm_tct, by rw [Str.length_append]; omega, (lexW_esc hcs2 hw hb hp8).trans hre2⟩, _, _, blk8, rfl, F9, N9, M8⟩
        · have hb : cd ≠ 92 := by
            rename ((_ == Str.ofString "\\") = false) => hb
            rw [b_lit, one_beq] at hb
            exact fun e => by rw [e] at hb; cases hb
          rename ((Str.occurrences _ _ _ _ _).isEmpty = true) => hw
          have hw : inWs wsp cd = false := by unfold inWs; rw [hw]; rfl
          (try dsimp only)
          unfold Left
          rename Fr _ _ _ _ => F9
          rename News _ _ _ _ => N9
          refine ⟨false, p2 + 1, _, by omega, by omega, ⟨rfl, tok2 ++ ⟨#[cd]⟩, _, _, gm_tt, by rw [Str.length_append]; omega, ?_⟩, _, _, _, rfl, F9, N9, lt7, tw7, k7, l7, [], hl7, .nil, rfl⟩
          rw [← hre2, hcs2, lexW_cons, hw, if_neg (by decide), if_neg hb]
        · rename ((Str.occurrences _ _ _ _ _).isEmpty = false) => hw; have hw : inWs wsp cd = true := by (unfold inWs; rw [hw]; rfl)
          rw [hcs2, lexW_cons, if_pos hw] at hre2; subst hre2
          (try dsimp only)
          rename Fr _ _ _ _ => F9
          rename News _ _ _ _ => N9
          exact ret _ _ _ _ F9.keep (fun r hr => ⟨(N9 r (.tail _ (.tail _ hr))).1, (N9 r (.tail _ (.tail _ hr))).2.2⟩) ⟨_, p2 + 1, rfl, hlt2, rfl, lt7, tw7, k7, l7, [], hl7, .nil, rfl⟩
    · have hb : cc ≠ 92 := by
        rename ((_ == Str.ofString "\\") = false) => hb9
        rw [b_lit, one_beq] at hb9
        exact fun e => by rw [e] at hb9; cases hb9
      have hb2 : cc ≠ 34 := by
        rename ((_ == Str.ofString "\"") = false) => hb9
        rw [q_lit, one_beq] at hb9
        exact fun e => by rw [e] at hb9; cases hb9
      rename ((Str.occurrences _ _ _ _ _).isEmpty = true) => hw
      have hw : inWs wsp cc = false := by unfold inWs; rw [hw]; rfl
      rename Fr _ _ _ _ => F6
      rename News _ _ _ _ => N6
      obtain ⟨p1, hp1e⟩ : ∃ p1, p1 = p + 1 := ⟨_, rfl⟩
      rw [← hp1e] at N6 hcs hl5
      obtain ⟨tok1, tt1, chv1, F6, htl1, hre1⟩ : ∃ tok tt chv, Fr g L' _ (gm a.x it tok tt chv) ∧ tok.length ≤ p1 ∧ lexW wsp (codes text p1) tok = res := ⟨"" ++ ⟨#[cc]⟩, _, _, Fr.congr F6 gm_tt, by rw [Str.length_append, show ("" : Str).length = 0 from rfl]; omega, by rw [← hre, hcs, lex0_cons, hw, if_neg (by decide), if_neg hb2, if_neg hb]⟩
      have M6 : MachSt w a RO (c + nlTo text p1) wsp [] p1 _ := ⟨lt5, tw5, k5, l5, [], hl5, .nil, rfl⟩
      have hp1 : p1 ≤ text.length := by omega
      refine wpAny_For ?_
      ((repeat' ((fail_if_success (with_reducible show wpAny _ _ (pyIter _) _ _ _)); (first | (k_unfold; (try dsimp only)) | ((with_reducible first | show wpAny _ _ (exec _ _) _ _ _ | show wpAny _ _ (execs _ _) _ _ _); k_fold) | (k_end; wrow_close) | walk1 | (dsimp only; walk1) | (leave1; (try dsimp only))))) <;> (repeat (k_unfold; (try dsimp only))))
      refine pyIter_cit (N6 (it, _) (.head _)).1 rfl ?_
      (try dsimp only)
      refine' for_cit (env := envOf _ _ L' 91 _) (s := s) (c := c) (wsp := wsp) (exh := false) (q := q) (t := t3) (m := gm a.x it tok1 tt1 chv1) Rd O hiq hit0 hq0 B X T rfl rfl rfl rfl ?hd1 ?hu1
        (fun exh p m => exh = false ∧ ∃ tok tt chv, (∀ y, m y = gm a.x it tok tt chv y) ∧ tok.length ≤ p ∧ lexW wsp (codes text p) tok = res) ?turn ?done hp1 ?hj ?hs
      case hd1 => omega
      case hu1 => omega
      case hj => exact ⟨rfl, _, _, _, fun _ => rfl, htl1, hre1⟩
      case hs => exact ⟨_, _, _, rfl, F6, N6, M6⟩
      case done =>
        rintro exh p2 m2 s2 hp2 ⟨rfl, tok2, tt2, chv2, hm2, htl2, hre2⟩ hend ⟨h7, tk7, blk7, rfl, F7, N7, M7⟩
        have hpe : p2 = text.length := hend.resolve_left (by decide)
        have hp12 : p < text.length := hlt
        rw [codes_ge (by omega)] at hre2
        (try dsimp only)
        ((repeat' ((fail_if_success (with_reducible show Left _)); (first | (k_unfold; (try dsimp only)) | ((with_reducible first | show wpAny _ _ (exec _ _) _ _ _ | show wpAny _ _ (execs _ _) _ _ _); k_fold) | (k_end; wrow_close) | walk1 | (dsimp only; walk1) | (leave1; (try dsimp only))))) <;> (repeat (k_unfold; (try dsimp only))))
        exact ⟨true, p2, m2, by omega, by omega, ⟨tok2, tt2, chv2, hm2, htl2, by rw [codes_ge (by omega)]; exact hre2⟩, _, _, _, rfl, F7, N7, M7⟩
      case turn =>
        rintro p2 m2 t2 s2 hlt2 ⟨-, tok2, tt2, chv2, hm2, htl2, hre2⟩ ⟨h7, tk7, blk7, rfl, F7, N7, M7⟩
        clear F6 N6
        replace F7 : Fr g L' h7 (gm a.x it tok2 tt2 (some (.str (signAt text p2) t2))) := Fr.congr F7 (gm_ch hm2)
        obtain ⟨lt7, tw7, k7, l7, items7, hl7, hi7, rfl⟩ := M7
        cases hi7
        replace N7 : News g L' h7 ((it, citObj q t3) :: (q, methodObj (.ref 84) (.ref a.x)) :: (lexObjs w a (.int (c + nlTo text (p2 + 1)) lt7) (.str wsp tw7) [] k7 ++ l7)) := N7
        simp only [lexObjs, List.cons_append, List.nil_append, if_false, Bool.false_eq_true] at N7
        unfold gm at F7
        obtain ⟨cd, hsg2, hcs2⟩ := codes_lt hlt2
        rw [hsg2] at F7
        have hone2 := one_len cd
        have hsl2 := sign_len text (p2 + 1)
        (try dsimp only); (try k_fold)
        ((repeat' ((fail_if_success (with_reducible show wpAny _ _ (call (Value.ref 84) _) _ _ _)); (fail_if_success (with_reducible show Left _)); (first | (k_unfold; (try dsimp only)) | ((with_reducible first | show wpAny _ _ (exec _ _) _ _ _ | show wpAny _ _ (execs _ _) _ _ _); k_fold) | (k_end; wrow_close) | walk1 | (dsimp only; walk1) | (leave1; (try dsimp only))))) <;> (repeat (k_unfold; (try dsimp only))))
        · rename ((_ == _) = true) => hb
          rw [b_lit, one_beq] at hb
          have hb : cd = 92 := eq_of_beq hb
          rename ((Str.occurrences _ _ _ _ _).isEmpty = true) => hw
          have hw : inWs wsp cd = false := by unfold inWs; rw [hw]; rfl
          refine call_read (blk := lexObjs w a (.int (c + nlTo text (p2 + 1)) lt7) (.str wsp tw7) [] k7 ++ l7) (o1 := citObj q t3) (o2 := methodObj (.ref 84) (.ref a.x)) Rd O ⟨lt7, tw7, k7, l7, [], hl7, .nil, rfl⟩ hit0 hq0 B (by assumption) X T rfl rfl (by assumption) (by omega) (by omega) (by omega) ?_
          intro h8 tk8 t8 blk8 p8 hp8 F8 N8 M8
          clear F7 N7
          (try dsimp only)
          ((repeat' ((fail_if_success (with_reducible show Left _)); (first | (k_unfold; (try dsimp only)) | ((with_reducible first | show wpAny _ _ (exec _ _) _ _ _ | show wpAny _ _ (execs _ _) _ _ _); k_fold) | (k_end; wrow_close) | walk1 | (dsimp only; walk1) | (leave1; (try dsimp only))))) <;> (repeat (k_unfold; (try dsimp only))))
          (try dsimp only)
          unfold Left
          rename Fr _ _ _ _ => F9
          rename News _ _ _ _ => N9
          exact ⟨false, p8, _, by omega, by omega, ⟨rfl, tok2 ++ signAt text (p2 + 1), _, _, gm_tct, by rw [Str.length_append]; omega, (lexW_esc hcs2 hw hb hp8).trans hre2⟩, _, _, blk8, rfl, F9, N9, M8⟩
        · have hb : cd ≠ 92 := by
            rename ((_ == Str.ofString "\\") = false) => hb
            rw [b_lit, one_beq] at hb
            exact fun e => by rw [e] at hb; cases hb
          rename ((Str.occurrences _ _ _ _ _).isEmpty = true) => hw
          have hw : inWs wsp cd = false := by unfold inWs; rw [hw]; rfl
          (try dsimp only)
          unfold Left
          rename Fr _ _ _ _ => F9
          rename News _ _ _ _ => N9
          refine ⟨false, p2 + 1, _, by omega, by omega, ⟨rfl, tok2 ++ ⟨#[cd]⟩, _, _, gm_tt, by rw [Str.length_append]; omega, ?_⟩, _, _, _, rfl, F9, N9, lt7, tw7, k7, l7, [], hl7, .nil, rfl⟩
          rw [← hre2, hcs2, lexW_cons, hw, if_neg (by decide), if_neg hb]
        · rename ((Str.occurrences _ _ _ _ _).isEmpty = false) => hw; have hw : inWs wsp cd = true := by (unfold inWs; rw [hw]; rfl)
          rw [hcs2, lexW_cons, if_pos hw] at hre2; subst hre2
          (try dsimp only)
          rename Fr _ _ _ _ => F9
          rename News _ _ _ _ => N9
          exact ret _ _ _ _ F9.keep (fun r hr => ⟨(N9 r (.tail _ (.tail _ hr))).1, (N9 r (.tail _ (.tail _ hr))).2.2⟩) ⟨_, p2 + 1, rfl, hlt2, rfl, lt7, tw7, k7, l7, [], hl7, .nil, rfl⟩
    · rename ((Str.occurrences _ _ _ _ _).isEmpty = false) => hw
      have hw : inWs wsp cc = true := by unfold inWs; rw [hw]; rfl
      (try dsimp only)
      unfold Left
      rename Fr _ _ _ _ => F9
      rename News _ _ _ _ => N9
      exact ⟨false, p + 1, _, by omega, by omega, ⟨"", _, _, fun _ => rfl, Nat.zero_le _, rfl, by rw [← hre, hcs, lex0_cons, hw]; rfl⟩, _, _, _, rfl, F9, N9, lt5, tw5, k5, l5, [], hl5, .nil, rfl⟩
end

theorem slice_sign {x : Str} {p : Nat} (h : p ≤ x.length) : Txt.slice x (some (p : Int)) (some ((p : Int) + 1)) = signAt x p := by
  rcases Nat.lt_or_ge p x.length with hlt | hge
  · have e := beq_iff_eq.mp (slice_closesL (x := x) (i := (p : Int)) (j := (p : Int) + 1) (by omega) (by omega) (by omega))
    rw [e, signAt_lt (by rw [← len_cps]; exact hlt)]
    have h2 : p < x.cps.toList.length := by rw [← len_cps]; exact hlt
    have e1 : ((p : Int) + 1 - (p : Int)).toNat = 1 := by omega
    simp [e1, List.take_one, List.head?_drop, List.getElem?_eq_getElem h2]
  · have hpe : p = x.length := Nat.le_antisymm h hge
    rw [signAt_ge (by rw [← len_cps]; exact hge)]
    have e : Builtin.Str.strSliceIndices (some (p : Int)) (some ((p : Int) + 1)) 1 x.length = [] := by
      unfold Builtin.Str.strSliceIndices
      subst hpe
      simp [sliceRange]
      omega
    unfold Txt.slice
    rw [e]
    split
    · rename_i h9
      have h0 : 0 = x.length := by simpa using h9
      have h1 : x.cps = #[] := Array.size_eq_zero_iff.mp h0.symm
      cases x; cases h1; rfl
    · rfl
theorem reader_of (w : World) (text : Str) (rd c atl cA cT : Addr) (oc oA oT : Obj) (name qual : Str) (params : Arguments) (body : List Stmt) (scope : Scope) (doc pm ct : Value) (vs : Array Value) (tq tt : Tok)
    (hdef : nestedDef ((hd.heap_1 w.params).lookup 178) 1 = some (params, body, scope)) (hcd : oc.data = .fields vs) (hvs : vs[1]? = some (.str qual tq)) (hA : oA.data = .cell (some (.ref atl))) (hT : oT.data = .cell (some (.str text tt)))
    (n1 : atl ≠ rd) (n2 : atl ≠ c) (n3 : atl ≠ cA) (n4 : atl ≠ cT) (hlen : text.length < 100000) :
    Reader w rd text [rd, c, atl, cA, cT] (fun p l => p ≤ text.length ∧ ∃ tk k, l = [(rd, { cls := .type "function", data := .func (fnX name qual params body scope [("text", cT), ("at", cA)] .none .none doc pm none (.ref c) ct) }), (c, oc), (atl, listOf #[.int p tk] k), (cA, oA), (cT, oT)]) := by
  refine ⟨?_, ?_, ?_⟩
  · rintro p l ⟨-, tk, k, rfl⟩; rfl
  · rintro p l ⟨-, tk, k, rfl⟩; exact ⟨_, _, .head _, rfl⟩
  rintro p l t ⟨hp, tk, k, rfl⟩
  revert hdef
  unfold Con
  k_fill
  intro hdef dp un gd outer base g tp tl mean mg mb s R B hg hsz hsel X T hd hu ret
  refine' nested_out ?hl hdef ?_
  (case hl => k_is)
  clear hdef
  intro hdef
  cases hdef
  refine' enter_m hg hsz hsel T (.head _) rfl (.tail _ (.head _)) hcd hvs ?k8 ?k9 ?kB ?_ ?c2 ?c3 ?c4 ?c5
  (case k8 => k_room); (case k9 => exact BindsTo.of_eq rfl); (case c5 => decide); (case kB => exact locs rfl); (case c2 => exact rfl); (case c3 => exact rfl); (case c4 => exact rfl)
  intro L' h' tk' F' N' l1
  (try dsimp only); (try k_fold)
  ((repeat' (first | ((with_reducible show wpAny _ _ (eval (Expr.Name (Str.ofString "text") _) _) _ _ _); refine nameX_F (x := "text") (by assumption) rfl (by k_mem) hT ?_) | ((with_reducible show wpAny _ _ (eval (Expr.Name (Str.ofString "at") _) _) _ _ _); refine nameX_F (x := "at") (by assumption) rfl (by k_mem) hA ?_) | (k_unfold; (try dsimp only)) | ((with_reducible first | show wpAny _ _ (exec _ _) _ _ _ | show wpAny _ _ (execs _ _) _ _ _); k_fold) | (k_end; wrow_close) | walk1 | (dsimp only; walk1) | (leave1; (try dsimp only)))) <;> (repeat (k_unfold; (try dsimp only))))
  have e0 : ([(p : Int)].getD (Int.toNat 0) 0) = (p : Int) := rfl
  rw [e0, slice_sign hp]
  rename Fr _ _ _ _ => F9
  rename News _ _ _ _ => N9
  rw [e0, slice_sign hp] at N9
  have e1 : ((p : Int) + ((signAt text p).length : Nat)) = ((min (p + 1) text.length : Nat) : Int) := by
    rcases Nat.lt_or_ge p text.length with hlt | hge
    · rw [signAt_lt (by rw [← len_cps]; exact hlt), Nat.min_eq_left hlt]; rfl
    · rw [signAt_ge (by rw [← len_cps]; exact hge), Nat.min_eq_right (by omega), Nat.le_antisymm hp hge]; simp [Str.length]
  rw [e1] at N9
  refine ret _ _ _ _ F9.keep (fun r hr => ⟨(N9 r hr).1, (N9 r hr).2.2⟩) ⟨⟨Nat.min_le_right _ _, ?_, k, ?_⟩, _, rfl⟩
  rotate_left
  exact rfl

section
variable {prog : Program} {w : World} {A : Around} {s : Shared} {env : Env} {h₀ : Heap} {L : Addr}

/-- the end of a turn -/
noncomputable def TurnEnd (h₀ : Heap) (L : Addr) (J : (Str → Option Value) → List (Addr × Obj) → Prop) (own : List (Addr × Obj)) (wr : List Addr) (s s₂ : Shared) : Prop :=
  Left (∃ h' tk m' nx news', s₂ = { s with heap := h', toks := tk } ∧ Fr h₀ L h' m' ∧ News h₀ L h' news' ∧ (∀ p ∈ own, p ∈ news') ∧ (∀ p ∈ nx, p ∈ news') ∧ (∀ p ∈ nx, p.1 ∉ wr) ∧ J m' nx)

theorem for_W {R : Result → Shared → Prop} {x : Str} {px : Pos} {body : List Stmt} {I : Addr} {fp wr : List Addr} {n : Nat} {P : Nat → Value → Prop} {St : Nat → Heap → Prop} {m : Str → Option Value}
    {news : List (Addr × Obj)} (W : Walks prog w A I fp wr n P St) (hx : env.kindOf x = some .local) (hk : env.scope.kind = .function) (hL : env.locals = L)
    (hLf : L ∉ fp) (hwr : ∀ b ∈ wr, h₀.get? b = none) (hnw : ∀ p ∈ news, p.1 ∉ wr)
    (hst : St 0 s.heap) (F : Fr h₀ L s.heap m) (N : News h₀ L s.heap news)
    (J : Nat → (Str → Option Value) → List (Addr × Obj) → Prop) (h0 : J 0 m news)
    (turn : ∀ i v m₁ news₁ h tk own, i < n → P i v → J i m₁ news₁ → (∀ p ∈ news₁, p.1 ∉ wr) → (∀ p ∈ own, p.1 ∈ fp) → (∀ p ∈ own, h.get? p.1 = some p.2) → (∀ b ∈ fp, h₀.get? b = none → ∀ o, h.get? b = some o → (b, o) ∈ own) → St (i + 1) h → Fr h₀ L h (fun y => if y = x then some v else m₁ y) → News h₀ L h (news₁ ++ own) →
      wpAny (model prog w) A (execs body env) (fun f s₂ => match f with
        | .next | .cont => TurnEnd h₀ L (J (i + 1)) own wr s s₂
        | .brk => R (.ok .next) s₂
        | .ret v => R (.ok (.ret v)) s₂) (fun _ _ => False) { s with heap := h, toks := tk })
    (done : ∀ m' news' h' tk, J n m' news' → Fr h₀ L h' m' → News h₀ L h' news' → R (.ok .next) { s with heap := h', toks := tk }) :
    codeAny (model prog w) A (.forLoop (.Name x px) (.ref I) body [] env) R s := by
  subst hL
  refine codeAny_forLoop_frV W hx (by rw [hk]; rfl) hLf hwr hnw hst F N J h0 ?_ (fun h' tk m' news' F' N' _ hJ => done m' news' h' tk hJ F' N')
  rintro i v m₁ news₁ s₁ own ⟨h, tk, rfl⟩ hi hP hJ hn ho ho2 ho3 hS F₁ N₁
  refine wpAny_mono (turn i v m₁ news₁ h tk own hi hP hJ hn ho ho2 ho3 hS F₁ fun p hp => N₁ p (List.mem_append.mpr (List.mem_append.mp hp).symm)) (fun f s₂ z => ?_) (fun _ _ z => z.elim)
  have key : TurnEnd h₀ env.locals (J (i + 1)) own wr s s₂ → LoopStepU h₀ env.locals wr own (J (i + 1)) { s with heap := h, toks := tk } .next s₂ := by
    rintro ⟨h', tk', m', nx, news', rfl, F', N', k1, k2, k3, k4⟩
    exact ⟨rfl, h', tk', m', nx, rfl, F', fun p hp => N' p ((List.mem_append.mp hp).elim (k1 p) (k2 p)), k3, k4⟩
  cases f with
  | next => exact .next (key z)
  | cont => exact .cont (key z)
  | brk => exact .brk z
  | ret v => exact .ret z

theorem new_none {h : Heap} {m : Str → Option Value} (F : Fr h₀ L h m) : h₀.get? h.objs.size = none := by
  cases q : h₀.get? h.objs.size with
  | none => rfl
  | some o => exact absurd (Heap.lt_size (F.keep _ _ q)) (Nat.lt_irrefl _)

theorem pyIter_str {E : Value → Shared → Prop} {x : Str} {t : Tok} {Q : Value → Shared → Prop}
    (hQ : ∀ (o : Obj) (St : Nat → Heap → Prop), (∀ A' : Around, A'.handled = none → Walks prog w A' s.heap.objs.size [s.heap.objs.size] [s.heap.objs.size] x.cps.size (SignAt x) St) → (∀ i h, St i h → ∃ o, h.get? s.heap.objs.size = some o) → St 0 (s.heap.push o) →
      Q (.ref s.heap.objs.size) { s with heap := s.heap.push o }) : wpAny (model prog w) A (pyIter (.str x t)) Q E s := by
  cases ha : x.cps.all (· < 128)
  · exact wpAny_pyIter_wide ha (hQ _ _ (fun A' hA => Walks.strWide hA _ x t) (fun _ _ z => let ⟨o, e, _⟩ := z; ⟨o, e⟩) ⟨_, Heap.get?_push_size _ rfl, rfl, rfl⟩)
  · exact wpAny_pyIter_ascii ha (hQ _ _ (fun A' hA => Walks.strAscii hA _ x t) (fun _ _ z => let ⟨o, e, _⟩ := z; ⟨o, e⟩) ⟨_, Heap.get?_push_size _ rfl, rfl, rfl⟩)

/-- a for over a text's signs -/
theorem for_str {R : Result → Shared → Prop} {E : Value → Shared → Prop} {x y : Str} {t : Tok} {px : Pos} {body : List Stmt} {m : Str → Option Value} {news : List (Addr × Obj)} (hh : A.handled = none)
    (hx : env.kindOf y = some .local) (hk : env.scope.kind = .function) (hL : env.locals = L) (F : Fr h₀ L s.heap m) (N : News h₀ L s.heap news)
    (J : Nat → (Str → Option Value) → List (Addr × Obj) → Prop) (h0 : J 0 m news)
    (turn : ∀ i c u m₁ news₁ h tk I oI, x.cps[i]? = some c → J i m₁ news₁ → (∀ p ∈ news₁, p.1 ≠ I) → Fr h₀ L h (fun z => if z = y then some (.str ⟨#[c]⟩ u) else m₁ z) → News h₀ L h (news₁ ++ [(I, oI)]) →
      wpAny (model prog w) A (execs body env) (fun f s₂ => match f with
        | .next | .cont => Left (∃ h' tk m' nx, s₂ = { s with heap := h', toks := tk } ∧ Fr h₀ L h' m' ∧ News h₀ L h' (nx ++ [(I, oI)]) ∧ (∀ p ∈ nx, p.1 ≠ I) ∧ J (i + 1) m' nx)
        | .brk => R (.ok .next) s₂
        | .ret v => R (.ok (.ret v)) s₂) (fun _ _ => False) { s with heap := h, toks := tk })
    (done : ∀ m' news' h' tk, J x.cps.size m' news' → Fr h₀ L h' m' → News h₀ L h' news' → R (.ok .next) { s with heap := h', toks := tk }) :
    wpAny (model prog w) A (pyIter (.str x t)) (fun it s₂ => codeAny (model prog w) A (.forLoop (.Name y px) it body [] env) R s₂) E s := by
  refine pyIter_str fun o St W hSt hst => ?_
  have hLn : L < s.heap.objs.size := F.ns.lt
  have hn0 := new_none F
  refine for_W (s := { s with heap := s.heap.push o }) (W A hh) hx hk hL (by simpa using Nat.ne_of_lt hLn) (by simpa using hn0) (fun p hp => by simpa using Nat.ne_of_lt (Heap.lt_size (N p hp).1)) hst (F.push o)
    (fun p hp => ⟨Heap.get?_push_of_some _ (N p hp).1, (N p hp).2⟩) J h0 ?_ (fun m' news' h' tk hJ F' N' => done m' news' h' tk hJ F' N')
  intro i v m₁ news₁ h tk own hi hP hJ hnw ho ho2 ho3 hS F₁ N₁
  obtain ⟨c, u, hc, rfl⟩ := hP
  obtain ⟨oI, hoI⟩ := hSt _ _ hS
  have hIo : (s.heap.objs.size, oI) ∈ own := ho3 _ (.head _) hn0 _ hoI
  refine wpAny_mono (turn i c u m₁ news₁ h tk s.heap.objs.size oI hc hJ (fun p hp => by simpa using hnw p hp) F₁ ?_) (fun f s₂ z => ?_) (fun _ _ z => z)
  · intro p hp
    rcases List.mem_append.mp hp with hp | hp
    · exact N₁ p (List.mem_append_left _ hp)
    · rw [List.mem_singleton.mp hp]; exact N₁ _ (List.mem_append_right _ hIo)
  have key : (∃ h' tk m' nx, s₂ = { s with heap := h', toks := tk } ∧ Fr h₀ L h' m' ∧ News h₀ L h' (nx ++ [(s.heap.objs.size, oI)]) ∧ (∀ p ∈ nx, p.1 ≠ s.heap.objs.size) ∧ J (i + 1) m' nx) → TurnEnd h₀ L (J (i + 1)) own [s.heap.objs.size] { s with heap := s.heap.push o } s₂ := by
    rintro ⟨h', tk', m', nx, rfl, F', N', k1, k2⟩
    refine ⟨h', tk', m', nx, _, rfl, F', N', fun p hp => ?_, fun p hp => List.mem_append_left _ hp, fun p hp => by simpa using k1 p hp, k2⟩
    have e1 : p.1 = s.heap.objs.size := by simpa using ho p hp
    have e2 := ho2 p hp
    rw [e1, hoI] at e2
    refine List.mem_append_right _ (List.mem_singleton.mpr ?_)
    obtain ⟨p1, p2⟩ := p
    simp only at e1 e2
    rw [e1, Option.some.inj e2]
  cases f with
  | next => exact key z
  | cont => exact key z
  | brk => exact z
  | ret v => exact z
end
section
theorem news_ne {h₀ h : Heap} {L : Addr} {news : List (Addr × Obj)} {a b : Addr} {o1 o2 : Obj} (N : News h₀ L h news) (h1 : (a, o1) ∈ news) (h2 : (b, o2) ∈ news) (ho : o1.cls ≠ o2.cls) : a ≠ b := fun e => by
  have e1 := (N _ h1).1
  have e2 := (N _ h2).1
  simp only at e1 e2
  rw [e, e2] at e1
  exact ho (by rw [Option.some.inj e1])
local macro_rules | `(tactic| k_ne) => `(tactic| first | assumption | (refine Ne.symm ?_; assumption) | (refine neN ?_; (try dsimp only); omega) | (refine news_ne (by assumption) (by k_mem) (by k_mem) ?_; first | (intro e; exact absurd (Value.type.inj e) (by decide)) | (intro e; cases e; done)))

/-- the locals of Whitespace.__init__ -/
noncomputable def wm (x cl : Addr) (text : Str) (t ts tt : Tok) (b n nt : Int) (tb tn tnt : Tok) (chv : Option Value) : Str → Option Value :=
  fun y => if y = "ch" then chv else if y = "nt" then some (.int nt tnt) else if y = "n" then some (.int n tn) else if y = "b" then some (.int b tb) else if y = "count" then some (.ref cl)
    else if y = "T" then some (.str "\t" tt) else if y = "S" then some (.str " " ts) else if y = "ws" then some (.str text t) else if y = "self" then some (.ref x) else none

/-- what __init__ counts: the runs, the blanks at the end, the signs, the tabs -/
structure WsSt where
  count : List Int
  b : Nat
  n : Nat
  nt : Nat
noncomputable def grow (c : List Int) (b : Nat) : List Int := if b ≥ c.length then c ++ List.replicate (b - c.length + 1) 0 else c
noncomputable def wsStep (s : WsSt) (c : Nat) : WsSt :=
  if c = 32 then ⟨s.count, s.b + 1, s.n + 1, s.nt⟩ else ⟨(grow s.count s.b).set s.b ((grow s.count s.b).getD s.b 0 + 1), 0, s.n + 1, s.nt + 1⟩
noncomputable def wsOf (cs : List Nat) : WsSt := cs.foldl wsStep ⟨[], 0, 0, 0⟩

noncomputable def WJ (w : World) (x dx : Addr) (text : Str) (t : Tok) (i : Nat) (m : Str → Option Value) (news : List (Addr × Obj)) : Prop :=
  ∃ cl k tr ts tt tb tn tnt chv vs, (∀ p ∈ [(cl, listOf vs.toArray k), (x, instObj 167 dx), (dx, dictOf [⟨PyData.keyHash w.params "raw", .str "raw" tr, .str text t⟩] 1)], p ∈ news) ∧ IntsAre vs (wsOf (text.cps.toList.take i)).count ∧ (wsOf (text.cps.toList.take i)).b ≤ i ∧ (wsOf (text.cps.toList.take i)).count.length ≤ i ∧ cl ≠ x ∧ cl ≠ dx ∧
    (∀ y, m y = wm x cl text t ts tt (wsOf (text.cps.toList.take i)).b (wsOf (text.cps.toList.take i)).n (wsOf (text.cps.toList.take i)).nt tb tn tnt chv y)

theorem wm_ch {x cl : Addr} {text : Str} {t ts tt : Tok} {b n nt : Int} {tb tn tnt : Tok} {chv v : Option Value} {m : Str → Option Value} (hm : ∀ y, m y = wm x cl text t ts tt b n nt tb tn tnt chv y) (y : Str) :
    (if y = "ch" then v else m y) = wm x cl text t ts tt b n nt tb tn tnt v y := by
  rw [hm]
  unfold wm
  split <;> rfl

/-- a Whitespace of these counts at x -/
noncomputable def WsAt (w : World) (x : Addr) (S : WsSt) (blk : List (Addr × Obj)) : Prop :=
  ∃ dx nrm ct rv tr tn0 tn tt0 tnt to ti tb vs, IntsAre vs S.count ∧ blk = [(x, instObj 167 dx), (dx, dictOf [⟨PyData.keyHash w.params "raw", .str "raw" tr, rv⟩, ⟨PyData.keyHash w.params "n", .str "n" tn0, .int S.n tn⟩, ⟨PyData.keyHash w.params "nt", .str "nt" tt0, .int S.nt tnt⟩, ⟨PyData.keyHash w.params "norm", .str "norm" to, .ref nrm⟩,
    ⟨PyData.keyHash w.params "is_simple", .str "is_simple" ti, .bool (decide ((S.count.length : Int) ≤ 1))⟩] 5), (nrm, { cls := .type "tuple", data := .seq #[.ref ct, .int S.b tb] }), (ct, { cls := .type "tuple", data := .seq vs.toArray })]

theorem ws_end {w : World} {g h : Heap} {L : Addr} {news : List (Addr × Obj)} {S : WsSt} {x dx nrm ct : Addr} {rv : Value} {tr tn0 tn tt0 tnt to ti tb : Tok} {vs : List Value} (N : News g L h news) (hvs : IntsAre vs S.count) (m1 : (x, instObj 167 dx) ∈ news)
    (m2 : (dx, dictOf [⟨PyData.keyHash w.params "raw", .str "raw" tr, rv⟩, ⟨PyData.keyHash w.params "n", .str "n" tn0, .int S.n tn⟩, ⟨PyData.keyHash w.params "nt", .str "nt" tt0, .int S.nt tnt⟩, ⟨PyData.keyHash w.params "norm", .str "norm" to, .ref nrm⟩,
      ⟨PyData.keyHash w.params "is_simple", .str "is_simple" ti, .bool (decide ((S.count.length : Int) ≤ 1))⟩] 5) ∈ news) (m3 : (nrm, { cls := .type "tuple", data := .seq #[.ref ct, .int S.b tb] }) ∈ news) (m4 : (ct, { cls := .type "tuple", data := .seq vs.toArray }) ∈ news) :
    ∃ sel', (∀ p ∈ sel', h.get? p.1 = some p.2 ∧ g.get? p.1 = none) ∧ WsAt w x S sel' := by
  refine ⟨_, ?_, dx, nrm, ct, rv, tr, tn0, tn, tt0, tnt, to, ti, tb, vs, hvs, rfl⟩
  have hm : ∀ p ∈ _, p ∈ news := List.forall_mem_cons.mpr ⟨m1, List.forall_mem_cons.mpr ⟨m2, List.forall_mem_cons.mpr ⟨m3, List.forall_mem_cons.mpr ⟨m4, List.forall_mem_nil _⟩⟩⟩⟩
  exact fun p hp => ⟨(N p (hm p hp)).1, (N p (hm p hp)).2.2⟩

theorem ws_init (w : World) (x dx : Addr) (text : Str) (t : Tok) (hne : x ≠ dx) (hlen : text.length < 10000) (hws : ∀ c ∈ text.cps.toList, c = 32 ∨ c = 9) :
   Con w 10 100 122 [.ref x, .str text t] [(x, instObj 167 dx), (dx, dictOf [] 0)] (fun _ v sel' => v = .none ∧ WsAt w x (wsOf text.cps.toList) sel') := by
  unfold Con
  k_fill
  intro dp un gd outer base g tp tl mean mg mb s R B hg hsz hsel X T hd hu ret
  refine' enter_g B hg hsz hsel X T ?k6 ?k7 ?k8 ?k9 ?kB ?_ ?c2 ?c3 ?c4 ?c5
  (case k6 => k_is); (case k7 => k_is); (case k8 => ktr_room); (case k9 => exact BindsTo.of_eq rfl); (case c5 => decide); (case kB => exact locs rfl); (case c2 => exact rfl); (case c3 => exact rfl); (case c4 => exact rfl)
  k_whole
  intro L' h' tk' F' N' l1
  k_lt l1
  (try dsimp only); (try k_fold)
  ((repeat' ((fail_if_success (with_reducible show wpAny _ _ (exec (Stmt.For _ _ _ _ _) _) _ _ _)); (first | (k_unfold; (try dsimp only)) | ((with_reducible first | show wpAny _ _ (exec _ _) _ _ _ | show wpAny _ _ (execs _ _) _ _ _); k_fold) | (k_end; wrow_close) | walk1 | (dsimp only; walk1) | (leave1; (try dsimp only))))) <;> (repeat (k_unfold; (try dsimp only))))
  rename Fr _ _ _ _ => F4
  rename News _ _ _ _ => N4
  refine wpAny_For ?_
  ((repeat' ((fail_if_success (with_reducible show wpAny _ _ (pyIter _) _ _ _)); (first | (k_unfold; (try dsimp only)) | ((with_reducible first | show wpAny _ _ (exec _ _) _ _ _ | show wpAny _ _ (execs _ _) _ _ _); k_fold) | (k_end; wrow_close) | walk1 | (dsimp only; walk1) | (leave1; (try dsimp only))))) <;> (repeat (k_unfold; (try dsimp only))))
  refine' for_str (env := envOf _ _ L' 122 _) rfl rfl rfl rfl F4 N4 (WJ w x dx text t) ?h0 ?turn ?done
  case h0 =>
    refine' ⟨_, _, _, _, _, _, _, _, _, [], ?sub, .nil, Nat.zero_le _, Nat.zero_le _, ?n1, ?n2, ?meq⟩
    case sub => exact List.forall_mem_cons.mpr ⟨by k_mem, List.forall_mem_cons.mpr ⟨by k_mem, List.forall_mem_cons.mpr ⟨by k_mem, List.forall_mem_nil _⟩⟩⟩
    case meq => (intro y; unfold wm; (rcases Classical.em (y = "ch") with rfl | h0); exact rfl; (rcases Classical.em (y = "nt") with rfl | h1); exact rfl; (rcases Classical.em (y = "n") with rfl | h2); exact rfl; (rcases Classical.em (y = "b") with rfl | h3); exact rfl; (rcases Classical.em (y = "count") with rfl | h4); exact rfl; (rcases Classical.em (y = "T") with rfl | h5); exact rfl; (rcases Classical.em (y = "S") with rfl | h6); exact rfl; (rcases Classical.em (y = "ws") with rfl | h7); exact rfl; (rcases Classical.em (y = "self") with rfl | h8); exact rfl; (try simp only [if_neg h0, if_neg h1, if_neg h2, if_neg h3, if_neg h4, if_neg h5, if_neg h6, if_neg h7, if_neg h8]); (first | done | exact rfl | (show List.lookup y (_ :: _) = none; simp only [List.lookup, beq_eq_false_iff_ne.mpr h0, beq_eq_false_iff_ne.mpr h1, beq_eq_false_iff_ne.mpr h2, beq_eq_false_iff_ne.mpr h3, beq_eq_false_iff_ne.mpr h4, beq_eq_false_iff_ne.mpr h5, beq_eq_false_iff_ne.mpr h6, beq_eq_false_iff_ne.mpr h7, beq_eq_false_iff_ne.mpr h8]) | (simp only [List.lookup, beq_eq_false_iff_ne.mpr h0, beq_eq_false_iff_ne.mpr h1, beq_eq_false_iff_ne.mpr h2, beq_eq_false_iff_ne.mpr h3, beq_eq_false_iff_ne.mpr h4, beq_eq_false_iff_ne.mpr h5, beq_eq_false_iff_ne.mpr h6, beq_eq_false_iff_ne.mpr h7, beq_eq_false_iff_ne.mpr h8]; done)))
    case n1 => exact neN (by omega)
    case n2 => exact neN (by omega)
  case turn =>
    intro i c u m₁ news₁ h5 tk5 I oI hc hJ hI F5 N5
    obtain ⟨cl, k, tr, ts, tt, tb, tn, tnt, chv, vs, hsub, hvs, hb, hcl, n1, n2, hm⟩ := hJ
    obtain ⟨S, hS⟩ : ∃ S, S = wsOf (text.cps.toList.take i) := ⟨_, rfl⟩
    rw [← hS] at hvs hb hcl hm
    replace F5 := Fr.congr F5 (wm_ch hm)
    have hin : i < text.length := by
      rw [len_cps]
      exact (List.getElem?_eq_some_iff.mp (by simpa using hc)).1
    have hstep : wsOf (text.cps.toList.take (i + 1)) = wsStep S c := by
      rw [hS, wsOf, List.take_add_one, show text.cps.toList[i]? = some c from by simpa using hc]
      simp [wsOf]
    have hcc : c = 32 ∨ c = 9 := hws c (List.mem_of_getElem? (i := i) (by simpa using hc))
    have hl5 := hvs.length
    replace N5 : News g L' h5 [(cl, listOf vs.toArray k), (x, instObj 167 dx), (dx, dictOf [⟨PyData.keyHash w.params "raw", .str "raw" tr, .str text t⟩] 1), (I, oI)] := fun p hp => by
      rcases List.mem_append.mp (show p ∈ [(cl, listOf vs.toArray k), (x, instObj 167 dx), (dx, dictOf [⟨PyData.keyHash w.params "raw", .str "raw" tr, .str text t⟩] 1)] ++ [(I, oI)] from hp) with hp | hp
      · exact N5 p (List.mem_append_left _ (hsub p hp))
      · exact N5 p (List.mem_append_right _ hp)
    have i1 : cl ≠ I := hI (cl, _) (hsub _ (.head _))
    have i2 : x ≠ I := hI (x, _) (hsub _ (.tail _ (.head _)))
    have i3 : dx ≠ I := hI (dx, _) (hsub _ (.tail _ (.tail _ (.head _))))
    clear hm hsub F4 N4
    unfold wm at F5
    (try dsimp only); (try k_fold)
    rcases hcc with rfl | rfl
    · ((repeat' ((fail_if_success (with_reducible show Left _)); (first | (k_unfold; (try dsimp only)) | ((with_reducible first | show wpAny _ _ (exec _ _) _ _ _ | show wpAny _ _ (execs _ _) _ _ _); k_fold) | (k_end; wrow_close) | walk1 | (dsimp only; walk1) | (leave1; (try dsimp only))))) <;> (repeat (k_unfold; (try dsimp only))))
      (try dsimp only)
      unfold Left
      rename Fr _ _ _ _ => F9
      rename News _ _ _ _ => N9
      have e : wsStep S 32 = ⟨S.count, S.b + 1, S.n + 1, S.nt⟩ := rfl
      refine ⟨_, _, _, [(cl, listOf vs.toArray k), (x, instObj 167 dx), (dx, dictOf [⟨PyData.keyHash w.params "raw", .str "raw" tr, .str text t⟩] 1)], rfl, F9, N9, ?_, ?_⟩
      · exact List.forall_mem_cons.mpr ⟨i1, List.forall_mem_cons.mpr ⟨i2, List.forall_mem_cons.mpr ⟨i3, List.forall_mem_nil _⟩⟩⟩
      · unfold WJ
        rw [hstep, e]
        refine' ⟨cl, k, tr, ts, tt, _, _, _, _, vs, fun p hp => hp, hvs, Nat.succ_le_succ hb, Nat.le_succ_of_le hcl, n1, n2, ?meq⟩
        case meq => (intro y; unfold wm; (rcases Classical.em (y = "ch") with rfl | h0); exact rfl; (rcases Classical.em (y = "nt") with rfl | h1); exact rfl; (rcases Classical.em (y = "n") with rfl | h2); exact rfl; (rcases Classical.em (y = "b") with rfl | h3); exact rfl; (rcases Classical.em (y = "count") with rfl | h4); exact rfl; (rcases Classical.em (y = "T") with rfl | h5); exact rfl; (rcases Classical.em (y = "S") with rfl | h6); exact rfl; (rcases Classical.em (y = "ws") with rfl | h7); exact rfl; (rcases Classical.em (y = "self") with rfl | h8); exact rfl; (try simp only [if_neg h0, if_neg h1, if_neg h2, if_neg h3, if_neg h4, if_neg h5, if_neg h6, if_neg h7, if_neg h8]); (first | done | exact rfl | (show List.lookup y (_ :: _) = none; simp only [List.lookup, beq_eq_false_iff_ne.mpr h0, beq_eq_false_iff_ne.mpr h1, beq_eq_false_iff_ne.mpr h2, beq_eq_false_iff_ne.mpr h3, beq_eq_false_iff_ne.mpr h4, beq_eq_false_iff_ne.mpr h5, beq_eq_false_iff_ne.mpr h6, beq_eq_false_iff_ne.mpr h7, beq_eq_false_iff_ne.mpr h8]) | (simp only [List.lookup, beq_eq_false_iff_ne.mpr h0, beq_eq_false_iff_ne.mpr h1, beq_eq_false_iff_ne.mpr h2, beq_eq_false_iff_ne.mpr h3, beq_eq_false_iff_ne.mpr h4, beq_eq_false_iff_ne.mpr h5, beq_eq_false_iff_ne.mpr h6, beq_eq_false_iff_ne.mpr h7, beq_eq_false_iff_ne.mpr h8]; done)))
    · have hbn : S.b ≤ i := hb
      have e : wsStep S 9 = ⟨(grow S.count S.b).set S.b ((grow S.count S.b).getD S.b 0 + 1), 0, S.n + 1, S.nt + 1⟩ := rfl
      ((repeat' ((fail_if_success (with_reducible show Left _)); (first | (k_unfold; (try dsimp only)) | ((with_reducible first | show wpAny _ _ (exec _ _) _ _ _ | show wpAny _ _ (execs _ _) _ _ _); k_fold) | (k_end; wrow_close) | walk1 | (dsimp only; walk1) | (leave1; (try dsimp only))))) <;> (repeat (k_unfold; (try dsimp only))))
      · (try dsimp only)
        unfold Left
        rename Fr _ _ _ _ => F9
        rename News _ _ _ _ => N9
        rename ((S.count.length : Int) ≤ (S.b : Int)) => hle
        have hg : grow S.count S.b = S.count ++ (List.replicate ((S.b : Int) - (S.count.length : Int) + 1).toNat [(0 : Int)]).flatten := by
          unfold grow
          rw [if_pos (Int.ofNat_le.mp hle), show ((S.b : Int) - (S.count.length : Int) + 1).toNat = S.b - S.count.length + 1 from toNat_sub1 (Int.ofNat_le.mp hle)]
          congr 1
          generalize S.b - S.count.length + 1 = q
          induction q with
          | zero => rfl
          | succ q ih => rw [List.replicate_succ, List.replicate_succ, List.flatten_cons, ← ih]; rfl
        refine' ⟨_, _, _, [(?D, listOf (List.toArray ?vs) ?k), (x, instObj 167 dx), (dx, dictOf [⟨PyData.keyHash w.params "raw", .str "raw" tr, .str text t⟩] 1)], rfl, F9, cb_drop N9 ?hs, ?hI, ?hJ⟩
        case hs => exact List.forall_mem_cons.mpr ⟨by k_mem, List.forall_mem_cons.mpr ⟨by k_mem, List.forall_mem_cons.mpr ⟨by k_mem, List.forall_mem_cons.mpr ⟨by k_mem, List.forall_mem_nil _⟩⟩⟩⟩
        case hI => exact List.forall_mem_cons.mpr ⟨neN (by omega), List.forall_mem_cons.mpr ⟨i2, List.forall_mem_cons.mpr ⟨i3, List.forall_mem_nil _⟩⟩⟩
        case hJ =>
          unfold WJ
          rw [hstep, e, hg]
          refine' ⟨_, _, tr, ts, tt, _, _, _, _, _, fun p hp => hp, by assumption, Nat.zero_le _, ?len, neN (by omega), neN (by omega), ?meq⟩
          case len => simp only [List.length_set]; rw [← hg]; unfold grow; rw [if_pos (by omega)]; simp only [List.length_append, List.length_replicate]; omega
          case meq => (intro y; unfold wm; (rcases Classical.em (y = "ch") with rfl | h0); exact rfl; (rcases Classical.em (y = "nt") with rfl | h1); exact rfl; (rcases Classical.em (y = "n") with rfl | h2); exact rfl; (rcases Classical.em (y = "b") with rfl | h3); exact rfl; (rcases Classical.em (y = "count") with rfl | h4); exact rfl; (rcases Classical.em (y = "T") with rfl | h5); exact rfl; (rcases Classical.em (y = "S") with rfl | h6); exact rfl; (rcases Classical.em (y = "ws") with rfl | h7); exact rfl; (rcases Classical.em (y = "self") with rfl | h8); exact rfl; (try simp only [if_neg h0, if_neg h1, if_neg h2, if_neg h3, if_neg h4, if_neg h5, if_neg h6, if_neg h7, if_neg h8]); (first | done | exact rfl | (show List.lookup y (_ :: _) = none; simp only [List.lookup, beq_eq_false_iff_ne.mpr h0, beq_eq_false_iff_ne.mpr h1, beq_eq_false_iff_ne.mpr h2, beq_eq_false_iff_ne.mpr h3, beq_eq_false_iff_ne.mpr h4, beq_eq_false_iff_ne.mpr h5, beq_eq_false_iff_ne.mpr h6, beq_eq_false_iff_ne.mpr h7, beq_eq_false_iff_ne.mpr h8]) | (simp only [List.lookup, beq_eq_false_iff_ne.mpr h0, beq_eq_false_iff_ne.mpr h1, beq_eq_false_iff_ne.mpr h2, beq_eq_false_iff_ne.mpr h3, beq_eq_false_iff_ne.mpr h4, beq_eq_false_iff_ne.mpr h5, beq_eq_false_iff_ne.mpr h6, beq_eq_false_iff_ne.mpr h7, beq_eq_false_iff_ne.mpr h8]; done)))
      · (try dsimp only)
        unfold Left
        rename Fr _ _ _ _ => F9
        rename News _ _ _ _ => N9
        rename (¬ (S.count.length : Int) ≤ (S.b : Int)) => hle
        have hg : grow S.count S.b = S.count := by
          unfold grow
          rw [if_neg (by omega)]
        refine' ⟨_, _, _, [(cl, listOf (List.toArray ?vs2) ?k2), (x, instObj 167 dx), (dx, dictOf [⟨PyData.keyHash w.params "raw", .str "raw" tr, .str text t⟩] 1)], rfl, F9, cb_drop N9 ?hs, ?hI, ?hJ⟩
        case hs => exact List.forall_mem_cons.mpr ⟨by k_mem, List.forall_mem_cons.mpr ⟨by k_mem, List.forall_mem_cons.mpr ⟨by k_mem, List.forall_mem_cons.mpr ⟨by k_mem, List.forall_mem_nil _⟩⟩⟩⟩
        case hI => exact List.forall_mem_cons.mpr ⟨i1, List.forall_mem_cons.mpr ⟨i2, List.forall_mem_cons.mpr ⟨i3, List.forall_mem_nil _⟩⟩⟩
        case hJ =>
          unfold WJ
          rw [hstep, e, hg]
          refine' ⟨cl, _, tr, ts, tt, _, _, _, _, _, fun p hp => hp, by assumption, Nat.zero_le _, ?len, n1, n2, ?meq⟩
          case len => simp only [List.length_set]; omega
          case meq => (intro y; unfold wm; (rcases Classical.em (y = "ch") with rfl | h0); exact rfl; (rcases Classical.em (y = "nt") with rfl | h1); exact rfl; (rcases Classical.em (y = "n") with rfl | h2); exact rfl; (rcases Classical.em (y = "b") with rfl | h3); exact rfl; (rcases Classical.em (y = "count") with rfl | h4); exact rfl; (rcases Classical.em (y = "T") with rfl | h5); exact rfl; (rcases Classical.em (y = "S") with rfl | h6); exact rfl; (rcases Classical.em (y = "ws") with rfl | h7); exact rfl; (rcases Classical.em (y = "self") with rfl | h8); exact rfl; (try simp only [if_neg h0, if_neg h1, if_neg h2, if_neg h3, if_neg h4, if_neg h5, if_neg h6, if_neg h7, if_neg h8]); (first | done | exact rfl | (show List.lookup y (_ :: _) = none; simp only [List.lookup, beq_eq_false_iff_ne.mpr h0, beq_eq_false_iff_ne.mpr h1, beq_eq_false_iff_ne.mpr h2, beq_eq_false_iff_ne.mpr h3, beq_eq_false_iff_ne.mpr h4, beq_eq_false_iff_ne.mpr h5, beq_eq_false_iff_ne.mpr h6, beq_eq_false_iff_ne.mpr h7, beq_eq_false_iff_ne.mpr h8]) | (simp only [List.lookup, beq_eq_false_iff_ne.mpr h0, beq_eq_false_iff_ne.mpr h1, beq_eq_false_iff_ne.mpr h2, beq_eq_false_iff_ne.mpr h3, beq_eq_false_iff_ne.mpr h4, beq_eq_false_iff_ne.mpr h5, beq_eq_false_iff_ne.mpr h6, beq_eq_false_iff_ne.mpr h7, beq_eq_false_iff_ne.mpr h8]; done)))
  case done =>
    intro m₁ news₁ h5 tk5 hJ F5 N5
    obtain ⟨cl, k, tr, ts, tt, tb, tn, tnt, chv, vs, hsub, hvs, hb, hcl, n1, n2, hm⟩ := hJ
    obtain ⟨S, hS⟩ : ∃ S, S = wsOf (text.cps.toList.take text.cps.size) := ⟨_, rfl⟩
    rw [← hS] at hvs hb hcl hm
    replace F5 := Fr.congr F5 hm
    have hl5 := hvs.length
    have hszt : text.cps.size < 10000 := hlen
    replace N5 := cb_drop N5 hsub
    clear hm hsub F4 N4
    unfold wm at F5
    (try dsimp only)
    ((repeat' (first | (k_unfold; (try dsimp only)) | ((with_reducible first | show wpAny _ _ (exec _ _) _ _ _ | show wpAny _ _ (execs _ _) _ _ _); k_fold) | (k_end; wrow_close) | walk1 | (dsimp only; walk1) | (leave1; (try dsimp only)))) <;> (repeat (k_unfold; (try dsimp only))))
    (try dsimp only)
    rename Fr _ _ _ _ => F9
    rename News _ _ _ _ => N9
    have hS2 : wsOf text.cps.toList = S := by rw [hS, List.take_of_length_le (by simp)]
    refine' (ws_end N9 hvs ?m1 ?m2 ?m3 ?m4).elim (fun sel9 H9 => ret _ sel9 _ _ F9.keep H9.1 ⟨rfl, hS2 ▸ H9.2⟩)
    (case m1 => k_mem); (case m2 => k_mem); (case m3 => k_mem); (case m4 => k_mem)
end
theorem make_g {prog : Program} {w : World} {A : Around} {K : Frag} {C : Addr} {s : Shared} {R : Result → Shared → Prop} {rest : List Value} {fI : Addr} (X : K.In s.heap) (hm : makesIn K C = true)
    (hi : findIn K (.ref C) "__init__" = some (some (.ref fI))) (hf : typeIn K (.ref fI) = some (.type "function"))
    (h : codeAny (model prog w) (A.under (.builtin "type.__call__" ⟨.ref C :: rest, []⟩)) (.call (.ref fI) ⟨.ref (s.heap.objs.size + 1) :: rest, []⟩) (InitBack (s.heap.objs.size + 1) R) { s with heap := (s.heap.push emptyDict).push (instObj C s.heap.objs.size) }) :
    codeAny (model prog w) A (.call (.ref C) ⟨rest, []⟩) R s := by
  obtain ⟨hh, g, d, t, os⟩ := s
  exact make_core (makes_of X hm) (looks_findIn X hi) (fun self => bind_fn X self hf) (.inl rfl) h

theorem ws_new (w : World) (text : Str) (t : Tok) (hlen : text.length < 10000) (hws : ∀ c ∈ text.cps.toList, c = 32 ∨ c = 9) :
    Con w 12 120 167 [.str text t] [] (fun _ v blk => ∃ x, v = .ref x ∧ WsAt w x (wsOf text.cps.toList) blk) := by
  unfold Con
  k_fill
  intro dp un gd outer base g tp tl mean mg mb s R B hg hsz hsel X T hd hu ret
  refine make_g (fI := 122) (X.keeps hg) (by k_is) (by k_is) (by k_is) ?_
  have C := ws_init w (s.heap.objs.size + 1) s.heap.objs.size text t (Nat.ne_of_gt (Nat.lt_succ_self _)) hlen hws
  refine' C _ _ gd outer base g tp tl mean mg mb _ _ ?hB ?hg ?hsz ?hsel X T ?hd ?hu ?ret
  case hB => exact ⟨rfl, B.stays, B.frames⟩
  case hg => exact fun b o e => Heap.get?_push_of_some _ (Heap.get?_push_of_some _ (hg b o e))
  case hsz => exact Nat.le_trans hsz (by rw [Heap.size_push, Heap.size_push]; omega)
  case hsel =>
    have hno : ∀ b, g.objs.size ≤ b → g.get? b = none := fun b hb => by
      cases q : g.get? b with
      | none => rfl
      | some o => exact absurd (Heap.lt_size q) (Nat.not_lt.mpr hb)
    refine List.forall_mem_cons.mpr ⟨⟨?_, hno _ (Nat.le_succ_of_le hsz)⟩, List.forall_mem_cons.mpr ⟨⟨?_, hno _ hsz⟩, List.forall_mem_nil _⟩⟩
    · have := Heap.get?_push_size (s.heap.push emptyDict) (o := instObj 167 s.heap.objs.size) rfl
      rwa [Heap.size_push] at this
    · exact Heap.get?_push_of_some _ (Heap.get?_push_size _ rfl)
  case hd => show dp + 1 + 10 < _; omega
  case hu => show un + 1 + 100 < _; omega
  case ret =>
    rintro v sel' h' tk' k1 k2 ⟨rfl, hW⟩
    exact ⟨rfl, ret _ sel' h' tk' k1 k2 ⟨_, rfl, hW⟩⟩
theorem News.sub_app {h₀ h : Heap} {L : Addr} {l news₁ own : List (Addr × Obj)} (N : News h₀ L h (news₁ ++ own)) (hsub : ∀ p ∈ l, p ∈ news₁) : News h₀ L h (l ++ own) := fun p hp => by
  rcases List.mem_append.mp hp with hp | hp
  · exact N p (List.mem_append_left _ (hsub p hp))
  · exact N p (List.mem_append_right _ hp)
theorem News.swap {h₀ h : Heap} {L : Addr} {a b : List (Addr × Obj)} (N : News h₀ L h (a ++ b)) : News h₀ L h (b ++ a) := fun p hp => N p (List.mem_append.mpr (List.mem_append.mp hp).symm)
section
variable {prog : Program} {w : World} {A : Around} {s : Shared} {env : Env} {h₀ : Heap} {L : Addr}
/-- a for over an iterator that touches itself alone; its cell stands at the ledger's end -/
theorem for_one {R : Result → Shared → Prop} {y : Str} {px : Pos} {body : List Stmt} {m : Str → Option Value} {news : List (Addr × Obj)} {I : Addr} {n : Nat} {P : Nat → Value → Prop} {St : Nat → Heap → Prop}
    (W : Walks prog w A I [I] [I] n P St) (hSt : ∀ i h, St i h → ∃ o, h.get? I = some o) (hIn : h₀.get? I = none) (hLI : L ≠ I) (hnI : ∀ p ∈ news, p.1 ≠ I)
    (hx : env.kindOf y = some .local) (hk : env.scope.kind = .function) (hL : env.locals = L) (hst : St 0 s.heap) (F : Fr h₀ L s.heap m) (N : News h₀ L s.heap news)
    (J : Nat → (Str → Option Value) → List (Addr × Obj) → Prop) (h0 : J 0 m news)
    (turn : ∀ i v m₁ news₁ h tk oI, i < n → P i v → J i m₁ news₁ → (∀ p ∈ news₁, p.1 ≠ I) → Fr h₀ L h (fun z => if z = y then some v else m₁ z) → News h₀ L h (news₁ ++ [(I, oI)]) →
      wpAny (model prog w) A (execs body env) (fun f s₂ => match f with
        | .next | .cont => Left (∃ h' tk m' nx, s₂ = { s with heap := h', toks := tk } ∧ Fr h₀ L h' m' ∧ News h₀ L h' (nx ++ [(I, oI)]) ∧ (∀ p ∈ nx, p.1 ≠ I) ∧ J (i + 1) m' nx)
        | .brk => R (.ok .next) s₂
        | .ret v => R (.ok (.ret v)) s₂) (fun _ _ => False) { s with heap := h, toks := tk })
    (done : ∀ m' news' h' tk, J n m' news' → Fr h₀ L h' m' → News h₀ L h' news' → R (.ok .next) { s with heap := h', toks := tk }) :
    codeAny (model prog w) A (.forLoop (.Name y px) (.ref I) body [] env) R s := by
  refine for_W W hx hk hL (by simpa using hLI) (by simpa using hIn) (fun p hp => by simpa using hnI p hp) hst F N J h0 ?_ done
  intro i v m₁ news₁ h tk own hi hP hJ hnw ho ho2 ho3 hS F₁ N₁
  obtain ⟨oI, hoI⟩ := hSt _ _ hS
  have hIo : (I, oI) ∈ own := ho3 _ (.head _) hIn _ hoI
  refine wpAny_mono (turn i v m₁ news₁ h tk oI hi hP hJ (fun p hp => by simpa using hnw p hp) F₁ ?_) (fun f s₂ z => ?_) (fun _ _ z => z)
  · intro p hp
    rcases List.mem_append.mp hp with hp | hp
    · exact N₁ p (List.mem_append_left _ hp)
    · rw [List.mem_singleton.mp hp]; exact N₁ _ (List.mem_append_right _ hIo)
  have key : (∃ h' tk m' nx, s₂ = { s with heap := h', toks := tk } ∧ Fr h₀ L h' m' ∧ News h₀ L h' (nx ++ [(I, oI)]) ∧ (∀ p ∈ nx, p.1 ≠ I) ∧ J (i + 1) m' nx) → TurnEnd h₀ L (J (i + 1)) own [I] s s₂ := by
    rintro ⟨h', tk', m', nx, rfl, F', N', k1, k2⟩
    refine ⟨h', tk', m', nx, _, rfl, F', N', fun p hp => ?_, fun p hp => List.mem_append_left _ hp, fun p hp => by simpa using k1 p hp, k2⟩
    have e1 : p.1 = I := by simpa using ho p hp
    have e2 := ho2 p hp
    rw [e1, hoI] at e2
    refine List.mem_append_right _ (List.mem_singleton.mpr ?_)
    obtain ⟨p1, p2⟩ := p
    simp only at e1 e2
    rw [e1, Option.some.inj e2]
  cases f with
  | next => exact key z
  | cont => exact key z
  | brk => exact z
  | ret v => exact z

/-- a for over range(a, b) -/
theorem for_range {R : Result → Shared → Prop} {E : Value → Shared → Prop} {r : Addr} {a b : Int} {t₀ u₀ v₀ : Tok} {n : Nat} {y : Str} {px : Pos} {body : List Stmt} {m : Str → Option Value} {news : List (Addr × Obj)} (hh : A.handled = none)
    (hr : IsRange s.heap r a b 1 t₀ u₀ v₀) (hsmall : Builtin.Range.small a b 1 = true) (hn : Builtin.Range.rangeSize a b 1 = (n : Int))
    (hx : env.kindOf y = some .local) (hk : env.scope.kind = .function) (hL : env.locals = L) (F : Fr h₀ L s.heap m) (N : News h₀ L s.heap news)
    (J : Nat → (Str → Option Value) → List (Addr × Obj) → Prop) (h0 : J 0 m news)
    (turn : ∀ i t m₁ news₁ h tk I oI, i < n → J i m₁ news₁ → (∀ p ∈ news₁, p.1 ≠ I) → Fr h₀ L h (fun z => if z = y then some (.int (a + i) t) else m₁ z) → News h₀ L h (news₁ ++ [(I, oI)]) →
      wpAny (model prog w) A (execs body env) (fun f s₂ => match f with
        | .next | .cont => Left (∃ h' tk m' nx, s₂ = { s with heap := h', toks := tk } ∧ Fr h₀ L h' m' ∧ News h₀ L h' (nx ++ [(I, oI)]) ∧ (∀ p ∈ nx, p.1 ≠ I) ∧ J (i + 1) m' nx)
        | .brk => R (.ok .next) s₂
        | .ret v => R (.ok (.ret v)) s₂) (fun _ _ => False) { s with heap := h, toks := tk })
    (done : ∀ m' news' h' tk, J n m' news' → Fr h₀ L h' m' → News h₀ L h' news' → R (.ok .next) { s with heap := h', toks := tk }) :
    wpAny (model prog w) A (pyIter (.ref r)) (fun it s₂ => codeAny (model prog w) A (.forLoop (.Name y px) it body [] env) R s₂) E s := by
  refine wpAny_pyIter_range hr hsmall ?_
  rw [hn]
  have hLn : L < s.heap.objs.size := F.ns.lt
  refine for_one (s := { s with heap := s.heap.push _ }) (Walks.range hh s.heap.objs.size a 1 n) (fun i h z => ⟨_, z⟩) (new_none F) (Nat.ne_of_lt hLn) (fun p hp => Nat.ne_of_lt (Heap.lt_size (N p hp).1)) hx hk hL ?_ (F.push _)
    (fun p hp => ⟨Heap.get?_push_of_some _ (N p hp).1, (N p hp).2⟩) J h0 ?_ done
  · show Heap.get? _ _ = some _
    rw [Heap.get?_push_size _ rfl]
    simp [rawInt]
  · rintro i v m₁ news₁ h tk oI hi ⟨t, rfl⟩ hJ hI F₁ N₁
    rw [Int.mul_one] at F₁
    exact turn i t m₁ news₁ h tk _ oI hi hJ hI F₁ N₁
end
/-- the locals of indent_level -/
noncomputable def im (x ct : Addr) (ts b il : Int) (t tb til : Tok) (iv : Option Value) : Str → Option Value :=
  fun y => if y = "i" then iv else if y = "il" then some (.int il til) else if y = "trailing" then some (.int b tb) else if y = "count" then some (.ref ct) else if y = "tabsize" then some (.int ts t) else if y = "self" then some (.ref x) else none
theorem im_i {x ct : Addr} {ts b il : Int} {t tb til : Tok} {iv v : Option Value} {m : Str → Option Value} (hm : ∀ y, m y = im x ct ts b il t tb til iv y) (y : Str) : (if y = "i" then v else m y) = im x ct ts b il t tb til v y := by
  rw [hm]
  unfold im
  split <;> rfl
noncomputable def ilTo (count : List Int) (ts : Int) : Nat → Int
  | 0 => 0
  | k + 1 => ilTo count ts k + Int.fdiv (ts + k) ts * count.getD (ts + k).toNat 0

theorem indent_c (w : World) (x : Addr) (S : WsSt) (blk : List (Addr × Obj)) (W : WsAt w x S blk) (ts : Int) (t : Tok) (h1 : 1 ≤ ts) (h2 : ts < 100000) (hlen : S.count.length < 10000) :
    Con w 10 100 136 [.ref x, .int ts t] blk (fun _ v blk' => (∃ t, v = .int (S.b + ts * (ilTo S.count ts (S.count.length - ts.toNat) + S.nt)) t) ∧ blk' = blk) := by
  obtain ⟨dx, nrm, ct, rv, tr, tn0, tn, tt0, tnt, to, ti, tb, vs, hvs, rfl⟩ := W
  have hl5 := hvs.length
  unfold Con
  k_fill
  intro dp un gd outer base g tp tl mean mg mb s R B hg hsz hsel X T hd hu ret
  refine' enter_g B hg hsz hsel X T ?k6 ?k7 ?k8 ?k9 ?kB ?_ ?c2 ?c3 ?c4 ?c5
  (case k6 => k_is); (case k7 => k_is); (case k8 => ktr_room); (case k9 => exact BindsTo.of_eq rfl); (case c5 => decide); (case kB => exact locs rfl); (case c2 => exact rfl); (case c3 => exact rfl); (case c4 => exact rfl)
  k_whole
  intro L' h' tk' F' N' l1
  (try dsimp only); (try k_fold)
  ((repeat' ((fail_if_success (with_reducible show wpAny _ _ (exec (Stmt.For _ _ _ _ _) _) _ _ _)); (first | (k_unfold; (try dsimp only)) | ((with_reducible first | show wpAny _ _ (exec _ _) _ _ _ | show wpAny _ _ (execs _ _) _ _ _); k_fold) | (k_end; wrow_close) | walk1 | (dsimp only; walk1) | (leave1; (try dsimp only))))) <;> (repeat (k_unfold; (try dsimp only))))
  rename Fr _ _ _ _ => F4
  rename News _ _ _ _ => N4
  refine wpAny_For ?_
  ((repeat' ((fail_if_success (with_reducible show wpAny _ _ (pyIter _) _ _ _)); (first | ((with_reducible show wpAny _ _ (call (Value.builtin "len") [Value.ref ct]) _ _ _); refine len_tuple (items := vs.toArray) ⟨_, (N4 (ct, _) (by k_mem)).1, rfl, 0, rfl⟩ (by simp only [List.size_toArray]; omega) ?_) | (k_unfold; (try dsimp only)) | ((with_reducible first | show wpAny _ _ (exec _ _) _ _ _ | show wpAny _ _ (execs _ _) _ _ _); k_fold) | (k_end; wrow_close) | walk1 | (dsimp only; walk1) | (leave1; (try dsimp only))))) <;> (repeat (k_unfold; (try dsimp only))))
  rename Fr _ _ _ _ => F5
  rename News _ _ _ _ => N5
  rename IsRange _ _ _ _ _ _ _ _ => R5
  refine' for_range (env := envOf _ _ L' 136 _) (n := S.count.length - ts.toNat) rfl R5 ?hsm ?hn rfl rfl rfl F5 N5
    (fun i m news => ∃ til iv, (∀ p ∈ [(x, instObj 167 dx), (dx, dictOf [⟨PyData.keyHash w.params "raw", .str "raw" tr, rv⟩, ⟨PyData.keyHash w.params "n", .str "n" tn0, .int S.n tn⟩, ⟨PyData.keyHash w.params "nt", .str "nt" tt0, .int S.nt tnt⟩, ⟨PyData.keyHash w.params "norm", .str "norm" to, .ref nrm⟩,
    ⟨PyData.keyHash w.params "is_simple", .str "is_simple" ti, .bool (decide ((S.count.length : Int) ≤ 1))⟩] 5), (nrm, { cls := .type "tuple", data := .seq #[.ref ct, .int S.b tb] }), (ct, { cls := .type "tuple", data := .seq vs.toArray })], p ∈ news) ∧ ∀ y, m y = im x ct ts S.b (ilTo S.count ts i) t tb til iv y) ?h0 ?turn ?done
  case hsm => exact small_one (by omega) (by omega) (by omega) (by omega)
  case hn => rw [rangeSize_nat]; exact congrArg _ (toNat_sub' (Int.le_trans (by decide) h1))
  case h0 =>
    refine' ⟨_, _, ?sub, ?meq⟩
    case sub => exact List.forall_mem_cons.mpr ⟨by k_mem, List.forall_mem_cons.mpr ⟨by k_mem, List.forall_mem_cons.mpr ⟨by k_mem, List.forall_mem_cons.mpr ⟨by k_mem, List.forall_mem_nil _⟩⟩⟩⟩
    case meq => (intro y; unfold im; (rcases Classical.em (y = "i") with rfl | h0); exact rfl; (rcases Classical.em (y = "il") with rfl | h1); exact rfl; (rcases Classical.em (y = "trailing") with rfl | h2); exact rfl; (rcases Classical.em (y = "count") with rfl | h3); exact rfl; (rcases Classical.em (y = "tabsize") with rfl | h4); exact rfl; (rcases Classical.em (y = "self") with rfl | h5); exact rfl; (try simp only [if_neg h0, if_neg h1, if_neg h2, if_neg h3, if_neg h4, if_neg h5]); (first | done | exact rfl | (show List.lookup y (_ :: _) = none; simp only [List.lookup, beq_eq_false_iff_ne.mpr h0, beq_eq_false_iff_ne.mpr h1, beq_eq_false_iff_ne.mpr h2, beq_eq_false_iff_ne.mpr h3, beq_eq_false_iff_ne.mpr h4, beq_eq_false_iff_ne.mpr h5]) | (simp only [List.lookup, beq_eq_false_iff_ne.mpr h0, beq_eq_false_iff_ne.mpr h1, beq_eq_false_iff_ne.mpr h2, beq_eq_false_iff_ne.mpr h3, beq_eq_false_iff_ne.mpr h4, beq_eq_false_iff_ne.mpr h5]; done)))
  case turn =>
    intro i t2 m₁ news₁ h6 tk6 I oI hi hJ hI F6 N6
    obtain ⟨til, iv, hsub, hm⟩ := hJ
    replace F6 := Fr.congr F6 (im_i hm)
    have N7 := News.sub_app N6 hsub
    simp only [List.cons_append, List.nil_append] at N7
    try clear F5 N5 N6
    unfold im at F6
    (try dsimp only); (try k_fold)
    have hf1 : 0 ≤ Int.fdiv (ts + (i : Int)) ts := by rw [Int.fdiv_eq_ediv_of_nonneg _ (by omega)]; exact Int.ediv_nonneg (by omega) (by omega)
    have hf2 : Int.fdiv (ts + (i : Int)) ts < 200000 := by
      rw [Int.fdiv_eq_ediv_of_nonneg _ (by omega)]
      have := Int.ediv_le_self (ts) (a := ts + (i : Int)) (by omega)
      omega
    ((repeat' ((fail_if_success (with_reducible show Left _)); (first | (k_unfold; (try dsimp only)) | ((with_reducible first | show wpAny _ _ (exec _ _) _ _ _ | show wpAny _ _ (execs _ _) _ _ _); k_fold) | (k_end; wrow_close) | walk1 | (dsimp only; walk1) | (leave1; (try dsimp only))))) <;> (repeat (k_unfold; (try dsimp only))))
    (try dsimp only)
    unfold Left
    rename Fr _ _ _ _ => F9
    rename News _ _ _ _ => N9
    refine ⟨_, _, _, [(x, instObj 167 dx), (dx, dictOf [⟨PyData.keyHash w.params "raw", .str "raw" tr, rv⟩, ⟨PyData.keyHash w.params "n", .str "n" tn0, .int S.n tn⟩, ⟨PyData.keyHash w.params "nt", .str "nt" tt0, .int S.nt tnt⟩, ⟨PyData.keyHash w.params "norm", .str "norm" to, .ref nrm⟩,
    ⟨PyData.keyHash w.params "is_simple", .str "is_simple" ti, .bool (decide ((S.count.length : Int) ≤ 1))⟩] 5), (nrm, { cls := .type "tuple", data := .seq #[.ref ct, .int S.b tb] }), (ct, { cls := .type "tuple", data := .seq vs.toArray })], rfl, F9, N9, ?_, ?_⟩
    · exact List.forall_mem_cons.mpr ⟨hI _ (hsub _ (.head _)), List.forall_mem_cons.mpr ⟨hI _ (hsub _ (.tail _ (.head _))), List.forall_mem_cons.mpr ⟨hI _ (hsub _ (.tail _ (.tail _ (.head _)))), List.forall_mem_cons.mpr ⟨hI _ (hsub _ (.tail _ (.tail _ (.tail _ (.head _))))), List.forall_mem_nil _⟩⟩⟩⟩
    · refine' ⟨_, _, fun p hp => hp, ?meq⟩
      case meq => (intro y; unfold im; (rcases Classical.em (y = "i") with rfl | h0); exact rfl; (rcases Classical.em (y = "il") with rfl | h1); exact rfl; (rcases Classical.em (y = "trailing") with rfl | h2); exact rfl; (rcases Classical.em (y = "count") with rfl | h3); exact rfl; (rcases Classical.em (y = "tabsize") with rfl | h4); exact rfl; (rcases Classical.em (y = "self") with rfl | h5); exact rfl; (try simp only [if_neg h0, if_neg h1, if_neg h2, if_neg h3, if_neg h4, if_neg h5]); (first | done | exact rfl | (show List.lookup y (_ :: _) = none; simp only [List.lookup, beq_eq_false_iff_ne.mpr h0, beq_eq_false_iff_ne.mpr h1, beq_eq_false_iff_ne.mpr h2, beq_eq_false_iff_ne.mpr h3, beq_eq_false_iff_ne.mpr h4, beq_eq_false_iff_ne.mpr h5]) | (simp only [List.lookup, beq_eq_false_iff_ne.mpr h0, beq_eq_false_iff_ne.mpr h1, beq_eq_false_iff_ne.mpr h2, beq_eq_false_iff_ne.mpr h3, beq_eq_false_iff_ne.mpr h4, beq_eq_false_iff_ne.mpr h5]; done)))
  case done =>
    intro m₁ news₁ h6 tk6 hJ F6 N6
    obtain ⟨til, iv, hsub, hm⟩ := hJ
    replace F6 := Fr.congr F6 hm
    have N7 := cb_drop N6 hsub
    try clear F5 N5
    unfold im at F6
    (try dsimp only)
    ((repeat' (first | (k_unfold; (try dsimp only)) | ((with_reducible first | show wpAny _ _ (exec _ _) _ _ _ | show wpAny _ _ (execs _ _) _ _ _); k_fold) | (k_end; wrow_close) | walk1 | (dsimp only; walk1) | (leave1; (try dsimp only)))) <;> (repeat (k_unfold; (try dsimp only))))
    (try dsimp only)
    rename Fr _ _ _ _ => F9
    rename News _ _ _ _ => N9
    exact ret _ _ _ _ F9.keep (fun r hr => ⟨(N9 r hr).1, (N9 r hr).2.2⟩) ⟨⟨_, rfl⟩, rfl⟩
theorem eqvAll_strs : ∀ xs ys : List Str, PyData.eqvAll (xs.map PyData.str) (ys.map PyData.str) = decide (xs = ys)
  | [], [] => by simp [PyData.eqvAll]
  | [], _ :: _ => by simp [PyData.eqvAll]
  | _ :: _, [] => by simp [PyData.eqvAll]
  | a :: r, b :: t => by
    simp only [List.map_cons, PyData.eqvAll, PyData.eqv, eqvAll_strs r t]
    by_cases h : a = b <;> by_cases h' : r = t <;> simp [h, h']
theorem lay_strs : ∀ xs : List Str, (∀ x ∈ xs, PyData.strOk x = true) → PyData.canLayAll0 (xs.map PyData.str) = true
  | [], _ => rfl
  | x :: r, h => by
    have := lay_strs r fun y hy => h y (.tail _ hy)
    simp [PyData.canLayAll0, PyData.canLay0, this, h x (.head _)]
theorem depth_strs : ∀ xs : List Str, PyData.depthAll (xs.map PyData.str) = 0
  | [] => rfl
  | _ :: r => by simp [PyData.depthAll, PyData.depth, depth_strs r]
theorem carried_strs : ∀ {vs : List Value} {xs : List Str}, StrsAre vs xs → CarriedAll vs (xs.map PyData.str)
  | _, _, .nil => .nil
  | _, _, .cons _ t r => .cons (.str _ t) (carried_strs r)
theorem shaped_strs (xs : List Str) (h : ∀ x ∈ xs, PyData.strOk x = true) : SeqAt.shaped (.list (xs.map PyData.str)) = true := by
  simp [SeqAt.shaped, PyData.canLay0, PyData.depth, lay_strs xs h, depth_strs]
section
variable {prog : Program} {w : World} {A : Around} {E : Value → Shared → Prop} {s : Shared} {a b : Addr} {vs us : List Value} {xs ys : List Str} {Q : Value → Shared → Prop}
theorem ne_strs (ha : s.heap.IsList a vs.toArray) (hb : s.heap.IsList b us.toArray) (hi : StrsAre vs xs) (hj : StrsAre us ys) (h1 : ∀ x ∈ xs, PyData.strOk x = true) (h2 : ∀ x ∈ ys, PyData.strOk x = true) (hu : A.units + 64 < cLine)
    (h : Q (.bool (!decide (xs = ys))) s) : wpAny (model prog w) A (compareOp .NotEq (.ref a) (.ref b)) Q E s :=
  ne_dataH (reads_newData ha (carried_strs hi)) (reads_newData hb (carried_strs hj)) (shaped_strs _ h1) (shaped_strs _ h2) hu (by rw [PyData.eqv, eqvAll_strs]; exact h)
end
section
variable {prog : Program} {w : World} {A : Around} {E : Value → Shared → Prop} {s : Shared} {a b : Addr} {vs us : List Value} {xs ys : List Int} {Q : Value → Shared → Prop}
end
section
variable {prog : Program} {w : World} {A : Around} {s : Shared} {env : Env} {h₀ : Heap} {L : Addr}
/-- a for over an iterator of a made object l that no turn changes; the iterator's cell stands at the ledger's end -/
theorem for_src {R : Result → Shared → Prop} {y : Str} {px : Pos} {body : List Stmt} {m : Str → Option Value} {news : List (Addr × Obj)} {I l : Addr} {lo : Obj} {n : Nat} {P : Nat → Value → Prop} {St : Nat → Heap → Prop}
    (W : Walks prog w A I [I, l] [I] n P St) (hSt : ∀ i h, St i h → ∃ o, h.get? I = some o) (hIn : h₀.get? I = none) (hLI : L ≠ I) (hLl : L ≠ l) (hnI : ∀ p ∈ news, p.1 ≠ I)
    (hx : env.kindOf y = some .local) (hk : env.scope.kind = .function) (hL : env.locals = L) (hst : St 0 s.heap) (F : Fr h₀ L s.heap m) (N : News h₀ L s.heap news)
    (J : Nat → (Str → Option Value) → List (Addr × Obj) → Prop) (hJ : ∀ i m nw, J i m nw → (l, lo) ∈ nw) (h0 : J 0 m news)
    (turn : ∀ i v m₁ news₁ h tk oI, i < n → P i v → J i m₁ news₁ → (∀ p ∈ news₁, p.1 ≠ I) → Fr h₀ L h (fun z => if z = y then some v else m₁ z) → News h₀ L h (news₁ ++ [(I, oI)]) →
      wpAny (model prog w) A (execs body env) (fun f s₂ => match f with
        | .next | .cont => Left (∃ h' tk m' nx, s₂ = { s with heap := h', toks := tk } ∧ Fr h₀ L h' m' ∧ News h₀ L h' (nx ++ [(I, oI)]) ∧ (∀ p ∈ nx, p.1 ≠ I) ∧ J (i + 1) m' nx)
        | .brk => R (.ok .next) s₂
        | .ret v => R (.ok (.ret v)) s₂) (fun _ _ => False) { s with heap := h, toks := tk })
    (done : ∀ m' news' h' tk, J n m' news' → Fr h₀ L h' m' → News h₀ L h' news' → R (.ok .next) { s with heap := h', toks := tk }) :
    codeAny (model prog w) A (.forLoop (.Name y px) (.ref I) body [] env) R s := by
  refine for_W W hx hk hL (by simp [hLI, hLl]) (by simpa using hIn) (fun p hp => by simpa using hnI p hp) hst F N J h0 ?_ done
  intro i v m₁ news₁ h tk own hi hP hJi hnw ho ho2 ho3 hS F₁ N₁
  obtain ⟨oI, hoI⟩ := hSt _ _ hS
  have hIo : (I, oI) ∈ own := ho3 _ (.head _) hIn _ hoI
  have hll := hJ _ _ _ hJi
  have hlo : h.get? l = some lo := (N₁ _ (List.mem_append_left _ hll)).1
  refine wpAny_mono (turn i v m₁ news₁ h tk oI hi hP hJi (fun p hp => by simpa using hnw p hp) F₁ ?_) (fun f s₂ z => ?_) (fun _ _ z => z)
  · intro p hp
    rcases List.mem_append.mp hp with hp | hp
    · exact N₁ p (List.mem_append_left _ hp)
    · rw [List.mem_singleton.mp hp]; exact N₁ _ (List.mem_append_right _ hIo)
  have key : (∃ h' tk m' nx, s₂ = { s with heap := h', toks := tk } ∧ Fr h₀ L h' m' ∧ News h₀ L h' (nx ++ [(I, oI)]) ∧ (∀ p ∈ nx, p.1 ≠ I) ∧ J (i + 1) m' nx) → TurnEnd h₀ L (J (i + 1)) own [I] s s₂ := by
    rintro ⟨h', tk', m', nx, rfl, F', N', k1, k2⟩
    refine ⟨h', tk', m', nx, _, rfl, F', N', fun p hp => ?_, fun p hp => List.mem_append_left _ hp, fun p hp => by simpa using k1 p hp, k2⟩
    have e1 : p.1 = I ∨ p.1 = l := by simpa using ho p hp
    have e2 := ho2 p hp
    obtain ⟨p1, p2⟩ := p
    simp only at e1 e2
    rcases e1 with rfl | rfl
    · rw [hoI] at e2
      rw [← Option.some.inj e2]
      exact List.mem_append_right _ (.head _)
    · rw [hlo] at e2
      rw [← Option.some.inj e2]
      exact List.mem_append_left _ (hJ _ _ _ k2)
  cases f with
  | next => exact key z
  | cont => exact key z
  | brk => exact z
  | ret v => exact z

/-- a for over a made list -/
theorem for_lst {R : Result → Shared → Prop} {E : Value → Shared → Prop} {y : Str} {px : Pos} {body : List Stmt} {m : Str → Option Value} {news : List (Addr × Obj)} {l : Addr} {lo : Obj} {its : Array Value} (hh : A.handled = none)
    (hcl : lo.cls = .type "list") (hdt : ∃ k, lo.data = .seq its k)
    (hx : env.kindOf y = some .local) (hk : env.scope.kind = .function) (hL : env.locals = L) (F : Fr h₀ L s.heap m) (N : News h₀ L s.heap news)
    (J : Nat → (Str → Option Value) → List (Addr × Obj) → Prop) (hJ : ∀ i m nw, J i m nw → (l, lo) ∈ nw) (h0 : J 0 m news)
    (turn : ∀ i v m₁ news₁ h tk I oI, its[i]? = some v → J i m₁ news₁ → (∀ p ∈ news₁, p.1 ≠ I) → Fr h₀ L h (fun z => if z = y then some v else m₁ z) → News h₀ L h (news₁ ++ [(I, oI)]) →
      wpAny (model prog w) A (execs body env) (fun f s₂ => match f with
        | .next | .cont => Left (∃ h' tk m' nx, s₂ = { s with heap := h', toks := tk } ∧ Fr h₀ L h' m' ∧ News h₀ L h' (nx ++ [(I, oI)]) ∧ (∀ p ∈ nx, p.1 ≠ I) ∧ J (i + 1) m' nx)
        | .brk => R (.ok .next) s₂
        | .ret v => R (.ok (.ret v)) s₂) (fun _ _ => False) { s with heap := h, toks := tk })
    (done : ∀ m' news' h' tk, J its.size m' news' → Fr h₀ L h' m' → News h₀ L h' news' → R (.ok .next) { s with heap := h', toks := tk }) :
    wpAny (model prog w) A (pyIter (.ref l)) (fun it s₂ => codeAny (model prog w) A (.forLoop (.Name y px) it body [] env) R s₂) E s := by
  have hl := (N _ (hJ _ _ _ h0))
  have hlist : s.heap.IsList l its := ⟨lo, hl.1, hcl, hdt⟩
  have hlt : l < s.heap.objs.size := Heap.lt_size hl.1
  refine wpAny_pyIter_list hlist ?_
  refine for_src (s := { s with heap := s.heap.push _ }) (lo := lo) (Walks.list hh s.heap.objs.size l (Nat.ne_of_lt hlt) its) (fun i h st => by obtain ⟨o, e, _⟩ := st.1; exact ⟨o, e⟩) (new_none F) (Nat.ne_of_lt F.ns.lt) (Ne.symm hl.2.1)
    (fun p hp => Nat.ne_of_lt (Heap.lt_size (N p hp).1)) hx hk hL ⟨⟨_, Heap.get?_push_size _ rfl, rfl, rfl⟩, hlist.push _⟩ (F.push _)
    (fun p hp => ⟨Heap.get?_push_of_some _ (N p hp).1, (N p hp).2⟩) J hJ h0 ?_ done
  intro i v m₁ news₁ h tk oI hi hP hJi hI F₁ N₁
  exact turn i v m₁ news₁ h tk _ oI hP hJi hI F₁ N₁

/-- a for over reversed(l) of a made list -/
theorem for_rev {R : Result → Shared → Prop} {E : Value → Shared → Prop} {y : Str} {px : Pos} {body : List Stmt} {m : Str → Option Value} {news : List (Addr × Obj)} {I l : Addr} {lo : Obj} {its : Array Value} (hh : A.handled = none)
    (hcl : lo.cls = .type "list") (hdt : ∃ k, lo.data = .seq its k) (hnI : ∀ p ∈ news, p.1 ≠ I)
    (hx : env.kindOf y = some .local) (hk : env.scope.kind = .function) (hL : env.locals = L) (F : Fr h₀ L s.heap m) (N : News h₀ L s.heap ((I, revObj l ((its.size : Int) - 1)) :: news))
    (J : Nat → (Str → Option Value) → List (Addr × Obj) → Prop) (hJ : ∀ i m nw, J i m nw → (l, lo) ∈ nw) (h0 : J 0 m news)
    (turn : ∀ i v m₁ news₁ h tk oI, i < its.size → its[its.size - 1 - i]? = some v → J i m₁ news₁ → (∀ p ∈ news₁, p.1 ≠ I) → Fr h₀ L h (fun z => if z = y then some v else m₁ z) → News h₀ L h (news₁ ++ [(I, oI)]) →
      wpAny (model prog w) A (execs body env) (fun f s₂ => match f with
        | .next | .cont => Left (∃ h' tk m' nx, s₂ = { s with heap := h', toks := tk } ∧ Fr h₀ L h' m' ∧ News h₀ L h' (nx ++ [(I, oI)]) ∧ (∀ p ∈ nx, p.1 ≠ I) ∧ J (i + 1) m' nx)
        | .brk => R (.ok .next) s₂
        | .ret v => R (.ok (.ret v)) s₂) (fun _ _ => False) { s with heap := h, toks := tk })
    (done : ∀ m' news' h' tk, J its.size m' news' → Fr h₀ L h' m' → News h₀ L h' news' → R (.ok .next) { s with heap := h', toks := tk }) :
    wpAny (model prog w) A (pyIter (.ref I)) (fun it s₂ => codeAny (model prog w) A (.forLoop (.Name y px) it body [] env) R s₂) E s := by
  have N1 : News h₀ L s.heap news := fun p hp => N p (.tail _ hp)
  have hl := (N1 _ (hJ _ _ _ h0))
  have hlist : s.heap.IsList l its := ⟨lo, hl.1, hcl, hdt⟩
  have hI := N (I, _) (.head _)
  have hit : s.heap.IsRevIter I l ((its.size : Int) - 1) := ⟨_, hI.1, rfl, rfl⟩
  refine wpAny_pyIter_revIter hit ?_
  refine for_src (lo := lo) (Walks.listRev hh I l (fun e => hnI _ (hJ _ _ _ h0) e) its) (fun i h st => by obtain ⟨o, e, _⟩ := st.2.1; exact ⟨o, e⟩) hI.2.2 (Ne.symm hI.2.1) (Ne.symm hl.2.1)
    hnI hx hk hL ⟨Nat.zero_le _, by simpa using hit, hlist⟩ F N1 J hJ h0 ?_ done
  intro i v m₁ news₁ h tk oI hi hP hJi hI F₁ N₁
  exact turn i v m₁ news₁ h tk oI hi hP hJi hI F₁ N₁
end
/-- the text of these signs' numbers -/
noncomputable def Tx (cs : List Nat) : Str := ⟨cs.toArray⟩
theorem Tx_app (a b : List Nat) : Tx a ++ Tx b = Tx (a ++ b) := by
  apply Str.ext'
  rw [Str.cps_append]; simp [Tx]
theorem Tx_len (a : List Nat) : (Tx a).length = a.length := by show (Tx a).cps.size = _; simp [Tx]
theorem Tx_inj {a b : List Nat} (h : Tx a = Tx b) : a = b := by
  have := congrArg (fun x : Str => x.cps.toList) h
  simpa [Tx] using this
theorem Tx_cps (a : List Nat) : (Tx a).cps.toList = a := by simp [Tx]
theorem foldl_app (l : List (Array Nat)) : ∀ acc : Array Nat, (l.foldl (· ++ ·) acc).toList = acc.toList ++ (l.map Array.toList).flatten := by
  induction l with
  | nil => intro acc; simp
  | cons x l ih => intro acc; rw [List.foldl_cons, ih]; simp
theorem Tx_mul (a : List Nat) (k : Nat) : Txt.mul (Tx a) (k : Int) = Tx ((List.replicate k a).flatten) := by
  unfold Txt.mul
  rcases Nat.eq_zero_or_pos k with rfl | hk
  · rfl
  · rw [if_neg (by omega)]
    split
    · rename_i h
      rcases Bool.or_eq_true _ _ ▸ h with h | h
      · have : k = 1 := by have := eq_of_beq h; omega
        subst this; simp
      · have h0 : a = [] := by
          have := eq_of_beq h
          rw [Tx_len] at this
          exact List.length_eq_zero_iff.mp this
        subst h0; simp
    · apply Str.ext'
      apply Array.toList_inj.mp
      rw [foldl_app]
      simp [Tx]
theorem Tx_mul1 (c k : Nat) : Txt.mul (Tx [c]) (k : Int) = Tx (List.replicate k c) := by
  rw [Tx_mul]
  congr 1
  induction k with
  | zero => rfl
  | succ k ih => rw [List.replicate_succ, List.replicate_succ, List.flatten_cons, ih]; rfl
theorem lit_q : Str.ofString "\"" = Tx [34] := by decide +kernel
theorem lit_s : Str.ofString " " = Tx [32] := by decide +kernel
theorem lit_e : Str.ofString "" = Tx [] := by decide +kernel
noncomputable abbrev blank (k : Nat) : Str := Tx (List.replicate k 32)
section
variable {prog : Program} {w : World} {A : Around} {E : Value → Shared → Prop} {s : Shared} {a : Addr} {vs : List Value} {xs : List Str} {ns : List Int} {x : Str} {n : Int} {t : Tok} {Q : Value → Shared → Prop}
end
theorem okT {x : List Nat} (h : ∀ c ∈ x, c < 0x110000) : PyData.strOk (Tx x) = true := by
  unfold PyData.strOk Tx
  simpa using h
theorem okB (k : Nat) : PyData.strOk (blank k) = true := okT fun c hc => by rw [(List.mem_replicate.mp hc).2]; decide
theorem okBs (l : List Nat) : ∀ x ∈ l.map blank, PyData.strOk x = true := fun x hx => by
  obtain ⟨k, -, rfl⟩ := List.mem_map.mp hx
  exact okB k
theorem blank_inj {a b : Nat} (h : blank a = blank b) : a = b := by
  have := congrArg List.length (Tx_inj h)
  simpa using this
theorem blank_len (q : Nat) : (blank q).length = q := by rw [Tx_len, List.length_replicate]
section
variable {prog : Program} {w : World} {A : Around} {E : Value → Shared → Prop} {s : Shared} {t u : Tok} {Q : Value → Shared → Prop}
theorem half_nn {a b : Nat} (h : Q (.int (((a + b) / 2 : Nat) : Int) s.toks) { s with toks := s.toks + 1 }) : wpAny (model prog w) A (binaryOp .RShift (.int ((a : Int) + (b : Int)) t) (.int 1 u)) Q E s := by
  refine rshift_int (by decide) ?_
  have e : Int.fdiv ((a : Int) + (b : Int)) (2 ^ Int.toNat 1) = (((a + b) / 2 : Nat) : Int) := by
    have := fdiv_pow2 (a + b) 1
    simpa using this
  rw [e]; exact h
theorem shr_nn {x k : Nat} (h : Q (.int ((x / 2 ^ k : Nat) : Int) s.toks) { s with toks := s.toks + 1 }) : wpAny (model prog w) A (binaryOp .RShift (.int (x : Int) t) (.int (k : Int) u)) Q E s := by
  refine rshift_int (Int.natCast_nonneg _) ?_
  rw [fdiv_pow2]; exact h
theorem shl_nn {x k m : Nat} (hx : x < 2 ^ m) (hm : m + k ≤ 2 ^ 27) (h : Q (.int ((x * 2 ^ k : Nat) : Int) s.toks) { s with toks := s.toks + 1 }) : wpAny (model prog w) A (binaryOp .LShift (.int (x : Int) t) (.int (k : Int) u)) Q E s := by
  refine lshift_int (Int.natCast_nonneg _) ?_ ?_
  · have := bits_lt hx
    have e : (2 : Int) ^ 27 = 134217728 := by decide
    rw [e]
    have e2 : (2 : Nat) ^ 27 = 134217728 := by decide
    rw [e2] at hm
    omega
  · rw [mul_pow2]; exact h
theorem xor_nn {x k : Nat} (h : Q (.int ((x % 2 ^ k : Nat) : Int) s.toks) { s with toks := s.toks + 1 }) : wpAny (model prog w) A (binaryOp .BitXor (.int (x : Int) t) (.int ((x / 2 ^ k * 2 ^ k : Nat) : Int) u)) Q E s := by
  refine xor_int ?_
  rw [xor_low]; exact h
theorem mulsub_nn {m l n : Nat} (hlm : l ≤ m) (hn : n < 5000) (h : Q (.int ((n * (m - l) : Nat) : Int) s.toks) { s with toks := s.toks + 1 }) : wpAny (model prog w) A (binaryOp .Mult (.int ((m : Int) - (l : Int)) t) (.int (n : Int) u)) Q E s := by
  refine mul_int ?_ (PySem.IntMulOk.of_right (PySem.intBits_le_64 (by omega) (by omega)))
  have e : ((m : Int) - (l : Int)) * (n : Int) = ((n * (m - l) : Nat) : Int) := by
    rw [Int.natCast_mul, Int.natCast_sub hlm, Int.mul_comm]
  rw [e]; exact h
end
noncomputable abbrev innerIL (rd c lst cA cI cN : Addr) (oc oA oI oN : Obj) (name qual : Str) (params : Arguments) (body : List Stmt) (scope : Scope) (doc pm ct : Value) (vals : List Value) (k : Nat) : List (Addr × Obj) :=
  [(rd, { cls := .type "function", data := .func (fnX name qual params body scope [("n", cN), ("inner", cI), ("a_digits", cA)] .none .none doc pm none (.ref c) ct) }), (c, oc), (lst, listOf vals.toArray k), (cA, oA), (cI, oI), (cN, oN)]
theorem innerI_c (w : World) (rd c lst cA cI cN : Addr) (oc oA oI oN : Obj) (name qual : Str) (params : Arguments) (body : List Stmt) (scope : Scope) (doc pm ct : Value) (vs : Array Value) (tq : Tok) (n : Nat) (un : Tok)
    (hdef : nestedDef ((hd.heap_1 w.params).lookup 42) 1 = some (params, body, scope)) (hcd : oc.data = .fields vs) (hvs : vs[1]? = some (.str qual tq)) (hA : oA.data = .cell (some (.ref lst))) (hI : oI.data = .cell (some (.ref rd))) (hN : oN.data = .cell (some (.int (n : Int) un)))
    (n1 : lst ≠ rd) (n2 : lst ≠ c) (n3 : lst ≠ cA) (n4 : lst ≠ cI) (n5 : lst ≠ cN) (hn : 0 < n) (hn2 : n < 5000) (d : Nat) :
    ∀ (vals : List Value) (ns : List Int) (k : Nat) (x : Nat) (Lo Hi : Nat) (tx tL tR : Tok), IntsAre vals ns → ns.length ≤ 5000 → Lo < Hi → Hi ≤ ns.length → Hi - Lo ≤ d → x < 2 ^ (n * (Hi - Lo)) → x < 2 ^ 5000 →
    Con w (d + 2) (4 * d + 40) rd [.int x tx, .int Lo tL, .int Hi tR] (innerIL rd c lst cA cI cN oc oA oI oN name qual params body scope doc pm ct vals k)
      (fun _ v blk => v = .none ∧ ∃ vals' ns' k', IntsAre vals' ns' ∧ ns'.length = ns.length ∧ (∀ i, ns'.getD i 0 = if Lo ≤ i ∧ i < Hi then ((dig n x (i - Lo) : Nat) : Int) else ns.getD i 0) ∧ blk = innerIL rd c lst cA cI cN oc oA oI oN name qual params body scope doc pm ct vals' k') := by
  induction d with
  | zero => intro vals ns k x Lo Hi tx tL tR hv hl hLR hR hd0; exact absurd hd0 (by omega)
  | succ d IH =>
  intro vals ns k x Lo Hi tx tL tR hv hl hLR hR hd0 hxs hx
  have hlv := hv.length
  revert hdef
  unfold Con
  k_fill
  intro hdef dp un' gd outer base g tp tl mean mg mb s R B hg hsz hsel X T hd hu ret
  have hdef0 := hdef
  refine' nested_out ?hl hdef ?_
  (case hl => k_is)
  clear hdef
  intro hdef
  cases hdef
  refine' enter_m hg hsz hsel T (.head _) rfl (.tail _ (.head _)) hcd hvs ?k8 ?k9 ?kB ?_ ?c2 ?c3 ?c4 ?c5
  (case k8 => k_room); (case k9 => exact BindsTo.of_eq rfl); (case c5 => decide); (case kB => exact locs rfl); (case c2 => exact rfl); (case c3 => exact rfl); (case c4 => exact rfl)
  intro L' h' tk' F' N' l1
  (try dsimp only); (try k_fold)
  have codeHd := codeHd_of_K (c := 41) (P := 37) X (by kernel_rfl)
  simp only [innerIL] at N'
  have hLm : Lo ≤ (Lo + Hi) / 2 := by omega
  have hup : x / 2 ^ (n * ((Lo + Hi) / 2 - Lo)) < 2 ^ 5000 := Nat.lt_of_le_of_lt (Nat.div_le_self _ _) hx
  have hsh : 5000 + n * ((Lo + Hi) / 2 - Lo) ≤ 2 ^ 27 := by
    have h1 : n * ((Lo + Hi) / 2 - Lo) ≤ 5000 * 5000 := Nat.mul_le_mul (by omega) (by omega)
    have e2 : (2 : Nat) ^ 27 = 134217728 := by decide
    omega
  ((repeat' ((fail_if_success (with_reducible show wpAny _ _ (call (Value.ref rd) _) _ _ _)); (first | ((with_reducible show wpAny _ _ (binaryOp Operator.RShift _ (Value.int 1 _)) _ _ _); refine half_nn ?_) | ((with_reducible show wpAny _ _ (binaryOp Operator.RShift _ _) _ _ _); refine shr_nn ?_) | ((with_reducible show wpAny _ _ (binaryOp Operator.LShift _ _) _ _ _); refine shl_nn hup hsh ?_) | ((with_reducible show wpAny _ _ (binaryOp Operator.BitXor _ _) _ _ _); refine xor_nn ?_) | ((with_reducible show wpAny _ _ (binaryOp Operator.Mult _ _) _ _ _); refine mulsub_nn hLm hn2 ?_) | (k_unfold; (try dsimp only)) | ((with_reducible first | show wpAny _ _ (exec _ _) _ _ _ | show wpAny _ _ (execs _ _) _ _ _); k_fold) | (k_end; wrow_close) | walk1 | (dsimp only; walk1) | (leave1; (try dsimp only))))) <;> (repeat (k_unfold; (try dsimp only))))
  · (try dsimp only)
    rename Fr _ _ _ _ => F9
    rename News _ _ _ _ => N9
    rename IntsAre _ _ => hv9
    rename ((Lo : Int) + 1 = (Hi : Int)) => hone
    refine ret _ _ _ _ F9.keep (fun r hr => ⟨(N9 r hr).1, (N9 r hr).2.2⟩) ⟨rfl, _, _, _, hv9, by simp, fun i => ?_, rfl⟩
    have hH : Hi = Lo + 1 := by omega
    subst hH
    have hxx : dig n x 0 = x := dig_zero (by simpa using hxs)
    simp only [List.getD_eq_getElem?_getD, List.getElem?_set, Int.toNat_natCast]
    by_cases hi : Lo = i
    · subst hi
      rw [if_pos rfl, if_pos (by omega), if_pos (by omega), Nat.sub_self, hxx]; rfl
    · rw [if_neg hi, if_neg (by omega)]
  · rename Fr _ _ _ _ => F9
    rename News _ _ _ _ => N9
    rename (¬ ((Lo : Int) + 1 = (Hi : Int))) => hone
    obtain ⟨mid, hmid⟩ : ∃ mid, mid = (Lo + Hi) / 2 := ⟨_, rfl⟩
    rw [← hmid] at F9
    rw [← hmid]
    have hm1 : Lo < mid := by omega
    have hm2 : mid < Hi := by omega
    refine use_g (IH vals ns k (x % 2 ^ (n * (mid - Lo))) Lo mid _ _ _ hv hl hm1 (Nat.le_trans (Nat.le_of_lt hm2) hR) (half_lo hm1 hm2 hd0) (Nat.mod_lt _ (Nat.two_pow_pos _)) (Nat.lt_of_le_of_lt (Nat.mod_le _ _) hx)) (oth := []) B F9 X N9 T rfl rfl (fun p hp => hp) (fun p hp => nomatch hp) (fun p hp => nomatch hp) ?_ ?_ ?_
    · k_room
    · k_units
    rintro v2 sel2 h2 tk2 F2 N2 - - ⟨rfl, vals2, ns2, k2, hv2, hl2, hg2, rfl⟩
    simp only [innerIL, List.append_nil] at N2
    clear F9 N9
    (try dsimp only)
    ((repeat' ((fail_if_success (with_reducible show wpAny _ _ (call (Value.ref rd) _) _ _ _)); (first | (k_unfold; (try dsimp only)) | ((with_reducible first | show wpAny _ _ (exec _ _) _ _ _ | show wpAny _ _ (execs _ _) _ _ _); k_fold) | (k_end; wrow_close) | walk1 | (dsimp only; walk1) | (leave1; (try dsimp only))))) <;> (repeat (k_unfold; (try dsimp only))))
    rename Fr _ _ _ _ => F9
    rename News _ _ _ _ => N9
    refine use_g (IH vals2 ns2 k2 (x / 2 ^ (n * (mid - Lo))) mid Hi _ _ _ hv2 (by rw [hl2]; exact hl) hm2 (by rw [hl2]; exact hR) (half_hi hm1 hm2 hd0) ?_ (Nat.lt_of_le_of_lt (Nat.div_le_self _ _) hx)) (oth := []) B F9 X N9 T rfl rfl (fun p hp => hp) (fun p hp => nomatch hp) (fun p hp => nomatch hp) ?_ ?_ ?_
    · rw [Nat.div_lt_iff_lt_mul (Nat.two_pow_pos _), ← Nat.pow_add, ← Nat.mul_add]
      rw [show Hi - mid + (mid - Lo) = Hi - Lo from Nat.sub_add_sub_cancel (Nat.le_of_lt hm2) (Nat.le_of_lt hm1)]
      exact hxs
    · k_room
    · k_units
    rintro v3 sel3 h3 tk3 F3 N3 - - ⟨rfl, vals3, ns3, k3, hv3, hl3, hg3, rfl⟩
    simp only [innerIL, List.append_nil] at N3
    clear F9 N9
    (try dsimp only)
    ((repeat' (first | (k_unfold; (try dsimp only)) | ((with_reducible first | show wpAny _ _ (exec _ _) _ _ _ | show wpAny _ _ (execs _ _) _ _ _); k_fold) | (k_end; wrow_close) | walk1 | (dsimp only; walk1) | (leave1; (try dsimp only)))) <;> (repeat (k_unfold; (try dsimp only))))
    (try dsimp only)
    rename Fr _ _ _ _ => F9
    rename News _ _ _ _ => N9
    refine ret _ _ _ _ F9.keep (fun r hr => ⟨(N9 r hr).1, (N9 r hr).2.2⟩) ⟨rfl, _, _, _, hv3, hl3.trans hl2, fun i => ?_, rfl⟩
    rw [hg3, hg2]
    by_cases h1 : mid ≤ i ∧ i < Hi
    · rw [if_pos h1, if_pos ⟨Nat.le_trans (Nat.le_of_lt hm1) h1.1, h1.2⟩]
      have e := dig_high (n := n) (x := x) (i := i - Lo) (j := mid - Lo) (Nat.sub_le_sub_right h1.1 _)
      rw [show i - mid = i - Lo - (mid - Lo) from sub3 hm1, e]
    · rw [if_neg h1]
      by_cases h2 : Lo ≤ i ∧ i < mid
      · rw [if_pos h2, if_pos ⟨h2.1, Nat.lt_trans h2.2 hm2⟩, dig_low (Nat.sub_lt_sub_right h2.1 h2.2)]
      · rw [if_neg h2, if_neg (by omega)]
/-- the number of digits f L, f (L + 1), .. to the base 2 ^ n -/
noncomputable def hv (n : Nat) (f : Nat → Nat) (L : Nat) : Nat → Nat
  | 0 => 0
  | k + 1 => f L + 2 ^ n * hv n f (L + 1) k
theorem hv_add (n : Nat) (f : Nat → Nat) (j k : Nat) : ∀ L, hv n f L (j + k) = hv n f L j + 2 ^ (n * j) * hv n f (L + j) k := by
  induction j with
  | zero => intro L; simp [hv]
  | succ j ih =>
    intro L
    rw [show j + 1 + k = (j + k) + 1 from by omega, hv, ih, hv, show L + 1 + j = L + (j + 1) from by omega, Nat.mul_add, Nat.add_assoc, ← Nat.mul_assoc, ← Nat.pow_add, show n * (j + 1) = n + n * j from by rw [Nat.mul_add]; omega]
theorem hv_lt (n : Nat) (f : Nat → Nat) (hf : ∀ i, f i < 2 ^ n) (k : Nat) : ∀ L, hv n f L k < 2 ^ (n * k) := by
  induction k with
  | zero => intro L; simp [hv]
  | succ k ih =>
    intro L
    rw [hv, Nat.mul_add, Nat.pow_add, Nat.mul_one, Nat.mul_comm (2 ^ (n * k))]
    have h1 := hf L
    have h2 : 2 ^ n * (hv n f (L + 1) k + 1) ≤ 2 ^ n * 2 ^ (n * k) := Nat.mul_le_mul_left _ (ih (L + 1))
    rw [Nat.mul_add] at h2
    omega
theorem hv_one (n : Nat) (f : Nat → Nat) (L : Nat) : hv n f L 1 = f L := by simp [hv]
theorem int_eq {a b : Int} {t : Tok} (h : a = b) : Value.int a t = Value.int b t := by rw [h]
noncomputable abbrev innerDL (rd c lst cA cI cN : Addr) (oc oA oI oN : Obj) (name qual : Str) (params : Arguments) (body : List Stmt) (scope : Scope) (doc pm ct : Value) (vals : List Value) (k : Nat) : List (Addr × Obj) :=
  [(rd, { cls := .type "function", data := .func (fnX name qual params body scope [("n", cN), ("inner", cI), ("digits", cA)] .none .none doc pm none (.ref c) ct) }), (c, oc), (lst, listOf vals.toArray k), (cA, oA), (cI, oI), (cN, oN)]
theorem innerD_c (w : World) (rd c lst cA cI cN : Addr) (oc oA oI oN : Obj) (name qual : Str) (params : Arguments) (body : List Stmt) (scope : Scope) (doc pm ct : Value) (vs : Array Value) (tq : Tok) (n : Nat) (un : Tok)
    (hdef : nestedDef ((hd.heap_1 w.params).lookup 49) 0 = some (params, body, scope)) (hcd : oc.data = .fields vs) (hvs : vs[1]? = some (.str qual tq)) (hA : oA.data = .cell (some (.ref lst))) (hI : oI.data = .cell (some (.ref rd))) (hN : oN.data = .cell (some (.int (n : Int) un)))
    (n1 : lst ≠ rd) (n2 : lst ≠ c) (n3 : lst ≠ cA) (n4 : lst ≠ cI) (n5 : lst ≠ cN) (hn : 0 < n) (hn2 : n < 5000)
    (vals : List Value) (ns : List Int) (k : Nat) (f : Nat → Nat) (hvn : IntsAre vals ns) (hl : ns.length ≤ 5000) (hf : ∀ i, f i < 2 ^ n) (hfn : ∀ i, ns.getD i 0 = (f i : Int)) (d : Nat) :
    ∀ (Lo Hi : Nat) (tL tR : Tok), Lo < Hi → Hi ≤ ns.length → Hi - Lo ≤ d →
    Con w (d + 2) (4 * d + 40) rd [.int Lo tL, .int Hi tR] (innerDL rd c lst cA cI cN oc oA oI oN name qual params body scope doc pm ct vals k)
      (fun _ v blk => (∃ t, v = .int (hv n f Lo (Hi - Lo) : Nat) t) ∧ blk = innerDL rd c lst cA cI cN oc oA oI oN name qual params body scope doc pm ct vals k) := by
  induction d with
  | zero => intro Lo Hi tL tR hLR hR hd0; exact absurd hd0 (by omega)
  | succ d IH =>
  intro Lo Hi tL tR hLR hR hd0
  have hlv := hvn.length
  revert hdef
  unfold Con
  k_fill
  intro hdef dp un' gd outer base g tp tl mean mg mb s R B hg hsz hsel X T hd hu ret
  have hdef0 := hdef
  refine' nested_out ?hl hdef ?_
  (case hl => k_is)
  clear hdef
  intro hdef
  cases hdef
  refine' enter_m hg hsz hsel T (.head _) rfl (.tail _ (.head _)) hcd hvs ?k8 ?k9 ?kB ?_ ?c2 ?c3 ?c4 ?c5
  (case k8 => k_room); (case k9 => exact BindsTo.of_eq rfl); (case c5 => decide); (case kB => exact locs rfl); (case c2 => exact rfl); (case c3 => exact rfl); (case c4 => exact rfl)
  intro L' h' tk' F' N' l1
  (try dsimp only); (try k_fold)
  have codeHd := codeHd_of_K (c := 48) (P := 44) X (by kernel_rfl)
  simp only [innerDL] at N'
  have hLm : Lo ≤ (Lo + Hi) / 2 := by omega
  ((repeat' ((fail_if_success (with_reducible show wpAny _ _ (call (Value.ref rd) _) _ _ _)); (first | ((with_reducible show wpAny _ _ (binaryOp Operator.RShift _ (Value.int 1 _)) _ _ _); refine half_nn ?_) | ((with_reducible show wpAny _ _ (binaryOp Operator.Mult _ _) _ _ _); refine mulsub_nn hLm hn2 ?_) | (k_unfold; (try dsimp only)) | ((with_reducible first | show wpAny _ _ (exec _ _) _ _ _ | show wpAny _ _ (execs _ _) _ _ _); k_fold) | (k_end; wrow_close) | walk1 | (dsimp only; walk1) | (leave1; (try dsimp only))))) <;> (repeat (k_unfold; (try dsimp only))))
  · (try dsimp only)
    rename Fr _ _ _ _ => F9
    rename News _ _ _ _ => N9
    rename ((Lo : Int) + 1 = (Hi : Int)) => hone
    have hH : Hi = Lo + 1 := by omega
    subst hH
    refine ret _ _ _ _ F9.keep (fun r hr => ⟨(N9 r hr).1, (N9 r hr).2.2⟩) ⟨⟨_, int_eq ?_⟩, rfl⟩
    rw [show Lo + 1 - Lo = 1 from by omega, hv_one, ← hfn, Int.toNat_natCast]
  · rename Fr _ _ _ _ => F9
    rename News _ _ _ _ => N9
    rename (¬ ((Lo : Int) + 1 = (Hi : Int))) => hone
    obtain ⟨mid, hmid⟩ : ∃ mid, mid = (Lo + Hi) / 2 := ⟨_, rfl⟩
    rw [← hmid] at F9
    rw [← hmid]
    have hm1 : Lo < mid := by omega
    have hm2 : mid < Hi := by omega
    refine use_g (IH mid Hi _ _ hm2 hR (half_hi hm1 hm2 hd0)) (oth := []) B F9 X N9 T rfl rfl (fun p hp => hp) (fun p hp => nomatch hp) (fun p hp => nomatch hp) ?_ ?_ ?_
    · k_room
    · k_units
    rintro v2 sel2 h2 tk2 F2 N2 - - ⟨⟨t2, rfl⟩, rfl⟩
    simp only [innerDL, List.append_nil] at N2
    clear F9 N9
    (try dsimp only)
    have hb1 := hv_lt n f hf (Hi - mid) mid
    have hsh : n * (Hi - mid) + n * (mid - Lo) ≤ 2 ^ 27 := by
      have hH5 := Nat.le_trans hR hl
      have h1 : n * (Hi - mid) ≤ 5000 * 5000 := Nat.mul_le_mul (Nat.le_of_lt hn2) (Nat.le_trans (Nat.sub_le _ _) hH5)
      have h2 : n * (mid - Lo) ≤ 5000 * 5000 := Nat.mul_le_mul (Nat.le_of_lt hn2) (Nat.le_trans (Nat.sub_le _ _) (Nat.le_trans (Nat.le_of_lt hm2) hH5))
      have e2 : (2 : Nat) ^ 27 = 134217728 := by decide
      omega
    ((repeat' ((fail_if_success (with_reducible show wpAny _ _ (call (Value.ref rd) _) _ _ _)); (first | ((with_reducible show wpAny _ _ (binaryOp Operator.LShift _ _) _ _ _); refine shl_nn hb1 hsh ?_) | (k_unfold; (try dsimp only)) | ((with_reducible first | show wpAny _ _ (exec _ _) _ _ _ | show wpAny _ _ (execs _ _) _ _ _); k_fold) | (k_end; wrow_close) | walk1 | (dsimp only; walk1) | (leave1; (try dsimp only))))) <;> (repeat (k_unfold; (try dsimp only))))
    rename Fr _ _ _ _ => F9
    rename News _ _ _ _ => N9
    refine use_g (IH Lo mid _ _ hm1 (Nat.le_trans (Nat.le_of_lt hm2) hR) (half_lo hm1 hm2 hd0)) (oth := []) B F9 X N9 T rfl rfl (fun p hp => hp) (fun p hp => nomatch hp) (fun p hp => nomatch hp) ?_ ?_ ?_
    · k_room
    · k_units
    rintro v3 sel3 h3 tk3 F3 N3 - - ⟨⟨t3, rfl⟩, rfl⟩
    simp only [innerDL, List.append_nil] at N3
    clear F9 N9
    (try dsimp only)
    ((repeat' (first | (k_unfold; (try dsimp only)) | ((with_reducible first | show wpAny _ _ (exec _ _) _ _ _ | show wpAny _ _ (execs _ _) _ _ _); k_fold) | (k_end; wrow_close) | walk1 | (dsimp only; walk1) | (leave1; (try dsimp only)))) <;> (repeat (k_unfold; (try dsimp only))))
    (try dsimp only)
    rename Fr _ _ _ _ => F9
    rename News _ _ _ _ => N9
    refine ret _ _ _ _ F9.keep (fun r hr => ⟨(N9 r hr).1, (N9 r hr).2.2⟩) ⟨⟨_, int_eq ?_⟩, rfl⟩
    have e := hv_add n f (mid - Lo) (Hi - mid) Lo
    rw [show mid - Lo + (Hi - mid) = Hi - Lo from by rw [Nat.add_comm]; exact Nat.sub_add_sub_cancel (Nat.le_of_lt hm2) (Nat.le_of_lt hm1), show Lo + (mid - Lo) = mid from Nat.add_sub_cancel' (Nat.le_of_lt hm1)] at e
    rw [e]
    rw [Int.natCast_add, Nat.mul_comm, Int.add_comm]
/-- the table of code objects of a def with one inner def: empty, or the inner def's code -/
noncomputable def TabSt (P : Addr) (line col : Nat) (qual : Str) (tb : List (Addr × Obj)) : Prop :=
  tb = [(P, tabObj #[])] ∨ ∃ (c : Addr) (oc : Obj) (vs : Array Value) (t : Tok), tb = [(P, tabObj #[rawInt line, rawInt col, .ref c]), (c, oc)] ∧ oc.data = .fields vs ∧ vs[1]? = some (.str qual t) ∧ c ≠ P
theorem fdivlen {prog : Program} {w : World} {A : Around} {E : Value → Shared → Prop} {s : Shared} {t u : Tok} {Q : Value → Shared → Prop} {b n len : Nat} (hn : 0 < n) (hn2 : n < 5000) (hlen : len = (b + n - 1) / n)
    (h : Q (.int (len : Int) s.toks) { s with toks := s.toks + 1 }) : wpAny (model prog w) A (binaryOp .FloorDiv (.int ((b : Int) + (n : Int) - 1) t) (.int (n : Int) u)) Q E s := by
  refine floordiv_int (by omega) ?_ (.inl (PyProof.noPylong_small (by omega)))
  have e : Int.fdiv ((b : Int) + (n : Int) - 1) (n : Int) = (len : Int) := by
    rw [hlen, ← fdiv_nn]; congr 1; omega
  rw [e]; exact h
/-- the digits of a to the base 2 ^ n, the lowest first -/
noncomputable def digsOf (n len a : Nat) : List Int := (List.range len).map fun i => ((dig n a i : Nat) : Int)
/-- a new list of digits, and the def's table -/
noncomputable def DigsAt (P line col : Nat) (qual : Str) (v : Value) (ns : List Int) (blk : List (Addr × Obj)) : Prop :=
  ∃ D vals k tb, v = .ref D ∧ blk = (D, listOf vals.toArray k) :: tb ∧ IntsAre vals ns ∧ TabSt P line col qual tb ∧ (∀ p ∈ tb, p.1 ≠ D)
theorem digs_eq {n len a : Nat} {ns : List Int} (h1 : ns.length = len) (h2 : ∀ i, ns.getD i 0 = if 0 ≤ i ∧ i < len then ((dig n a (i - 0) : Nat) : Int) else (List.replicate len (0 : Int)).getD i 0) : ns = digsOf n len a := by
  apply List.ext_getElem
  · simp [digsOf, h1]
  · intro i hi hi2
    have := h2 i
    rw [if_pos ⟨Nat.zero_le _, by omega⟩, List.getD_eq_getElem?_getD, List.getElem?_eq_getElem hi] at this
    simpa [digsOf] using this
theorem rep_flat {α : Type} (x : α) (q : Nat) : (List.replicate q [x]).flatten = List.replicate q x := by
  induction q with
  | zero => rfl
  | succ q ih => rw [List.replicate_succ, List.replicate_succ, List.flatten_cons, ih]; rfl
section
variable {dp un : Nat} {gd : Option (List Code)} {env : Env} {outer : List Env} {A₀ : Around} {base h₀ : Heap} {L : Addr} {m : Str → Option Value} {tp : Program} {tl : List Str} {mean : ExcName → Option Value} {mg mb : Str → Option Value} {s : Shared} {w : World}
theorem i2d_call {Q E : Value → Shared → Prop} {news : List (Addr × Obj)} {rd c lst cA cI cN : Addr} {oc oA oI oN : Obj} {name qual : Str} {params : Arguments} {body : List Stmt} {scope : Scope} {doc pm ct : Value} {vs tab : Array Value} {tq : Tok} {n a len : Nat} {un' t1 t2 t3 : Tok} {vals : List Value} {ns : List Int} {k : Nat}
    (B : Below A₀ base outer h₀) (F : Fr h₀ L s.heap m) (X : (hd.heap_1 w.params).In h₀) (N : News h₀ L s.heap news) (T : Top tp tl mean mg mb h₀) (hf : env.frame = some L) (hke : env.scope.kind = .function)
    (m1 : (rd, { cls := .type "function", data := .func (fnX name qual params body scope [("n", cN), ("inner", cI), ("a_digits", cA)] .none .none doc pm none (.ref c) ct) }) ∈ news) (m2 : (c, oc) ∈ news) (m3 : (lst, listOf vals.toArray k) ∈ news) (m4 : (cA, oA) ∈ news) (m5 : (cI, oI) ∈ news) (m6 : (cN, oN) ∈ news)
    (m7 : (37, tabObj tab) ∈ news)
    (hdef : nestedDef ((hd.heap_1 w.params).lookup 42) 1 = some (params, body, scope)) (hcd : oc.data = .fields vs) (hvs : vs[1]? = some (.str qual tq)) (hA : oA.data = .cell (some (.ref lst))) (hI : oI.data = .cell (some (.ref rd))) (hN : oN.data = .cell (some (.int (n : Int) un')))
    (n1 : lst ≠ rd) (n2 : lst ≠ c) (n3 : lst ≠ cA) (n4 : lst ≠ cI) (n5 : lst ≠ cN) (q1 : rd ≠ 37) (q2 : c ≠ 37) (q3 : lst ≠ 37) (q4 : cA ≠ 37) (q5 : cI ≠ 37) (q6 : cN ≠ 37)
    (hn : 0 < n) (hn2 : n < 5000) (ha : a < 2 ^ 4000) (hal : a < 2 ^ (n * len)) (hi : IntsAre vals ns) (hz : ns = List.replicate len 0) (hl0 : 0 < len) (hl60 : len ≤ 60)
    (hd : dp + 65 < recursionLimit) (hu : un + 300 < cLine)
    (ret : ∀ vals' k' h' tk', IntsAre vals' (digsOf n len a) → Fr h₀ L h' m → News h₀ L h' (innerIL rd c lst cA cI cN oc oA oI oN name qual params body scope doc pm ct vals' k' ++ [(37, tabObj tab)]) → Q .none { s with heap := h', toks := tk' }) :
    wpAny (model Challenge.rw_pe0259_02.row.prog w) (Ar dp un gd (env :: outer)) (call (.ref rd) [.int (a : Int) t1, .int 0 t2, .int (len : Int) t3]) Q E s := by
  have hnl : ns.length = len := by rw [hz, List.length_replicate]
  refine use_g (innerI_c w rd c lst cA cI cN oc oA oI oN name qual params body scope doc pm ct vs tq n un' hdef hcd hvs hA hI hN n1 n2 n3 n4 n5 hn hn2 len vals ns k a 0 len t1 t2 t3 hi (by omega) hl0 (by omega) (by omega) hal
    (Nat.lt_of_lt_of_le ha (Nat.pow_le_pow_right (by omega) (by omega)))) (oth := [(37, tabObj tab)]) B F X N T hf hke ?_ ?_ ?_ (by omega) (by omega) ?_
  · exact List.forall_mem_cons.mpr ⟨m1, List.forall_mem_cons.mpr ⟨m2, List.forall_mem_cons.mpr ⟨m3, List.forall_mem_cons.mpr ⟨m4, List.forall_mem_cons.mpr ⟨m5, List.forall_mem_cons.mpr ⟨m6, List.forall_mem_nil _⟩⟩⟩⟩⟩⟩
  · exact List.forall_mem_cons.mpr ⟨m7, List.forall_mem_nil _⟩
  · exact List.forall_mem_cons.mpr ⟨List.forall_mem_cons.mpr ⟨q1.symm, List.forall_mem_cons.mpr ⟨q2.symm, List.forall_mem_cons.mpr ⟨q3.symm, List.forall_mem_cons.mpr ⟨q4.symm, List.forall_mem_cons.mpr ⟨q5.symm, List.forall_mem_cons.mpr ⟨q6.symm, List.forall_mem_nil _⟩⟩⟩⟩⟩⟩, List.forall_mem_nil _⟩
  rintro v sel' h' tk' F' N' - - ⟨rfl, vals', ns', k', hi', hl', hg', rfl⟩
  have e := digs_eq (ns := ns') (n := n) (a := a) (len := len) (by omega) (by rw [hz] at hg'; exact hg')
  exact ret vals' k' h' tk' (e ▸ hi') F' N'
end
theorem i2d_post {g h : Heap} {L : Addr} {news : List (Addr × Obj)} {P line col : Nat} {qual : Str} {D c : Addr} {vals : List Value} {k : Nat} {ns : List Int} {oc : Obj} {vs tab : Array Value} {t : Tok} (N : News g L h news)
    (m1 : (D, listOf vals.toArray k) ∈ news) (m2 : (P, tabObj tab) ∈ news) (htab : tab = #[rawInt line, rawInt col, .ref c]) (m3 : (c, oc) ∈ news) (hi : IntsAre vals ns) (hcd : oc.data = .fields vs) (hvs : vs[1]? = some (.str qual t)) (q1 : c ≠ P) (q2 : D ≠ P) (q3 : D ≠ c) :
    ∃ sel', (∀ p ∈ sel', h.get? p.1 = some p.2 ∧ g.get? p.1 = none) ∧ DigsAt P line col qual (.ref D) ns sel' := by
  subst htab
  refine ⟨_, ?_, D, vals, k, _, rfl, rfl, hi, .inr ⟨c, oc, vs, t, rfl, hcd, hvs, q1⟩, ?_⟩
  · have hm : ∀ p ∈ _, p ∈ news := List.forall_mem_cons.mpr ⟨m1, List.forall_mem_cons.mpr ⟨m2, List.forall_mem_cons.mpr ⟨m3, List.forall_mem_nil _⟩⟩⟩
    exact fun p hp => ⟨(N p (hm p hp)).1, (N p (hm p hp)).2.2⟩
  · exact List.forall_mem_cons.mpr ⟨q2.symm, List.forall_mem_cons.mpr ⟨q3.symm, List.forall_mem_nil _⟩⟩
theorem len_le {a n len : Nat} (hn : 0 < n) (hlen : len = (Builtin.Int.intBits (a : Int) + n - 1) / n) : a < 2 ^ (n * len) ∧ (a ≠ 0 → 0 < len) ∧ (a = 0 → len = 0) := by
  have h1 := lt_bits a
  refine ⟨Nat.lt_of_lt_of_le h1 (Nat.pow_le_pow_right (by omega) ?_), fun h => ?_, fun h => ?_⟩
  · have := Nat.lt_mul_div_succ (Builtin.Int.intBits (a : Int) + n - 1) hn
    rw [hlen, Nat.mul_comm]
    rw [Nat.mul_comm, Nat.add_mul, Nat.one_mul] at this
    omega
  · rw [hlen]
    apply Nat.div_pos _ hn
    have : Builtin.Int.intBits (a : Int) ≠ 0 := fun e => by rw [e] at h1; omega
    omega
  · subst h
    rw [hlen]
    show ((0 : Nat) + n - 1) / n = 0
    exact Nat.div_eq_of_lt (by omega)
theorem nat_of {x y : Nat} (h : (x : Int) = ((0 + 1 : Nat) : Int) * (y : Int)) : y = x := by omega
theorem int2digits_c (w : World) (a n len : Nat) (ta tn : Tok) (tb : List (Addr × Obj)) (TS : TabSt 37 35 4 "_int2digits.<locals>.inner" tb) (hn : 0 < n) (hn2 : n < 5000) (ha : a < 2 ^ 4000) (hlen : len = (Builtin.Int.intBits (a : Int) + n - 1) / n) (hl60 : len ≤ 60) :
    Con w 70 400 42 [.int a ta, .int n tn] tb (fun _ v blk => DigsAt 37 35 4 "_int2digits.<locals>.inner" v (digsOf n len a) blk) := by
  obtain ⟨b1, b2, b3⟩ := len_le hn hlen
  rcases TS with rfl | ⟨c0, oc0, vs0, t0, rfl, hcd0, hvs0, hcP⟩
  all_goals
    unfold Con
    k_fill
    intro dp un gd outer base g tp tl mean mg mb s R B hg hsz hsel X T hd hu ret
    refine' enter_gc hg hsz hsel X T ?k6 ?k7 ?k8 ?k9 ?kB ?kD ?_ ?c2 ?c3 ?c4
    (case k6 => k_is); (case k7 => k_is); (case k8 => ktr_room); (case k9 => exact BindsTo.of_eq rfl); (case kB => exact rfl); (case kD => decide +kernel); (case c2 => exact rfl); (case c3 => exact rfl); (case c4 => exact rfl)
    k_whole
    intro L' h' tk' cells' F' N' Y' l1
    (try k_lt l1); k_cells Y'; (try simp only [List.cons_append, List.nil_append] at N')
    have codeHd := codeHd_of_K (c := 41) (P := 37) X (by kernel_rfl)
    (try dsimp only); (try k_fold)
    ((repeat' ((fail_if_success (with_reducible show wpAny _ _ (call (Value.ref _) _) _ _ _)); (first | ((with_reducible show wpAny _ _ (binaryOp Operator.FloorDiv _ _) _ _ _); refine fdivlen hn hn2 hlen ?_) | (k_unfold; (try dsimp only)) | ((with_reducible first | show wpAny _ _ (exec _ _) _ _ _ | show wpAny _ _ (execs _ _) _ _ _); k_fold) | (k_end; wrow_close) | walk1 | (dsimp only; walk1) | (leave1; (try dsimp only))))) <;> (repeat (k_unfold; (try dsimp only))))
    · rename Fr _ _ _ _ => F9
      rename News _ _ _ _ => N9
      rename IntsAre _ _ => hi9
      rename ((a : Int) ≠ 0) => hane
      rename (0 ≤ (len : Int) → _) => e9
      have hn9 := nat_of (e9 (Int.natCast_nonneg _))
      subst hn9
      rw [Int.toNat_natCast] at hi9 N9
      refine i2d_call B F9 X N9 T rfl rfl (by k_mem) (by k_mem) (by k_mem) (by k_mem) (by k_mem) (by k_mem) (by k_mem) (by exact rfl) (by assumption) (by assumption) (by assumption) (by assumption) (by assumption)
        (by first | assumption | (refine Ne.symm ?_; assumption) | (refine neN ?_; (try dsimp only); first | (refine Nat.ne_of_gt ?_; with_reducible ((repeat (first | assumption | exact And.left (by assumption) | exact And.left (And.right (by assumption)) | exact And.right (And.right (by assumption)) | exact And.right (by assumption) | exact And.left (And.right (And.right (by assumption))) | exact And.right (And.right (And.right (by assumption))) | exact And.left (And.right (And.right (And.right (by assumption)))) | exact And.left (And.right (And.right (And.right (And.right (by assumption))))) | refine Nat.lt_trans ?_ (by assumption))); done)) | (refine Nat.ne_of_lt ?_; with_reducible ((repeat (first | assumption | exact And.left (by assumption) | exact And.left (And.right (by assumption)) | exact And.right (And.right (by assumption)) | exact And.right (by assumption) | exact And.left (And.right (And.right (by assumption))) | exact And.right (And.right (And.right (by assumption))) | exact And.left (And.right (And.right (And.right (by assumption)))) | exact And.left (And.right (And.right (And.right (And.right (by assumption))))) | refine Nat.lt_trans ?_ (by assumption))); done)) | omega)) (by first | assumption | (refine Ne.symm ?_; assumption) | (refine neN ?_; (try dsimp only); first | (refine Nat.ne_of_gt ?_; with_reducible ((repeat (first | assumption | exact And.left (by assumption) | exact And.left (And.right (by assumption)) | exact And.right (And.right (by assumption)) | exact And.right (by assumption) | exact And.left (And.right (And.right (by assumption))) | exact And.right (And.right (And.right (by assumption))) | exact And.left (And.right (And.right (And.right (by assumption)))) | exact And.left (And.right (And.right (And.right (And.right (by assumption))))) | refine Nat.lt_trans ?_ (by assumption))); done)) | (refine Nat.ne_of_lt ?_; with_reducible ((repeat (first | assumption | exact And.left (by assumption) | exact And.left (And.right (by assumption)) | exact And.right (And.right (by assumption)) | exact And.right (by assumption) | exact And.left (And.right (And.right (by assumption))) | exact And.right (And.right (And.right (by assumption))) | exact And.left (And.right (And.right (And.right (by assumption)))) | exact And.left (And.right (And.right (And.right (And.right (by assumption))))) | refine Nat.lt_trans ?_ (by assumption))); done)) | omega)) (by first | assumption | (refine Ne.symm ?_; assumption) | (refine neN ?_; (try dsimp only); first | (refine Nat.ne_of_gt ?_; with_reducible ((repeat (first | assumption | exact And.left (by assumption) | exact And.left (And.right (by assumption)) | exact And.right (And.right (by assumption)) | exact And.right (by assumption) | exact And.left (And.right (And.right (by assumption))) | exact And.right (And.right (And.right (by assumption))) | exact And.left (And.right (And.right (And.right (by assumption)))) | exact And.left (And.right (And.right (And.right (And.right (by assumption))))) | refine Nat.lt_trans ?_ (by assumption))); done)) | (refine Nat.ne_of_lt ?_; with_reducible ((repeat (first | assumption | exact And.left (by assumption) | exact And.left (And.right (by assumption)) | exact And.right (And.right (by assumption)) | exact And.right (by assumption) | exact And.left (And.right (And.right (by assumption))) | exact And.right (And.right (And.right (by assumption))) | exact And.left (And.right (And.right (And.right (by assumption)))) | exact And.left (And.right (And.right (And.right (And.right (by assumption))))) | refine Nat.lt_trans ?_ (by assumption))); done)) | omega)) (by first | assumption | (refine Ne.symm ?_; assumption) | (refine neN ?_; (try dsimp only); first | (refine Nat.ne_of_gt ?_; with_reducible ((repeat (first | assumption | exact And.left (by assumption) | exact And.left (And.right (by assumption)) | exact And.right (And.right (by assumption)) | exact And.right (by assumption) | exact And.left (And.right (And.right (by assumption))) | exact And.right (And.right (And.right (by assumption))) | exact And.left (And.right (And.right (And.right (by assumption)))) | exact And.left (And.right (And.right (And.right (And.right (by assumption))))) | refine Nat.lt_trans ?_ (by assumption))); done)) | (refine Nat.ne_of_lt ?_; with_reducible ((repeat (first | assumption | exact And.left (by assumption) | exact And.left (And.right (by assumption)) | exact And.right (And.right (by assumption)) | exact And.right (by assumption) | exact And.left (And.right (And.right (by assumption))) | exact And.right (And.right (And.right (by assumption))) | exact And.left (And.right (And.right (And.right (by assumption)))) | exact And.left (And.right (And.right (And.right (And.right (by assumption))))) | refine Nat.lt_trans ?_ (by assumption))); done)) | omega)) (by first | assumption | (refine Ne.symm ?_; assumption) | (refine neN ?_; (try dsimp only); first | (refine Nat.ne_of_gt ?_; with_reducible ((repeat (first | assumption | exact And.left (by assumption) | exact And.left (And.right (by assumption)) | exact And.right (And.right (by assumption)) | exact And.right (by assumption) | exact And.left (And.right (And.right (by assumption))) | exact And.right (And.right (And.right (by assumption))) | exact And.left (And.right (And.right (And.right (by assumption)))) | exact And.left (And.right (And.right (And.right (And.right (by assumption))))) | refine Nat.lt_trans ?_ (by assumption))); done)) | (refine Nat.ne_of_lt ?_; with_reducible ((repeat (first | assumption | exact And.left (by assumption) | exact And.left (And.right (by assumption)) | exact And.right (And.right (by assumption)) | exact And.right (by assumption) | exact And.left (And.right (And.right (by assumption))) | exact And.right (And.right (And.right (by assumption))) | exact And.left (And.right (And.right (And.right (by assumption)))) | exact And.left (And.right (And.right (And.right (And.right (by assumption))))) | refine Nat.lt_trans ?_ (by assumption))); done)) | omega)) (by first | assumption | (refine Ne.symm ?_; assumption) | (refine neN ?_; (try dsimp only); first | (refine Nat.ne_of_gt ?_; with_reducible ((repeat (first | assumption | exact And.left (by assumption) | exact And.left (And.right (by assumption)) | exact And.right (And.right (by assumption)) | exact And.right (by assumption) | exact And.left (And.right (And.right (by assumption))) | exact And.right (And.right (And.right (by assumption))) | exact And.left (And.right (And.right (And.right (by assumption)))) | exact And.left (And.right (And.right (And.right (And.right (by assumption))))) | refine Nat.lt_trans ?_ (by assumption))); done)) | (refine Nat.ne_of_lt ?_; with_reducible ((repeat (first | assumption | exact And.left (by assumption) | exact And.left (And.right (by assumption)) | exact And.right (And.right (by assumption)) | exact And.right (by assumption) | exact And.left (And.right (And.right (by assumption))) | exact And.right (And.right (And.right (by assumption))) | exact And.left (And.right (And.right (And.right (by assumption)))) | exact And.left (And.right (And.right (And.right (And.right (by assumption))))) | refine Nat.lt_trans ?_ (by assumption))); done)) | omega)) (by first | assumption | (refine Ne.symm ?_; assumption) | (refine neN ?_; (try dsimp only); first | (refine Nat.ne_of_gt ?_; with_reducible ((repeat (first | assumption | exact And.left (by assumption) | exact And.left (And.right (by assumption)) | exact And.right (And.right (by assumption)) | exact And.right (by assumption) | exact And.left (And.right (And.right (by assumption))) | exact And.right (And.right (And.right (by assumption))) | exact And.left (And.right (And.right (And.right (by assumption)))) | exact And.left (And.right (And.right (And.right (And.right (by assumption))))) | refine Nat.lt_trans ?_ (by assumption))); done)) | (refine Nat.ne_of_lt ?_; with_reducible ((repeat (first | assumption | exact And.left (by assumption) | exact And.left (And.right (by assumption)) | exact And.right (And.right (by assumption)) | exact And.right (by assumption) | exact And.left (And.right (And.right (by assumption))) | exact And.right (And.right (And.right (by assumption))) | exact And.left (And.right (And.right (And.right (by assumption)))) | exact And.left (And.right (And.right (And.right (And.right (by assumption))))) | refine Nat.lt_trans ?_ (by assumption))); done)) | omega)) (by first | assumption | (refine Ne.symm ?_; assumption) | (refine neN ?_; (try dsimp only); first | (refine Nat.ne_of_gt ?_; with_reducible ((repeat (first | assumption | exact And.left (by assumption) | exact And.left (And.right (by assumption)) | exact And.right (And.right (by assumption)) | exact And.right (by assumption) | exact And.left (And.right (And.right (by assumption))) | exact And.right (And.right (And.right (by assumption))) | exact And.left (And.right (And.right (And.right (by assumption)))) | exact And.left (And.right (And.right (And.right (And.right (by assumption))))) | refine Nat.lt_trans ?_ (by assumption))); done)) | (refine Nat.ne_of_lt ?_; with_reducible ((repeat (first | assumption | exact And.left (by assumption) | exact And.left (And.right (by assumption)) | exact And.right (And.right (by assumption)) | exact And.right (by assumption) | exact And.left (And.right (And.right (by assumption))) | exact And.right (And.right (And.right (by assumption))) | exact And.left (And.right (And.right (And.right (by assumption)))) | exact And.left (And.right (And.right (And.right (And.right (by assumption))))) | refine Nat.lt_trans ?_ (by assumption))); done)) | omega)) (by first | assumption | (refine Ne.symm ?_; assumption) | (refine neN ?_; (try dsimp only); first | (refine Nat.ne_of_gt ?_; with_reducible ((repeat (first | assumption | exact And.left (by assumption) | exact And.left (And.right (by assumption)) | exact And.right (And.right (by assumption)) | exact And.right (by assumption) | exact And.left (And.right (And.right (by assumption))) | exact And.right (And.right (And.right (by assumption))) | exact And.left (And.right (And.right (And.right (by assumption)))) | exact And.left (And.right (And.right (And.right (And.right (by assumption))))) | refine Nat.lt_trans ?_ (by assumption))); done)) | (refine Nat.ne_of_lt ?_; with_reducible ((repeat (first | assumption | exact And.left (by assumption) | exact And.left (And.right (by assumption)) | exact And.right (And.right (by assumption)) | exact And.right (by assumption) | exact And.left (And.right (And.right (by assumption))) | exact And.right (And.right (And.right (by assumption))) | exact And.left (And.right (And.right (And.right (by assumption)))) | exact And.left (And.right (And.right (And.right (And.right (by assumption))))) | refine Nat.lt_trans ?_ (by assumption))); done)) | omega)) (by first | assumption | (refine Ne.symm ?_; assumption) | (refine neN ?_; (try dsimp only); first | (refine Nat.ne_of_gt ?_; with_reducible ((repeat (first | assumption | exact And.left (by assumption) | exact And.left (And.right (by assumption)) | exact And.right (And.right (by assumption)) | exact And.right (by assumption) | exact And.left (And.right (And.right (by assumption))) | exact And.right (And.right (And.right (by assumption))) | exact And.left (And.right (And.right (And.right (by assumption)))) | exact And.left (And.right (And.right (And.right (And.right (by assumption))))) | refine Nat.lt_trans ?_ (by assumption))); done)) | (refine Nat.ne_of_lt ?_; with_reducible ((repeat (first | assumption | exact And.left (by assumption) | exact And.left (And.right (by assumption)) | exact And.right (And.right (by assumption)) | exact And.right (by assumption) | exact And.left (And.right (And.right (by assumption))) | exact And.right (And.right (And.right (by assumption))) | exact And.left (And.right (And.right (And.right (by assumption)))) | exact And.left (And.right (And.right (And.right (And.right (by assumption))))) | refine Nat.lt_trans ?_ (by assumption))); done)) | omega)) (by first | assumption | (refine Ne.symm ?_; assumption) | (refine neN ?_; (try dsimp only); first | (refine Nat.ne_of_gt ?_; with_reducible ((repeat (first | assumption | exact And.left (by assumption) | exact And.left (And.right (by assumption)) | exact And.right (And.right (by assumption)) | exact And.right (by assumption) | exact And.left (And.right (And.right (by assumption))) | exact And.right (And.right (And.right (by assumption))) | exact And.left (And.right (And.right (And.right (by assumption)))) | exact And.left (And.right (And.right (And.right (And.right (by assumption))))) | refine Nat.lt_trans ?_ (by assumption))); done)) | (refine Nat.ne_of_lt ?_; with_reducible ((repeat (first | assumption | exact And.left (by assumption) | exact And.left (And.right (by assumption)) | exact And.right (And.right (by assumption)) | exact And.right (by assumption) | exact And.left (And.right (And.right (by assumption))) | exact And.right (And.right (And.right (by assumption))) | exact And.left (And.right (And.right (And.right (by assumption)))) | exact And.left (And.right (And.right (And.right (And.right (by assumption))))) | refine Nat.lt_trans ?_ (by assumption))); done)) | omega)) hn hn2 ha b1 hi9 (rep_flat _ _) (b2 (by omega)) hl60 (by k_room) (by k_units) ?_
      intro vals2 k2 h2 tk2 hi2 F2 N2
      simp only [innerIL, List.cons_append, List.nil_append] at N2
      clear F9 N9
      (try dsimp only)
      ((repeat' (first | (k_unfold; (try dsimp only)) | ((with_reducible first | show wpAny _ _ (exec _ _) _ _ _ | show wpAny _ _ (execs _ _) _ _ _); k_fold) | (k_end; wrow_close) | walk1 | (dsimp only; walk1) | (leave1; (try dsimp only)))) <;> (repeat (k_unfold; (try dsimp only))))
      (try dsimp only)
      rename Fr _ _ _ _ => F9
      rename News _ _ _ _ => N9
      refine (i2d_post N9 (by k_mem) (by k_mem) (by exact rfl) (by k_mem) hi2 (by assumption) (by assumption) (by first | assumption | (refine Ne.symm ?_; assumption) | (refine neN ?_; (try dsimp only); first | (refine Nat.ne_of_gt ?_; with_reducible ((repeat (first | assumption | exact And.left (by assumption) | exact And.left (And.right (by assumption)) | exact And.right (And.right (by assumption)) | exact And.right (by assumption) | exact And.left (And.right (And.right (by assumption))) | exact And.right (And.right (And.right (by assumption))) | exact And.left (And.right (And.right (And.right (by assumption)))) | exact And.left (And.right (And.right (And.right (And.right (by assumption))))) | refine Nat.lt_trans ?_ (by assumption))); done)) | (refine Nat.ne_of_lt ?_; with_reducible ((repeat (first | assumption | exact And.left (by assumption) | exact And.left (And.right (by assumption)) | exact And.right (And.right (by assumption)) | exact And.right (by assumption) | exact And.left (And.right (And.right (by assumption))) | exact And.right (And.right (And.right (by assumption))) | exact And.left (And.right (And.right (And.right (by assumption)))) | exact And.left (And.right (And.right (And.right (And.right (by assumption))))) | refine Nat.lt_trans ?_ (by assumption))); done)) | omega)) (by first | assumption | (refine Ne.symm ?_; assumption) | (refine neN ?_; (try dsimp only); first | (refine Nat.ne_of_gt ?_; with_reducible ((repeat (first | assumption | exact And.left (by assumption) | exact And.left (And.right (by assumption)) | exact And.right (And.right (by assumption)) | exact And.right (by assumption) | exact And.left (And.right (And.right (by assumption))) | exact And.right (And.right (And.right (by assumption))) | exact And.left (And.right (And.right (And.right (by assumption)))) | exact And.left (And.right (And.right (And.right (And.right (by assumption))))) | refine Nat.lt_trans ?_ (by assumption))); done)) | (refine Nat.ne_of_lt ?_; with_reducible ((repeat (first | assumption | exact And.left (by assumption) | exact And.left (And.right (by assumption)) | exact And.right (And.right (by assumption)) | exact And.right (by assumption) | exact And.left (And.right (And.right (by assumption))) | exact And.right (And.right (And.right (by assumption))) | exact And.left (And.right (And.right (And.right (by assumption)))) | exact And.left (And.right (And.right (And.right (And.right (by assumption))))) | refine Nat.lt_trans ?_ (by assumption))); done)) | omega)) (by first | assumption | (refine Ne.symm ?_; assumption) | (refine neN ?_; (try dsimp only); first | (refine Nat.ne_of_gt ?_; with_reducible ((repeat (first | assumption | exact And.left (by assumption) | exact And.left (And.right (by assumption)) | exact And.right (And.right (by assumption)) | exact And.right (by assumption) | exact And.left (And.right (And.right (by assumption))) | exact And.right (And.right (And.right (by assumption))) | exact And.left (And.right (And.right (And.right (by assumption)))) | exact And.left (And.right (And.right (And.right (And.right (by assumption))))) | refine Nat.lt_trans ?_ (by assumption))); done)) | (refine Nat.ne_of_lt ?_; with_reducible ((repeat (first | assumption | exact And.left (by assumption) | exact And.left (And.right (by assumption)) | exact And.right (And.right (by assumption)) | exact And.right (by assumption) | exact And.left (And.right (And.right (by assumption))) | exact And.right (And.right (And.right (by assumption))) | exact And.left (And.right (And.right (And.right (by assumption)))) | exact And.left (And.right (And.right (And.right (And.right (by assumption))))) | refine Nat.lt_trans ?_ (by assumption))); done)) | omega))).elim (fun sel9 H9 => ret _ sel9 _ _ F9.keep H9.1 H9.2)
    · rename Fr _ _ _ _ => F9
      rename News _ _ _ _ => N9
      rename IntsAre _ _ => hi9
      rename ((a : Int) = 0) => hane
      have hl0 := b3 (by omega)
      (try dsimp only)
      have hdz : digsOf n len a = (List.replicate (Int.toNat (len : Int)) [(0 : Int)]).flatten := by rw [hl0]; rfl
      rw [← hdz] at hi9
      refine (i2d_post N9 (by k_mem) (by k_mem) (by exact rfl) (by k_mem) hi9 (by assumption) (by assumption) (by first | assumption | (refine Ne.symm ?_; assumption) | (refine neN ?_; (try dsimp only); first | (refine Nat.ne_of_gt ?_; with_reducible ((repeat (first | assumption | exact And.left (by assumption) | exact And.left (And.right (by assumption)) | exact And.right (And.right (by assumption)) | exact And.right (by assumption) | exact And.left (And.right (And.right (by assumption))) | exact And.right (And.right (And.right (by assumption))) | exact And.left (And.right (And.right (And.right (by assumption)))) | exact And.left (And.right (And.right (And.right (And.right (by assumption))))) | refine Nat.lt_trans ?_ (by assumption))); done)) | (refine Nat.ne_of_lt ?_; with_reducible ((repeat (first | assumption | exact And.left (by assumption) | exact And.left (And.right (by assumption)) | exact And.right (And.right (by assumption)) | exact And.right (by assumption) | exact And.left (And.right (And.right (by assumption))) | exact And.right (And.right (And.right (by assumption))) | exact And.left (And.right (And.right (And.right (by assumption)))) | exact And.left (And.right (And.right (And.right (And.right (by assumption))))) | refine Nat.lt_trans ?_ (by assumption))); done)) | omega)) (by first | assumption | (refine Ne.symm ?_; assumption) | (refine neN ?_; (try dsimp only); first | (refine Nat.ne_of_gt ?_; with_reducible ((repeat (first | assumption | exact And.left (by assumption) | exact And.left (And.right (by assumption)) | exact And.right (And.right (by assumption)) | exact And.right (by assumption) | exact And.left (And.right (And.right (by assumption))) | exact And.right (And.right (And.right (by assumption))) | exact And.left (And.right (And.right (And.right (by assumption)))) | exact And.left (And.right (And.right (And.right (And.right (by assumption))))) | refine Nat.lt_trans ?_ (by assumption))); done)) | (refine Nat.ne_of_lt ?_; with_reducible ((repeat (first | assumption | exact And.left (by assumption) | exact And.left (And.right (by assumption)) | exact And.right (And.right (by assumption)) | exact And.right (by assumption) | exact And.left (And.right (And.right (by assumption))) | exact And.right (And.right (And.right (by assumption))) | exact And.left (And.right (And.right (And.right (by assumption)))) | exact And.left (And.right (And.right (And.right (And.right (by assumption))))) | refine Nat.lt_trans ?_ (by assumption))); done)) | omega)) (by first | assumption | (refine Ne.symm ?_; assumption) | (refine neN ?_; (try dsimp only); first | (refine Nat.ne_of_gt ?_; with_reducible ((repeat (first | assumption | exact And.left (by assumption) | exact And.left (And.right (by assumption)) | exact And.right (And.right (by assumption)) | exact And.right (by assumption) | exact And.left (And.right (And.right (by assumption))) | exact And.right (And.right (And.right (by assumption))) | exact And.left (And.right (And.right (And.right (by assumption)))) | exact And.left (And.right (And.right (And.right (And.right (by assumption))))) | refine Nat.lt_trans ?_ (by assumption))); done)) | (refine Nat.ne_of_lt ?_; with_reducible ((repeat (first | assumption | exact And.left (by assumption) | exact And.left (And.right (by assumption)) | exact And.right (And.right (by assumption)) | exact And.right (by assumption) | exact And.left (And.right (And.right (by assumption))) | exact And.right (And.right (And.right (by assumption))) | exact And.left (And.right (And.right (And.right (by assumption)))) | exact And.left (And.right (And.right (And.right (And.right (by assumption))))) | refine Nat.lt_trans ?_ (by assumption))); done)) | omega))).elim (fun sel9 H9 => ret _ sel9 _ _ F9.keep H9.1 H9.2)
section
variable {dp un : Nat} {gd : Option (List Code)} {env : Env} {outer : List Env} {A₀ : Around} {base h₀ : Heap} {L : Addr} {m : Str → Option Value} {tp : Program} {tl : List Str} {mean : ExcName → Option Value} {mg mb : Str → Option Value} {s : Shared} {w : World}
theorem d2i_call {Q E : Value → Shared → Prop} {news : List (Addr × Obj)} {rd c lst cA cI cN : Addr} {oc oA oI oN : Obj} {name qual : Str} {params : Arguments} {body : List Stmt} {scope : Scope} {doc pm ct : Value} {vs tab : Array Value} {tq : Tok} {n len : Nat} {un' t1 t2 : Tok} {vals : List Value} {ns : List Int} {k : Nat} {f : Nat → Nat}
    (B : Below A₀ base outer h₀) (F : Fr h₀ L s.heap m) (X : (hd.heap_1 w.params).In h₀) (N : News h₀ L s.heap news) (T : Top tp tl mean mg mb h₀) (hf : env.frame = some L) (hke : env.scope.kind = .function)
    (m1 : (rd, { cls := .type "function", data := .func (fnX name qual params body scope [("n", cN), ("inner", cI), ("digits", cA)] .none .none doc pm none (.ref c) ct) }) ∈ news) (m2 : (c, oc) ∈ news) (m3 : (lst, listOf vals.toArray k) ∈ news) (m4 : (cA, oA) ∈ news) (m5 : (cI, oI) ∈ news) (m6 : (cN, oN) ∈ news)
    (m7 : (44, tabObj tab) ∈ news)
    (hdef : nestedDef ((hd.heap_1 w.params).lookup 49) 0 = some (params, body, scope)) (hcd : oc.data = .fields vs) (hvs : vs[1]? = some (.str qual tq)) (hA : oA.data = .cell (some (.ref lst))) (hI : oI.data = .cell (some (.ref rd))) (hN : oN.data = .cell (some (.int (n : Int) un')))
    (n1 : lst ≠ rd) (n2 : lst ≠ c) (n3 : lst ≠ cA) (n4 : lst ≠ cI) (n5 : lst ≠ cN) (q1 : rd ≠ 44) (q2 : c ≠ 44) (q3 : lst ≠ 44) (q4 : cA ≠ 44) (q5 : cI ≠ 44) (q6 : cN ≠ 44)
    (hn : 0 < n) (hn2 : n < 5000) (hi : IntsAre vals ns) (hfx : ∀ i, f i < 2 ^ n) (hfn : ∀ i, ns.getD i 0 = (f i : Int)) (hlen : ns.length = len) (hl0 : 0 < len) (hl60 : len ≤ 60)
    (hd : dp + 65 < recursionLimit) (hu : un + 300 < cLine)
    (ret : ∀ t h' tk', Fr h₀ L h' m → News h₀ L h' (innerDL rd c lst cA cI cN oc oA oI oN name qual params body scope doc pm ct vals k ++ [(44, tabObj tab)]) → Q (.int ((hv n f 0 len : Nat) : Int) t) { s with heap := h', toks := tk' }) :
    wpAny (model Challenge.rw_pe0259_02.row.prog w) (Ar dp un gd (env :: outer)) (call (.ref rd) [.int 0 t1, .int (len : Int) t2]) Q E s := by
  refine use_g (innerD_c w rd c lst cA cI cN oc oA oI oN name qual params body scope doc pm ct vs tq n un' hdef hcd hvs hA hI hN n1 n2 n3 n4 n5 hn hn2 vals ns k f hi (by omega) hfx hfn len 0 len t1 t2 hl0 (by omega) (by omega)) (oth := [(44, tabObj tab)]) B F X N T hf hke ?_ ?_ ?_ (by omega) (by omega) ?_
  · exact List.forall_mem_cons.mpr ⟨m1, List.forall_mem_cons.mpr ⟨m2, List.forall_mem_cons.mpr ⟨m3, List.forall_mem_cons.mpr ⟨m4, List.forall_mem_cons.mpr ⟨m5, List.forall_mem_cons.mpr ⟨m6, List.forall_mem_nil _⟩⟩⟩⟩⟩⟩
  · exact List.forall_mem_cons.mpr ⟨m7, List.forall_mem_nil _⟩
  · exact List.forall_mem_cons.mpr ⟨List.forall_mem_cons.mpr ⟨q1.symm, List.forall_mem_cons.mpr ⟨q2.symm, List.forall_mem_cons.mpr ⟨q3.symm, List.forall_mem_cons.mpr ⟨q4.symm, List.forall_mem_cons.mpr ⟨q5.symm, List.forall_mem_cons.mpr ⟨q6.symm, List.forall_mem_nil _⟩⟩⟩⟩⟩⟩, List.forall_mem_nil _⟩
  rintro v sel' h' tk' F' N' - - ⟨⟨t, rfl⟩, rfl⟩
  exact ret t h' tk' F' N'
end
theorem tab_post {g h : Heap} {L : Addr} {news : List (Addr × Obj)} {P line col : Nat} {qual : Str} {c : Addr} {oc : Obj} {vs tab : Array Value} {t : Tok} (N : News g L h news)
    (m2 : (P, tabObj tab) ∈ news) (htab : tab = #[rawInt line, rawInt col, .ref c]) (m3 : (c, oc) ∈ news) (hcd : oc.data = .fields vs) (hvs : vs[1]? = some (.str qual t)) (q1 : c ≠ P) :
    ∃ sel', (∀ p ∈ sel', h.get? p.1 = some p.2 ∧ g.get? p.1 = none) ∧ TabSt P line col qual sel' := by
  subst htab
  refine ⟨_, ?_, .inr ⟨c, oc, vs, t, rfl, hcd, hvs, q1⟩⟩
  have hm : ∀ p ∈ _, p ∈ news := List.forall_mem_cons.mpr ⟨m2, List.forall_mem_cons.mpr ⟨m3, List.forall_mem_nil _⟩⟩
  exact fun p hp => ⟨(N p (hm p hp)).1, (N p (hm p hp)).2.2⟩
theorem digits2int_c (w : World) (lst : Addr) (vals : List Value) (ns : List Int) (k n len : Nat) (f : Nat → Nat) (tn : Tok) (tb : List (Addr × Obj)) (TS : TabSt 44 50 4 "_digits2int.<locals>.inner" tb) (hlt : ∀ p ∈ tb, lst ≠ p.1) (hn : 0 < n) (hn2 : n < 5000) (hv1 : IntsAre vals ns) (hlen : ns.length = len) (hl : len ≤ 60)
    (hfx : ∀ i, f i < 2 ^ n) (hfn : ∀ i, ns.getD i 0 = (f i : Int)) :
    Con w 70 400 49 [.ref lst, .int n tn] ((lst, listOf vals.toArray k) :: tb) (fun _ v blk => (∃ t, v = .int ((hv n f 0 len : Nat) : Int) t) ∧ TabSt 44 50 4 "_digits2int.<locals>.inner" blk) := by
  have hl9 := hv1.length
  rcases TS with rfl | ⟨c0, oc0, vs0, t0, rfl, hcd0, hvs0, hcP⟩
  all_goals
    have h44 : lst ≠ 44 := hlt (44, _) (.head _)
    try have h45 : lst ≠ c0 := hlt (c0, _) (.tail _ (.head _))
    unfold Con
    k_fill
    intro dp un gd outer base g tp tl mean mg mb s R B hg hsz hsel X T hd hu ret
    refine' enter_gc hg hsz hsel X T ?k6 ?k7 ?k8 ?k9 ?kB ?kD ?_ ?c2 ?c3 ?c4
    (case k6 => k_is); (case k7 => k_is); (case k8 => ktr_room); (case k9 => exact BindsTo.of_eq rfl); (case kB => exact rfl); (case kD => decide +kernel); (case c2 => exact rfl); (case c3 => exact rfl); (case c4 => exact rfl)
    k_whole
    intro L' h' tk' cells' F' N' Y' l1
    (try k_lt l1); k_cells Y'; (try simp only [List.cons_append, List.nil_append] at N')
    have codeHd := codeHd_of_K (c := 48) (P := 44) X (by kernel_rfl)
    (try dsimp only); (try k_fold)
    ((repeat' ((fail_if_success (with_reducible show wpAny _ _ (call (Value.ref _) _) _ _ _)); (first | (k_unfold; (try dsimp only)) | ((with_reducible first | show wpAny _ _ (exec _ _) _ _ _ | show wpAny _ _ (execs _ _) _ _ _); k_fold) | (k_end; wrow_close) | walk1 | (dsimp only; walk1) | (leave1; (try dsimp only))))) <;> (repeat (k_unfold; (try dsimp only))))
    · rename Fr _ _ _ _ => F9
      rename News _ _ _ _ => N9
      rename (0 < ns.length) => hpos
      refine d2i_call B F9 X N9 T rfl rfl (by k_mem) (by k_mem) (by k_mem) (by k_mem) (by k_mem) (by k_mem) (by k_mem) (by exact rfl) (by assumption) (by assumption) (by assumption) (by assumption) (by assumption)
        (by first | assumption | (refine Ne.symm ?_; assumption) | (refine neN ?_; (try dsimp only); first | (refine Nat.ne_of_gt ?_; with_reducible ((repeat (first | assumption | exact And.left (by assumption) | exact And.left (And.right (by assumption)) | exact And.right (And.right (by assumption)) | exact And.right (by assumption) | exact And.left (And.right (And.right (by assumption))) | exact And.right (And.right (And.right (by assumption))) | exact And.left (And.right (And.right (And.right (by assumption)))) | exact And.left (And.right (And.right (And.right (And.right (by assumption))))) | refine Nat.lt_trans ?_ (by assumption))); done)) | (refine Nat.ne_of_lt ?_; with_reducible ((repeat (first | assumption | exact And.left (by assumption) | exact And.left (And.right (by assumption)) | exact And.right (And.right (by assumption)) | exact And.right (by assumption) | exact And.left (And.right (And.right (by assumption))) | exact And.right (And.right (And.right (by assumption))) | exact And.left (And.right (And.right (And.right (by assumption)))) | exact And.left (And.right (And.right (And.right (And.right (by assumption))))) | refine Nat.lt_trans ?_ (by assumption))); done)) | omega)) (by first | assumption | (refine Ne.symm ?_; assumption) | (refine neN ?_; (try dsimp only); first | (refine Nat.ne_of_gt ?_; with_reducible ((repeat (first | assumption | exact And.left (by assumption) | exact And.left (And.right (by assumption)) | exact And.right (And.right (by assumption)) | exact And.right (by assumption) | exact And.left (And.right (And.right (by assumption))) | exact And.right (And.right (And.right (by assumption))) | exact And.left (And.right (And.right (And.right (by assumption)))) | exact And.left (And.right (And.right (And.right (And.right (by assumption))))) | refine Nat.lt_trans ?_ (by assumption))); done)) | (refine Nat.ne_of_lt ?_; with_reducible ((repeat (first | assumption | exact And.left (by assumption) | exact And.left (And.right (by assumption)) | exact And.right (And.right (by assumption)) | exact And.right (by assumption) | exact And.left (And.right (And.right (by assumption))) | exact And.right (And.right (And.right (by assumption))) | exact And.left (And.right (And.right (And.right (by assumption)))) | exact And.left (And.right (And.right (And.right (And.right (by assumption))))) | refine Nat.lt_trans ?_ (by assumption))); done)) | omega)) (by first | assumption | (refine Ne.symm ?_; assumption) | (refine neN ?_; (try dsimp only); first | (refine Nat.ne_of_gt ?_; with_reducible ((repeat (first | assumption | exact And.left (by assumption) | exact And.left (And.right (by assumption)) | exact And.right (And.right (by assumption)) | exact And.right (by assumption) | exact And.left (And.right (And.right (by assumption))) | exact And.right (And.right (And.right (by assumption))) | exact And.left (And.right (And.right (And.right (by assumption)))) | exact And.left (And.right (And.right (And.right (And.right (by assumption))))) | refine Nat.lt_trans ?_ (by assumption))); done)) | (refine Nat.ne_of_lt ?_; with_reducible ((repeat (first | assumption | exact And.left (by assumption) | exact And.left (And.right (by assumption)) | exact And.right (And.right (by assumption)) | exact And.right (by assumption) | exact And.left (And.right (And.right (by assumption))) | exact And.right (And.right (And.right (by assumption))) | exact And.left (And.right (And.right (And.right (by assumption)))) | exact And.left (And.right (And.right (And.right (And.right (by assumption))))) | refine Nat.lt_trans ?_ (by assumption))); done)) | omega)) (by first | assumption | (refine Ne.symm ?_; assumption) | (refine neN ?_; (try dsimp only); first | (refine Nat.ne_of_gt ?_; with_reducible ((repeat (first | assumption | exact And.left (by assumption) | exact And.left (And.right (by assumption)) | exact And.right (And.right (by assumption)) | exact And.right (by assumption) | exact And.left (And.right (And.right (by assumption))) | exact And.right (And.right (And.right (by assumption))) | exact And.left (And.right (And.right (And.right (by assumption)))) | exact And.left (And.right (And.right (And.right (And.right (by assumption))))) | refine Nat.lt_trans ?_ (by assumption))); done)) | (refine Nat.ne_of_lt ?_; with_reducible ((repeat (first | assumption | exact And.left (by assumption) | exact And.left (And.right (by assumption)) | exact And.right (And.right (by assumption)) | exact And.right (by assumption) | exact And.left (And.right (And.right (by assumption))) | exact And.right (And.right (And.right (by assumption))) | exact And.left (And.right (And.right (And.right (by assumption)))) | exact And.left (And.right (And.right (And.right (And.right (by assumption))))) | refine Nat.lt_trans ?_ (by assumption))); done)) | omega)) (by first | assumption | (refine Ne.symm ?_; assumption) | (refine neN ?_; (try dsimp only); first | (refine Nat.ne_of_gt ?_; with_reducible ((repeat (first | assumption | exact And.left (by assumption) | exact And.left (And.right (by assumption)) | exact And.right (And.right (by assumption)) | exact And.right (by assumption) | exact And.left (And.right (And.right (by assumption))) | exact And.right (And.right (And.right (by assumption))) | exact And.left (And.right (And.right (And.right (by assumption)))) | exact And.left (And.right (And.right (And.right (And.right (by assumption))))) | refine Nat.lt_trans ?_ (by assumption))); done)) | (refine Nat.ne_of_lt ?_; with_reducible ((repeat (first | assumption | exact And.left (by assumption) | exact And.left (And.right (by assumption)) | exact And.right (And.right (by assumption)) | exact And.right (by assumption) | exact And.left (And.right (And.right (by assumption))) | exact And.right (And.right (And.right (by assumption))) | exact And.left (And.right (And.right (And.right (by assumption)))) | exact And.left (And.right (And.right (And.right (And.right (by assumption))))) | refine Nat.lt_trans ?_ (by assumption))); done)) | omega)) (by first | assumption | (refine Ne.symm ?_; assumption) | (refine neN ?_; (try dsimp only); first | (refine Nat.ne_of_gt ?_; with_reducible ((repeat (first | assumption | exact And.left (by assumption) | exact And.left (And.right (by assumption)) | exact And.right (And.right (by assumption)) | exact And.right (by assumption) | exact And.left (And.right (And.right (by assumption))) | exact And.right (And.right (And.right (by assumption))) | exact And.left (And.right (And.right (And.right (by assumption)))) | exact And.left (And.right (And.right (And.right (And.right (by assumption))))) | refine Nat.lt_trans ?_ (by assumption))); done)) | (refine Nat.ne_of_lt ?_; with_reducible ((repeat (first | assumption | exact And.left (by assumption) | exact And.left (And.right (by assumption)) | exact And.right (And.right (by assumption)) | exact And.right (by assumption) | exact And.left (And.right (And.right (by assumption))) | exact And.right (And.right (And.right (by assumption))) | exact And.left (And.right (And.right (And.right (by assumption)))) | exact And.left (And.right (And.right (And.right (And.right (by assumption))))) | refine Nat.lt_trans ?_ (by assumption))); done)) | omega)) (by first | assumption | (refine Ne.symm ?_; assumption) | (refine neN ?_; (try dsimp only); first | (refine Nat.ne_of_gt ?_; with_reducible ((repeat (first | assumption | exact And.left (by assumption) | exact And.left (And.right (by assumption)) | exact And.right (And.right (by assumption)) | exact And.right (by assumption) | exact And.left (And.right (And.right (by assumption))) | exact And.right (And.right (And.right (by assumption))) | exact And.left (And.right (And.right (And.right (by assumption)))) | exact And.left (And.right (And.right (And.right (And.right (by assumption))))) | refine Nat.lt_trans ?_ (by assumption))); done)) | (refine Nat.ne_of_lt ?_; with_reducible ((repeat (first | assumption | exact And.left (by assumption) | exact And.left (And.right (by assumption)) | exact And.right (And.right (by assumption)) | exact And.right (by assumption) | exact And.left (And.right (And.right (by assumption))) | exact And.right (And.right (And.right (by assumption))) | exact And.left (And.right (And.right (And.right (by assumption)))) | exact And.left (And.right (And.right (And.right (And.right (by assumption))))) | refine Nat.lt_trans ?_ (by assumption))); done)) | omega)) (by first | assumption | (refine Ne.symm ?_; assumption) | (refine neN ?_; (try dsimp only); first | (refine Nat.ne_of_gt ?_; with_reducible ((repeat (first | assumption | exact And.left (by assumption) | exact And.left (And.right (by assumption)) | exact And.right (And.right (by assumption)) | exact And.right (by assumption) | exact And.left (And.right (And.right (by assumption))) | exact And.right (And.right (And.right (by assumption))) | exact And.left (And.right (And.right (And.right (by assumption)))) | exact And.left (And.right (And.right (And.right (And.right (by assumption))))) | refine Nat.lt_trans ?_ (by assumption))); done)) | (refine Nat.ne_of_lt ?_; with_reducible ((repeat (first | assumption | exact And.left (by assumption) | exact And.left (And.right (by assumption)) | exact And.right (And.right (by assumption)) | exact And.right (by assumption) | exact And.left (And.right (And.right (by assumption))) | exact And.right (And.right (And.right (by assumption))) | exact And.left (And.right (And.right (And.right (by assumption)))) | exact And.left (And.right (And.right (And.right (And.right (by assumption))))) | refine Nat.lt_trans ?_ (by assumption))); done)) | omega)) (by first | assumption | (refine Ne.symm ?_; assumption) | (refine neN ?_; (try dsimp only); first | (refine Nat.ne_of_gt ?_; with_reducible ((repeat (first | assumption | exact And.left (by assumption) | exact And.left (And.right (by assumption)) | exact And.right (And.right (by assumption)) | exact And.right (by assumption) | exact And.left (And.right (And.right (by assumption))) | exact And.right (And.right (And.right (by assumption))) | exact And.left (And.right (And.right (And.right (by assumption)))) | exact And.left (And.right (And.right (And.right (And.right (by assumption))))) | refine Nat.lt_trans ?_ (by assumption))); done)) | (refine Nat.ne_of_lt ?_; with_reducible ((repeat (first | assumption | exact And.left (by assumption) | exact And.left (And.right (by assumption)) | exact And.right (And.right (by assumption)) | exact And.right (by assumption) | exact And.left (And.right (And.right (by assumption))) | exact And.right (And.right (And.right (by assumption))) | exact And.left (And.right (And.right (And.right (by assumption)))) | exact And.left (And.right (And.right (And.right (And.right (by assumption))))) | refine Nat.lt_trans ?_ (by assumption))); done)) | omega)) (by first | assumption | (refine Ne.symm ?_; assumption) | (refine neN ?_; (try dsimp only); first | (refine Nat.ne_of_gt ?_; with_reducible ((repeat (first | assumption | exact And.left (by assumption) | exact And.left (And.right (by assumption)) | exact And.right (And.right (by assumption)) | exact And.right (by assumption) | exact And.left (And.right (And.right (by assumption))) | exact And.right (And.right (And.right (by assumption))) | exact And.left (And.right (And.right (And.right (by assumption)))) | exact And.left (And.right (And.right (And.right (And.right (by assumption))))) | refine Nat.lt_trans ?_ (by assumption))); done)) | (refine Nat.ne_of_lt ?_; with_reducible ((repeat (first | assumption | exact And.left (by assumption) | exact And.left (And.right (by assumption)) | exact And.right (And.right (by assumption)) | exact And.right (by assumption) | exact And.left (And.right (And.right (by assumption))) | exact And.right (And.right (And.right (by assumption))) | exact And.left (And.right (And.right (And.right (by assumption)))) | exact And.left (And.right (And.right (And.right (And.right (by assumption))))) | refine Nat.lt_trans ?_ (by assumption))); done)) | omega)) (by first | assumption | (refine Ne.symm ?_; assumption) | (refine neN ?_; (try dsimp only); first | (refine Nat.ne_of_gt ?_; with_reducible ((repeat (first | assumption | exact And.left (by assumption) | exact And.left (And.right (by assumption)) | exact And.right (And.right (by assumption)) | exact And.right (by assumption) | exact And.left (And.right (And.right (by assumption))) | exact And.right (And.right (And.right (by assumption))) | exact And.left (And.right (And.right (And.right (by assumption)))) | exact And.left (And.right (And.right (And.right (And.right (by assumption))))) | refine Nat.lt_trans ?_ (by assumption))); done)) | (refine Nat.ne_of_lt ?_; with_reducible ((repeat (first | assumption | exact And.left (by assumption) | exact And.left (And.right (by assumption)) | exact And.right (And.right (by assumption)) | exact And.right (by assumption) | exact And.left (And.right (And.right (by assumption))) | exact And.right (And.right (And.right (by assumption))) | exact And.left (And.right (And.right (And.right (by assumption)))) | exact And.left (And.right (And.right (And.right (And.right (by assumption))))) | refine Nat.lt_trans ?_ (by assumption))); done)) | omega)) hn hn2 hv1 hfx hfn rfl hpos (by omega) (by k_room) (by k_units) ?_
      intro t2 h2 tk2 F2 N2
      simp only [innerDL, List.cons_append, List.nil_append] at N2
      clear F9 N9
      (try dsimp only)
      ((repeat' (first | (k_unfold; (try dsimp only)) | ((with_reducible first | show wpAny _ _ (exec _ _) _ _ _ | show wpAny _ _ (execs _ _) _ _ _); k_fold) | (k_end; wrow_close) | walk1 | (dsimp only; walk1) | (leave1; (try dsimp only)))) <;> (repeat (k_unfold; (try dsimp only))))
      (try dsimp only)
      rename Fr _ _ _ _ => F9
      rename News _ _ _ _ => N9
      subst hlen
      refine (tab_post N9 (by k_mem) (by exact rfl) (by k_mem) (by assumption) (by assumption) (by first | assumption | (refine Ne.symm ?_; assumption) | (refine neN ?_; (try dsimp only); first | (refine Nat.ne_of_gt ?_; with_reducible ((repeat (first | assumption | exact And.left (by assumption) | exact And.left (And.right (by assumption)) | exact And.right (And.right (by assumption)) | exact And.right (by assumption) | exact And.left (And.right (And.right (by assumption))) | exact And.right (And.right (And.right (by assumption))) | exact And.left (And.right (And.right (And.right (by assumption)))) | exact And.left (And.right (And.right (And.right (And.right (by assumption))))) | refine Nat.lt_trans ?_ (by assumption))); done)) | (refine Nat.ne_of_lt ?_; with_reducible ((repeat (first | assumption | exact And.left (by assumption) | exact And.left (And.right (by assumption)) | exact And.right (And.right (by assumption)) | exact And.right (by assumption) | exact And.left (And.right (And.right (by assumption))) | exact And.right (And.right (And.right (by assumption))) | exact And.left (And.right (And.right (And.right (by assumption)))) | exact And.left (And.right (And.right (And.right (And.right (by assumption))))) | refine Nat.lt_trans ?_ (by assumption))); done)) | omega))).elim (fun sel9 H9 => ret _ sel9 _ _ F9.keep H9.1 ⟨⟨_, rfl⟩, H9.2⟩)
    · rename Fr _ _ _ _ => F9
      rename News _ _ _ _ => N9
      rename (¬ 0 < ns.length) => hpos
      have hl0 : len = 0 := by omega
      have hdz : hv n f 0 len = 0 := by rw [hl0]; rfl
      (try dsimp only)
      refine (tab_post N9 (by k_mem) (by exact rfl) (by k_mem) (by assumption) (by assumption) (by first | assumption | (refine Ne.symm ?_; assumption) | (refine neN ?_; (try dsimp only); first | (refine Nat.ne_of_gt ?_; with_reducible ((repeat (first | assumption | exact And.left (by assumption) | exact And.left (And.right (by assumption)) | exact And.right (And.right (by assumption)) | exact And.right (by assumption) | exact And.left (And.right (And.right (by assumption))) | exact And.right (And.right (And.right (by assumption))) | exact And.left (And.right (And.right (And.right (by assumption)))) | exact And.left (And.right (And.right (And.right (And.right (by assumption))))) | refine Nat.lt_trans ?_ (by assumption))); done)) | (refine Nat.ne_of_lt ?_; with_reducible ((repeat (first | assumption | exact And.left (by assumption) | exact And.left (And.right (by assumption)) | exact And.right (And.right (by assumption)) | exact And.right (by assumption) | exact And.left (And.right (And.right (by assumption))) | exact And.right (And.right (And.right (by assumption))) | exact And.left (And.right (And.right (And.right (by assumption)))) | exact And.left (And.right (And.right (And.right (And.right (by assumption))))) | refine Nat.lt_trans ?_ (by assumption))); done)) | omega))).elim (fun sel9 H9 => ret _ sel9 _ _ F9.keep H9.1 ⟨⟨_, by rw [hdz]; exact rfl⟩, H9.2⟩)
/-- a new pair of ints -/
noncomputable def PairAt (T : Addr) (q r : Int) (blk : List (Addr × Obj)) : Prop := ∃ tq tr, blk = [(T, { cls := .type "tuple", data := .seq #[.int q tq, .int r tr] })]
theorem noPy {x : Int} {b : Nat} (h : b < 2 ^ 4000) : Builtin.divisionGoesByPylong x (b : Int) = false := PyProof.noPylong_of_log2 (by
  by_cases h0 : b = 0
  · subst h0; decide +kernel
  · have : b.log2 < 4000 := (Nat.log2_lt h0).mpr h
    simp; omega)
theorem div2n1n_c (w : World) (a b n : Nat) (ta tb tn : Tok) (hb : 0 < b) (ha : a < 2 ^ 4000) (hb2 : b < 2 ^ 4000) :
    Con w 4 60 28 [.int a ta, .int b tb, .int n tn] [] (fun _ v blk => ∃ T, v = .ref T ∧ PairAt T (a / b : Nat) (a % b : Nat) blk) := by
  have h1 := bits_lt ha
  have hp := noPy (x := a) hb2
  clear ha hb2
  unfold Con
  k_fill
  intro dp un gd outer base g tp tl mean mg mb s R B hg hsz hsel X T hd hu ret
  refine' enter_g B hg hsz hsel X T ?k6 ?k7 ?k8 ?k9 ?kB ?_ ?c2 ?c3 ?c4 ?c5
  (case k6 => k_is); (case k7 => k_is); (case k8 => ktr_room); (case k9 => exact BindsTo.of_eq rfl); (case c5 => decide); (case kB => exact locs rfl); (case c2 => exact rfl); (case c3 => exact rfl); (case c4 => exact rfl)
  k_whole
  intro L' h' tk' F' N' l1
  (try dsimp only); (try k_fold)
  ((repeat' ((fail_if_success (with_reducible show wpAny _ _ (call (Value.builtin "divmod") _) _ _ _)); (first | (k_unfold; (try dsimp only)) | ((with_reducible first | show wpAny _ _ (exec _ _) _ _ _ | show wpAny _ _ (execs _ _) _ _ _); k_fold) | (k_end; wrow_close) | walk1 | (dsimp only; walk1) | (leave1; (try dsimp only))))) <;> (repeat (k_unfold; (try dsimp only))))
  rename Fr _ _ _ _ => F1
  rename News _ _ _ _ => N1
  refine divmod_N F1 N1 (by omega) ?_ (.inl hp)
  intro h2 F2 N2
  rw [fdiv_nn, fmod_nn] at N2
  (try dsimp only)
  ((repeat' (first | (k_unfold; (try dsimp only)) | ((with_reducible first | show wpAny _ _ (exec _ _) _ _ _ | show wpAny _ _ (execs _ _) _ _ _); k_fold) | (k_end; wrow_close) | walk1 | (dsimp only; walk1) | (leave1; (try dsimp only)))) <;> (repeat (k_unfold; (try dsimp only))))
  (try dsimp only)
  exact ret _ _ _ _ F2.keep (fun r hr => ⟨(N2 r hr).1, (N2 r hr).2.2⟩) ⟨_, rfl, _, _, rfl⟩
section
variable {prog : Program} {w : World} {A : Around} {E : Value → Shared → Prop} {s : Shared} {t u : Tok} {Q : Value → Shared → Prop}
theorem add_nn {x y : Nat} (h : Q (.int ((x + y : Nat) : Int) s.toks) { s with toks := s.toks + 1 }) : wpAny (model prog w) A (binaryOp .Add (.int (x : Int) t) (.int (y : Int) u)) Q E s := by
  refine add_int ?_
  rw [← Int.natCast_add]; exact h
end
/-- the top i of len digits of a -/
noncomputable def topD (n len a i : Nat) : Nat := a / 2 ^ (n * (len - i))
theorem topD_zero {n len a : Nat} (h : a < 2 ^ (n * len)) : topD n len a 0 = 0 := by
  unfold topD; exact Nat.div_eq_of_lt (by simpa using h)
theorem topD_all {n len a : Nat} : topD n len a len = a := by simp [topD]
theorem topD_succ {n len a i : Nat} (h : i < len) : topD n len a (i + 1) = topD n len a i * 2 ^ n + dig n a (len - 1 - i) := by
  unfold topD dig
  rw [show n * (len - i) = n * (len - (i + 1)) + n from by rw [← Nat.mul_succ]; congr 1; omega, Nat.pow_add, ← Nat.div_div_eq_div_mul, show len - (i + 1) = len - 1 - i from sub_one_sub len i]
  have := Nat.div_add_mod (a / 2 ^ (n * (len - 1 - i))) (2 ^ n)
  rw [Nat.mul_comm] at this
  exact this.symm
theorem qdig {n len a b i : Nat} (hb : 0 < b) (h : i < len) : ((topD n len a i % b) * 2 ^ n + dig n a (len - 1 - i)) / b = dig n (a / b) (len - 1 - i) ∧ ((topD n len a i % b) * 2 ^ n + dig n a (len - 1 - i)) % b = topD n len a (i + 1) % b := by
  have e := topD_succ (n := n) (a := a) h
  have hd : dig n a (len - 1 - i) < 2 ^ n := Nat.mod_lt _ (Nat.two_pow_pos _)
  have e2 : topD n len a (i + 1) = (topD n len a i % b * 2 ^ n + dig n a (len - 1 - i)) + b * (topD n len a i / b * 2 ^ n) := by
    rw [e]
    have := Nat.div_add_mod (topD n len a i) b
    have h3 : topD n len a i * 2 ^ n = (b * (topD n len a i / b) + topD n len a i % b) * 2 ^ n := by rw [this]
    rw [h3, Nat.add_mul, Nat.mul_assoc]
    omega
  have hlt : (topD n len a i % b * 2 ^ n + dig n a (len - 1 - i)) / b < 2 ^ n := by
    rw [Nat.div_lt_iff_lt_mul hb]
    have h1 := Nat.mod_lt (topD n len a i) hb
    have h2 : (topD n len a i % b + 1) * 2 ^ n ≤ b * 2 ^ n := Nat.mul_le_mul_right _ h1
    rw [Nat.add_mul, Nat.one_mul] at h2
    rw [Nat.mul_comm (2 ^ n) b]
    omega
  constructor
  · have h4 : topD n len a (i + 1) / b = (topD n len a i % b * 2 ^ n + dig n a (len - 1 - i)) / b + topD n len a i / b * 2 ^ n := by
      rw [e2, Nat.add_mul_div_left _ _ hb]
    have h5 : topD n len a (i + 1) / b = a / b / 2 ^ (n * (len - 1 - i)) := by
      unfold topD
      rw [Nat.div_div_eq_div_mul, Nat.div_div_eq_div_mul, Nat.mul_comm, show len - (i + 1) = len - 1 - i from sub_one_sub len i]
    unfold dig at *
    rw [← h5, h4, Nat.add_mul_mod_self_right, Nat.mod_eq_of_lt hlt]
  · rw [e2, Nat.add_mul_mod_self_left]
theorem hv_dig (n x k : Nat) : ∀ L, hv n (fun i => dig n x i) L k = x / 2 ^ (n * L) % 2 ^ (n * k) := by
  induction k with
  | zero => intro L; simp [hv, Nat.mod_one]
  | succ k ih =>
    intro L
    rw [hv, ih]
    unfold dig
    rw [Nat.mul_succ, Nat.pow_add, ← Nat.div_div_eq_div_mul, Nat.mul_succ, Nat.pow_add, Nat.mul_comm (2 ^ (n * k)), Nat.mod_mul]
theorem ints_get {vs : List Value} {ns : List Int} (h : IntsAre vs ns) {i : Nat} {v : Value} (hv : vs[i]? = some v) : ∃ t, v = .int (ns.getD i 0) t := by
  induction h generalizing i with
  | nil => simp at hv
  | cons a t h ih =>
    cases i with
    | zero => simp at hv; exact ⟨t, hv.symm⟩
    | succ i => simpa using ih (by simpa using hv)
theorem tab_data {P line col : Nat} {qual : Str} {tb : List (Addr × Obj)} (S : TabSt P line col qual tb) : ∀ p ∈ tb, (p.1 = P ∧ ∃ ps, p.2 = tabObj ps ∧ ∀ x t, ps[1]? ≠ some (.str x t)) ∨ ∃ vs t, p.2.data = .fields vs ∧ vs[1]? = some (.str qual t) := by
  rcases S with rfl | ⟨c, oc, vs, t, rfl, h1, h2, -⟩
  · exact List.forall_mem_cons.mpr ⟨.inl ⟨rfl, _, rfl, by simp⟩, List.forall_mem_nil _⟩
  · exact List.forall_mem_cons.mpr ⟨.inl ⟨rfl, _, rfl, by simp [rawInt]⟩, List.forall_mem_cons.mpr ⟨.inr ⟨vs, t, h1, h2⟩, List.forall_mem_nil _⟩⟩
theorem tabs_off {h : Heap} {P line col P' line' col' : Nat} {qual qual' : Str} {T3 T4 : List (Addr × Obj)} (S3 : TabSt P line col qual T3) (S4 : TabSt P' line' col' qual' T4) (hP : P ≠ P') (hq : qual ≠ qual')
    (h3 : ∀ p ∈ T3, h.get? p.1 = some p.2) (h4 : ∀ p ∈ T4, h.get? p.1 = some p.2) : ∀ p ∈ T4, ∀ q ∈ T3, p.1 ≠ q.1 := by
  intro p hp q hq2 e
  have e2 := h4 p hp
  rw [e, h3 q hq2] at e2
  have e3 : q.2 = p.2 := Option.some.inj e2
  rcases tab_data S4 p hp with ⟨a1, ps, a2, a3⟩ | ⟨vs, t, a1, a2⟩ <;> rcases tab_data S3 q hq2 with ⟨c1, qs, c2, c3⟩ | ⟨us, u, c1, c2⟩
  · exact hP (c1.symm.trans (e.symm.trans a1))
  · rw [e3, a2] at c1
    have : ps = us := Data.fields.inj c1
    subst this
    exact a3 _ _ c2
  · rw [← e3, c2] at a1
    have : qs = vs := Data.fields.inj a1
    subst this
    exact c3 _ _ a2
  · rw [e3, a1] at c1
    have : vs = us := Data.fields.inj c1
    subst this
    rw [a2] at c2
    exact hq (Value.str.inj (Option.some.inj c2)).1.symm
theorem ints_app {vs us : List Value} {ns ms : List Int} (h : IntsAre vs ns) (h2 : IntsAre us ms) : IntsAre (vs ++ us) (ns ++ ms) := by
  induction h with
  | nil => exact h2
  | cons a t h ih => exact .cons a t ih
theorem ints_rev {vs : List Value} {ns : List Int} (h : IntsAre vs ns) : IntsAre vs.reverse ns.reverse := by
  induction h with
  | nil => exact .nil
  | cons a t h ih => rw [List.reverse_cons, List.reverse_cons]; exact ints_app ih (.cons a t .nil)
/-- the locals of _divmod_pos in its loop -/
noncomputable def pm (a b n r : Int) (D Dq : Addr) (ta tb tn tr : Tok) (dv qv : Option Value) : Str → Option Value :=
  fun y => if y = "a_digit" then dv else if y = "q_digit" then qv else if y = "r" then some (.int r tr) else if y = "q_digits" then some (.ref Dq) else if y = "a_digits" then some (.ref D) else if y = "n" then some (.int n tn)
    else if y = "a" then some (.int a ta) else if y = "b" then some (.int b tb) else none
/-- the quotient's digits that i turns have made, the highest first -/
noncomputable def qTo (n len q i : Nat) : List Int := (List.range i).map fun j => ((dig n q (len - 1 - j) : Nat) : Int)
theorem qTo_succ {n len q i : Nat} : qTo n len q (i + 1) = qTo n len q i ++ [((dig n q (len - 1 - i) : Nat) : Int)] := by
  unfold qTo; rw [List.range_succ, List.map_append]; rfl
theorem qTo_rev {n len q : Nat} : (qTo n len q len).reverse = digsOf n len q := by
  apply List.ext_getElem
  · simp [qTo, digsOf]
  · intro i h1 h2
    simp only [qTo, List.length_reverse, List.length_map, List.length_range] at h1
    simp only [qTo, digsOf, List.getElem_reverse, List.getElem_map, List.getElem_range, List.length_map, List.length_range]
    congr 2; omega
theorem digsOf_getD {n len q : Nat} (i : Nat) (h : q < 2 ^ (n * len)) : (digsOf n len q).getD i 0 = ((dig n q i : Nat) : Int) := by
  unfold digsOf
  rw [List.getD_eq_getElem?_getD]
  by_cases hi : i < len
  · simp [hi]
  · have : dig n q i = 0 := by
      unfold dig
      rw [Nat.div_eq_of_lt (Nat.lt_of_lt_of_le h (Nat.pow_le_pow_right (by omega) (Nat.mul_le_mul_left _ (by omega))))]
      exact Nat.zero_mod _
    simp [hi, this]
/-- a new pair of ints and the tables of the two defs -/
noncomputable def PairTabs (v : Value) (q r : Int) (blk : List (Addr × Obj)) : Prop :=
  ∃ T T3 T4 tq tr, v = .ref T ∧ TabSt 37 35 4 "_int2digits.<locals>.inner" T3 ∧ TabSt 44 50 4 "_digits2int.<locals>.inner" T4 ∧ blk = (T, { cls := .type "tuple", data := .seq #[.int q tq, .int r tr] }) :: (T3 ++ T4)
theorem pair_post {g h : Heap} {L T : Addr} {news T3 T4 : List (Addr × Obj)} {q r : Int} {tq tr : Tok} (N : News g L h news) (m1 : (T, { cls := .type "tuple", data := .seq #[.int q tq, .int r tr] }) ∈ news) (m2 : ∀ p ∈ T3 ++ T4, p ∈ news)
    (S3 : TabSt 37 35 4 "_int2digits.<locals>.inner" T3) (S4 : TabSt 44 50 4 "_digits2int.<locals>.inner" T4) :
    ∃ sel', (∀ p ∈ sel', h.get? p.1 = some p.2 ∧ g.get? p.1 = none) ∧ PairTabs (.ref T) q r sel' := by
  refine ⟨_, ?_, T, T3, T4, tq, tr, rfl, S3, S4, rfl⟩
  intro p hp
  rcases List.mem_cons.mp hp with rfl | hp
  · exact ⟨(N _ m1).1, (N _ m1).2.2⟩
  · exact ⟨(N _ (m2 _ hp)).1, (N _ (m2 _ hp)).2.2⟩
theorem divmod_pos_c (w : World) (a b n len : Nat) (ta tb : Tok) (T3 T4 : List (Addr × Obj)) (S3 : TabSt 37 35 4 "_int2digits.<locals>.inner" T3) (S4 : TabSt 44 50 4 "_digits2int.<locals>.inner" T4)
    (hb : 0 < b) (hn : n = Builtin.Int.intBits (b : Int)) (hn2 : n < 1900) (ha : a < 2 ^ 4000) (hlen : len = (Builtin.Int.intBits (a : Int) + n - 1) / n) (hl60 : len ≤ 60) :
    Con w 90 600 56 [.int a ta, .int b tb] (T3 ++ T4) (fun _ v blk => PairTabs v (a / b : Nat) (a % b : Nat) blk) := by
  have hbn : b < 2 ^ n := by rw [hn]; exact lt_bits b
  have hn0 : 0 < n := by
    rcases Nat.eq_zero_or_pos n with h | h
    · rw [h] at hbn; omega
    · exact h
  obtain ⟨b1, b2, b3⟩ := len_le hn0 hlen
  unfold Con
  k_fill
  intro dp un gd outer base g tp tl mean mg mb s R B hg hsz hsel X T hd hu ret
  refine' enter_g B hg hsz hsel X T ?k6 ?k7 ?k8 ?k9 ?kB ?_ ?c2 ?c3 ?c4 ?c5
  (case k6 => k_is); (case k7 => k_is); (case k8 => ktr_room); (case k9 => exact BindsTo.of_eq rfl); (case c5 => decide); (case kB => exact locs rfl); (case c2 => exact rfl); (case c3 => exact rfl); (case c4 => exact rfl)
  k_whole
  intro L' h' tk' F' N' l1
  (try dsimp only); (try k_fold)
  ((repeat' ((fail_if_success (with_reducible show wpAny _ _ (call (Value.ref 42) _) _ _ _)); (first | (k_unfold; (try dsimp only)) | ((with_reducible first | show wpAny _ _ (exec _ _) _ _ _ | show wpAny _ _ (execs _ _) _ _ _); k_fold) | (k_end; wrow_close) | walk1 | (dsimp only; walk1) | (leave1; (try dsimp only))))) <;> (repeat (k_unfold; (try dsimp only))))
  rename Fr _ _ _ _ => F1
  rename News _ _ _ _ => N1
  rw [← hn] at F1
  rw [← hn]
  have off0 := tabs_off S3 S4 (by decide) (by decide +kernel) (fun p hp => (N1 p (List.mem_append_left _ hp)).1) (fun p hp => (N1 p (List.mem_append_right _ hp)).1)
  refine use_g (int2digits_c w a n len _ _ T3 S3 hn0 (by omega) ha hlen hl60) (oth := T4) B F1 X N1 T rfl rfl (fun p hp => List.mem_append_left _ hp) (fun p hp => List.mem_append_right _ hp) off0 (by k_room) (by k_units) ?_
  rintro v2 blk2 h2 tk2 F2 N2 ne2 - ⟨D, vals, kd, T3', rfl, rfl, hvals, S3', hD⟩
  simp only [List.cons_append, List.nil_append] at N2
  clear F1 N1
  (try dsimp only)
  ((repeat' ((fail_if_success (with_reducible show wpAny _ _ (exec (Stmt.For _ _ _ _ _) _) _ _ _)); (first | (k_unfold; (try dsimp only)) | ((with_reducible first | show wpAny _ _ (exec _ _) _ _ _ | show wpAny _ _ (execs _ _) _ _ _); k_fold) | (k_end; wrow_close) | walk1 | (dsimp only; walk1) | (leave1; (try dsimp only))))) <;> (repeat (k_unfold; (try dsimp only))))
  rename Fr _ _ _ _ => F4
  rename News _ _ _ _ => N4
  refine wpAny_For ?_
  ((repeat' ((fail_if_success (with_reducible show wpAny _ _ (pyIter _) _ _ _)); (first | (k_unfold; (try dsimp only)) | ((with_reducible first | show wpAny _ _ (exec _ _) _ _ _ | show wpAny _ _ (execs _ _) _ _ _); k_fold) | (k_end; wrow_close) | walk1 | (dsimp only; walk1) | (leave1; (try dsimp only))))) <;> (repeat (k_unfold; (try dsimp only))))
  rename Fr _ _ _ _ => F5
  rename News _ _ _ _ => N5
  rename (_ < _ ∧ AllLt _ (T3' ++ T4)) => l9
  rename (_ < _ ∧ _ < _ ∧ AllLt _ (T3' ++ T4)) => l8
  have hvl : vals.length = len := by rw [hvals.length]; simp [digsOf]
  rw [show ((vals.length : Nat) : Int) = ((vals.toArray.size : Nat) : Int) from by simp] at N5
  rename_i Dq _ _ I _
  have hDq : ∀ p ∈ T3' ++ T4, p.1 ≠ Dq := fun p hp => Nat.ne_of_lt (allLt_mem l9.2 p hp)
  have hDDq : D ≠ Dq := Nat.ne_of_lt l9.1
  have hnI : ∀ p ∈ (Dq, listOf #[] 0) :: (D, listOf vals.toArray kd) :: (T3' ++ T4), p.1 ≠ I := List.forall_mem_cons.mpr ⟨Nat.ne_of_lt l8.1, List.forall_mem_cons.mpr ⟨Nat.ne_of_lt l8.2.1, fun p hp => Nat.ne_of_lt (allLt_mem l8.2.2 p hp)⟩⟩
  refine' for_rev (env := envOf _ _ L' 56 _) (lo := listOf vals.toArray kd) (its := vals.toArray) rfl rfl ⟨_, rfl⟩ hnI rfl rfl rfl F5 N5
    (fun i m news => ∃ vq kq dv qv ta tb tn tr, IntsAre vq (qTo n len (a / b) i) ∧ (∀ p ∈ (Dq, listOf (List.toArray vq) kq) :: (D, listOf vals.toArray kd) :: (T3' ++ T4), p ∈ news) ∧ ∀ y, m y = pm a b n (topD n len a i % b : Nat) D Dq ta tb tn tr dv qv y) ?hJ ?h0 ?turn ?done
  case hJ => rintro i m nw ⟨vq, kq, dv, qv, ta, tb, tn, tr, h1, h2, h3⟩; exact h2 _ (.tail _ (.head _))
  case h0 =>
    refine' ⟨[], 0, _, _, _, _, _, _, .nil, fun p hp => hp, ?meq⟩
    case meq =>
      rw [topD_zero b1, Nat.zero_mod]
      (intro y; unfold pm; (rcases Classical.em (y = "a_digit") with rfl | h0); exact rfl; (rcases Classical.em (y = "q_digit") with rfl | h1); exact rfl; (rcases Classical.em (y = "r") with rfl | h2); exact rfl; (rcases Classical.em (y = "q_digits") with rfl | h3); exact rfl; (rcases Classical.em (y = "a_digits") with rfl | h4); exact rfl; (rcases Classical.em (y = "n") with rfl | h5); exact rfl; (rcases Classical.em (y = "a") with rfl | h6); exact rfl; (rcases Classical.em (y = "b") with rfl | h7); exact rfl; (try simp only [if_neg h0, if_neg h1, if_neg h2, if_neg h3, if_neg h4, if_neg h5, if_neg h6, if_neg h7]); (first | done | exact rfl | (show List.lookup y (_ :: _) = none; simp only [List.lookup, beq_eq_false_iff_ne.mpr h0, beq_eq_false_iff_ne.mpr h1, beq_eq_false_iff_ne.mpr h2, beq_eq_false_iff_ne.mpr h3, beq_eq_false_iff_ne.mpr h4, beq_eq_false_iff_ne.mpr h5, beq_eq_false_iff_ne.mpr h6, beq_eq_false_iff_ne.mpr h7]) | (simp only [List.lookup, beq_eq_false_iff_ne.mpr h0, beq_eq_false_iff_ne.mpr h1, beq_eq_false_iff_ne.mpr h2, beq_eq_false_iff_ne.mpr h3, beq_eq_false_iff_ne.mpr h4, beq_eq_false_iff_ne.mpr h5, beq_eq_false_iff_ne.mpr h6, beq_eq_false_iff_ne.mpr h7]; done)))
  case turn =>
    intro i v m₁ news₁ h6 tk6 oI hi hv hJ hI F6 N6
    obtain ⟨vq, kq, dv, qv, ta, tb, tn, tr, hvq, hsub, hm⟩ := hJ
    have hi2 : i < len := by rw [List.size_toArray, hvl] at hi; exact hi
    obtain ⟨td, rfl⟩ := ints_get hvals (by rw [List.size_toArray, hvl] at hv; simpa using hv)
    rw [digsOf_getD _ b1] at F6
    have N7 := News.sub_app N6 hsub
    simp only [List.cons_append, List.nil_append] at N7
    try clear F5 N5 N6
    have F7 : Fr g L' h6 (pm a b n (topD n len a i % b : Nat) D Dq ta tb tn tr (some (.int ((dig n a (len - 1 - i) : Nat) : Int) td)) qv) := Fr.congr F6 (fun y => by
      (try dsimp only); rw [hm]; unfold pm; split <;> rfl)
    clear F6
    unfold pm at F7
    (try dsimp only); (try k_fold)
    have hlq : vq.length ≤ 60 := by rw [hvq.length]; simp [qTo]; omega
    have hrb := Nat.mod_lt (topD n len a i) hb
    have hsh : n + n ≤ 2 ^ 27 := by
      have e2 : (2 : Nat) ^ 27 = 134217728 := by decide
      omega
    ((repeat' ((fail_if_success (with_reducible show wpAny _ _ (call (Value.ref 28) _) _ _ _)); (first | ((with_reducible show wpAny _ _ (binaryOp Operator.LShift _ _) _ _ _); refine shl_nn (Nat.lt_trans hrb hbn) hsh ?_) | ((with_reducible show wpAny _ _ (binaryOp Operator.Add (Value.int (Nat.cast _) _) (Value.int (Nat.cast _) _)) _ _ _); refine add_nn ?_) | (k_unfold; (try dsimp only)) | ((with_reducible first | show wpAny _ _ (exec _ _) _ _ _ | show wpAny _ _ (execs _ _) _ _ _); k_fold) | (k_end; wrow_close) | walk1 | (dsimp only; walk1) | (leave1; (try dsimp only))))) <;> (repeat (k_unfold; (try dsimp only))))
    rename Fr _ _ _ _ => F8
    rename News _ _ _ _ => N8
    have hx : topD n len a i % b * 2 ^ n + dig n a (len - 1 - i) < 2 ^ 4000 := by
      have h1 : dig n a (len - 1 - i) < 2 ^ n := Nat.mod_lt _ (Nat.two_pow_pos _)
      have h2 : (topD n len a i % b + 1) * 2 ^ n ≤ 2 ^ n * 2 ^ n := Nat.mul_le_mul_right _ (by omega)
      rw [Nat.add_mul, Nat.one_mul, ← Nat.pow_add] at h2
      have h3 : 2 ^ (n + n) ≤ 2 ^ 4000 := Nat.pow_le_pow_right (by omega) (by omega)
      omega
    have hb4 : b < 2 ^ 4000 := Nat.lt_of_lt_of_le hbn (Nat.pow_le_pow_right (by omega) (by omega))
    refine use_g (div2n1n_c w _ b n _ _ _ hb hx hb4) (oth := _) B F8 X N8 T rfl rfl (fun p hp => nomatch hp) (fun p hp => hp) (fun p hp q hq => nomatch hq) (by k_room) (by k_units) ?_
    rintro v2 blk2 h7 tk7 F9 N9 ne9 - ⟨T9, rfl, tq9, tr9, rfl⟩
    rw [(qdig hb hi2).1, (qdig hb hi2).2] at N9
    simp only [List.cons_append, List.nil_append] at N9
    clear F8 N8
    try clear N7
    have hT9 : T9 ≠ Dq := ne9 _ (.head _) (Dq, _) (.head _)
    have hIDq : Dq ≠ I := Nat.ne_of_lt l8.1
    have hall : ∀ p ∈ T3' ++ T4 ++ [(I, oI)], p.1 ≠ Dq := fun p hp => by
      rcases List.mem_append.mp hp with hp | hp
      · exact hDq p hp
      · rw [List.mem_singleton.mp hp]; exact hIDq.symm
    (try dsimp only)
    ((repeat' ((fail_if_success (with_reducible show Left _)); (first | (k_unfold; (try dsimp only)) | ((with_reducible first | show wpAny _ _ (exec _ _) _ _ _ | show wpAny _ _ (execs _ _) _ _ _); k_fold) | (k_end; wrow_close) | walk1 | (dsimp only; walk1) | (leave1; (try dsimp only))))) <;> (repeat (k_unfold; (try dsimp only))))
    (try dsimp only)
    unfold Left
    rename Fr _ _ _ _ => F9
    rename News _ _ _ _ => N9
    simp only [List.push_toArray] at N9
    refine ⟨_, _, _, (Dq, listOf (vq ++ [Value.int ((dig n (a / b) (len - 1 - i) : Nat) : Int) tq9]).toArray (kq + 1)) :: (D, listOf vals.toArray kd) :: (T3' ++ T4), rfl, F9, fun p hp => N9 p (.tail _ hp), ?_, ?_⟩
    · exact List.forall_mem_cons.mpr ⟨hIDq, List.forall_mem_cons.mpr ⟨Nat.ne_of_lt l8.2.1, fun p hp => Nat.ne_of_lt (allLt_mem l8.2.2 p hp)⟩⟩
    · refine' ⟨_, _, _, _, _, _, _, _, by rw [qTo_succ]; exact ints_app hvq (.cons _ _ .nil), fun p hp => hp, ?meq⟩
      case meq => (intro y; unfold pm; (rcases Classical.em (y = "a_digit") with rfl | h0); exact rfl; (rcases Classical.em (y = "q_digit") with rfl | h1); exact rfl; (rcases Classical.em (y = "r") with rfl | h2); exact rfl; (rcases Classical.em (y = "q_digits") with rfl | h3); exact rfl; (rcases Classical.em (y = "a_digits") with rfl | h4); exact rfl; (rcases Classical.em (y = "n") with rfl | h5); exact rfl; (rcases Classical.em (y = "a") with rfl | h6); exact rfl; (rcases Classical.em (y = "b") with rfl | h7); exact rfl; (try simp only [if_neg h0, if_neg h1, if_neg h2, if_neg h3, if_neg h4, if_neg h5, if_neg h6, if_neg h7]); (first | done | exact rfl | (show List.lookup y (_ :: _) = none; simp only [List.lookup, beq_eq_false_iff_ne.mpr h0, beq_eq_false_iff_ne.mpr h1, beq_eq_false_iff_ne.mpr h2, beq_eq_false_iff_ne.mpr h3, beq_eq_false_iff_ne.mpr h4, beq_eq_false_iff_ne.mpr h5, beq_eq_false_iff_ne.mpr h6, beq_eq_false_iff_ne.mpr h7]) | (simp only [List.lookup, beq_eq_false_iff_ne.mpr h0, beq_eq_false_iff_ne.mpr h1, beq_eq_false_iff_ne.mpr h2, beq_eq_false_iff_ne.mpr h3, beq_eq_false_iff_ne.mpr h4, beq_eq_false_iff_ne.mpr h5, beq_eq_false_iff_ne.mpr h6, beq_eq_false_iff_ne.mpr h7]; done)))
  case done =>
    intro m₁ news₁ h6 tk6 hJ F6 N6
    obtain ⟨vq, kq, dv, qv, ta, tb, tn, tr, hvq, hsub, hm⟩ := hJ
    have hszl : vals.toArray.size = len := by simp [hvl]
    rw [hszl] at hvq hm
    have N7 := cb_drop N6 hsub
    have F7 := Fr.congr F6 hm
    try clear F5 N5 N6 F6
    unfold pm at F7
    rw [topD_all] at F7
    (try dsimp only)
    have hlq : vq.length ≤ 60 := by rw [hvq.length]; simp [qTo]; omega
    ((repeat' ((fail_if_success (with_reducible show wpAny _ _ (call (Value.builtin "list.reverse") _) _ _ _)); (first | (k_unfold; (try dsimp only)) | ((with_reducible first | show wpAny _ _ (exec _ _) _ _ _ | show wpAny _ _ (execs _ _) _ _ _); k_fold) | (k_end; wrow_close) | walk1 | (dsimp only; walk1) | (leave1; (try dsimp only))))) <;> (repeat (k_unfold; (try dsimp only))))
    rename Fr _ _ _ _ => F8
    rename News _ _ _ _ => N8
    have hall : ∀ p ∈ (D, listOf vals.toArray kd) :: (T3' ++ T4), p.1 ≠ Dq := List.forall_mem_cons.mpr ⟨hDDq, hDq⟩
    refine kl_reverse (its := vq.toArray) (l := vq.reverse) F8 N8 (by simp) (Upd.head hall) (by rw [sizeLine_eq]; simp; omega) ?_
    intro h9 F9 N9
    clear F8 N8
    have hvr : IntsAre vq.reverse (digsOf n len (a / b)) := by rw [← qTo_rev]; exact ints_rev hvq
    (try dsimp only)
    ((repeat' ((fail_if_success (with_reducible show wpAny _ _ (call (Value.ref 49) _) _ _ _)); (first | (k_unfold; (try dsimp only)) | ((with_reducible first | show wpAny _ _ (exec _ _) _ _ _ | show wpAny _ _ (execs _ _) _ _ _); k_fold) | (k_end; wrow_close) | walk1 | (dsimp only; walk1) | (leave1; (try dsimp only))))) <;> (repeat (k_unfold; (try dsimp only))))
    rename Fr _ _ _ _ => F8
    rename News _ _ _ _ => N8
    have hDqT : ∀ p ∈ T4, Dq ≠ p.1 := fun p hp => (hDq p (List.mem_append_right _ hp)).symm
    have hqa : a / b < 2 ^ (n * len) := Nat.lt_of_le_of_lt (Nat.div_le_self _ _) b1
    refine use_g (digits2int_c w Dq vq.reverse (digsOf n len (a / b)) kq n len (fun i => dig n (a / b) i) _ T4 S4 hDqT hn0 (by omega) hvr (by simp [digsOf]) hl60 (fun i => Nat.mod_lt _ (Nat.two_pow_pos _)) (fun i => digsOf_getD i hqa)) (oth := (D, listOf vals.toArray kd) :: T3') B F8 X N8 T rfl rfl ?_ ?_ ?_ (by k_room) (by k_units) ?_
    · exact List.forall_mem_cons.mpr ⟨.head _, fun p hp => .tail _ (.tail _ (List.mem_append_right _ hp))⟩
    · exact List.forall_mem_cons.mpr ⟨.tail _ (.head _), fun p hp => .tail _ (.tail _ (List.mem_append_left _ hp))⟩
    · refine List.forall_mem_cons.mpr ⟨List.forall_mem_cons.mpr ⟨hDDq, fun q hq => ne2 _ (.head _) q hq⟩, fun p hp => List.forall_mem_cons.mpr ⟨hDq p (List.mem_append_left _ hp), fun q hq => ne2 p (.tail _ hp) q hq⟩⟩
    rintro v3 T4' h10 tk10 F10 N10 - - ⟨⟨t10, rfl⟩, S4'⟩
    have hval : hv n (fun i => dig n (a / b) i) 0 len = a / b := by rw [hv_dig, Nat.mul_zero, Nat.pow_zero, Nat.div_one, Nat.mod_eq_of_lt hqa]
    rw [hval]
    replace N10 : News g L' h10 ((D, listOf vals.toArray kd) :: (T3' ++ T4')) := fun p hp => by
      rcases List.mem_cons.mp hp with rfl | hp
      · exact N10 _ (List.mem_append_right _ (.head _))
      · rcases List.mem_append.mp hp with hp | hp
        · exact N10 _ (List.mem_append_right _ (.tail _ hp))
        · exact N10 _ (List.mem_append_left _ hp)
    try clear F8 N8
    try clear F9 N9
    (try dsimp only)
    ((repeat' (first | (k_unfold; (try dsimp only)) | ((with_reducible first | show wpAny _ _ (exec _ _) _ _ _ | show wpAny _ _ (execs _ _) _ _ _); k_fold) | (k_end; wrow_close) | walk1 | (dsimp only; walk1) | (leave1; (try dsimp only)))) <;> (repeat (k_unfold; (try dsimp only))))
    (try dsimp only)
    rename Fr _ _ _ _ => F9
    rename News _ _ _ _ => N9
    refine (pair_post N9 (.head _) (fun p hp => .tail _ (.tail _ hp)) S3' S4').elim (fun sel9 H9 => ret _ sel9 _ _ F9.keep H9.1 H9.2)
theorem Con.monoDU {w : World} {D U D' U' : Nat} {f : Addr} {args : List Value} {sel : List (Addr × Obj)} {Post : Nat → Value → List (Addr × Obj) → Prop} (C : Con w D U f args sel Post) (h1 : D ≤ D') (h2 : U ≤ U') : Con w D' U' f args sel Post :=
  fun dp un gd outer base g tp tl mean mg mb s R a1 a2 a3 a4 a5 a6 a7 a8 ret => C dp un gd outer base g tp tl mean mg mb s R a1 a2 a3 a4 a5 a6 (by omega) (by omega) ret
theorem bits59 {a n : Nat} (ha : a < 2 ^ 59) (hn : 0 < n) : (Builtin.Int.intBits (a : Int) + n - 1) / n ≤ 60 := by
  have h1 := bits_lt ha
  have h2 : (Builtin.Int.intBits (a : Int) + n - 1) / n ≤ (60 * n) / n := Nat.div_le_div_right (by
    have : 59 * 1 ≤ 59 * n := Nat.mul_le_mul_left _ hn
    omega)
  rw [Nat.mul_div_cancel _ hn] at h2
  exact h2
theorem dm_nonneg (w : World) (a b : Nat) (ta tb : Tok) (T3 T4 : List (Addr × Obj)) (S3 : TabSt 37 35 4 "_int2digits.<locals>.inner" T3) (S4 : TabSt 44 50 4 "_digits2int.<locals>.inner" T4) (hb : 0 < b) (ha : a < 2 ^ 59) (hb2 : b < 2 ^ 59) :
    Con w 95 640 63 [.int a ta, .int b tb] (T3 ++ T4) (fun _ v blk => PairTabs v ((a / b : Nat) : Int) ((a % b : Nat) : Int) blk) := by
  have hbb := bits_lt hb2
  have hb0 : 0 < Builtin.Int.intBits (b : Int) := by
    have := lt_bits b
    rcases Nat.eq_zero_or_pos (Builtin.Int.intBits (b : Int)) with h | h
    · rw [h] at this; omega
    · exact h
  unfold Con
  k_fill
  intro dp un gd outer base g tp tl mean mg mb s R B hg hsz hsel X T hd hu ret
  refine' enter_g B hg hsz hsel X T ?k6 ?k7 ?k8 ?k9 ?kB ?_ ?c2 ?c3 ?c4 ?c5
  (case k6 => k_is); (case k7 => k_is); (case k8 => ktr_room); (case k9 => exact BindsTo.of_eq rfl); (case c5 => decide); (case kB => exact locs rfl); (case c2 => exact rfl); (case c3 => exact rfl); (case c4 => exact rfl)
  k_whole
  intro L' h' tk' F' N' l1
  (try dsimp only); (try k_fold)
  ((repeat' ((fail_if_success (with_reducible show wpAny _ _ (call (Value.ref 56) _) _ _ _)); (first | (k_unfold; (try dsimp only)) | ((with_reducible first | show wpAny _ _ (exec _ _) _ _ _ | show wpAny _ _ (execs _ _) _ _ _); k_fold) | (k_end; wrow_close) | walk1 | (dsimp only; walk1) | (leave1; (try dsimp only))))) <;> (repeat (k_unfold; (try dsimp only))))
  · exact absurd (by assumption : (b : Int) = 0) (by omega)
  rename Fr _ _ _ _ => F1
  rename News _ _ _ _ => N1
  refine use_g (divmod_pos_c w a b _ _ _ _ T3 T4 S3 S4 hb rfl (by omega) (Nat.lt_of_lt_of_le ha (Nat.pow_le_pow_right (by omega) (by omega))) rfl (bits59 ha hb0)) (oth := []) B F1 X N1 T rfl rfl (fun p hp => hp) (fun p hp => nomatch hp) (fun p hp => nomatch hp) (by k_room) (by k_units) ?_
  rintro v2 blk2 h2 tk2 F2 N2 - - H2
  rw [List.append_nil] at N2
  (try dsimp only)
  ((repeat' (first | (k_unfold; (try dsimp only)) | ((with_reducible first | show wpAny _ _ (exec _ _) _ _ _ | show wpAny _ _ (execs _ _) _ _ _); k_fold) | (k_end; wrow_close) | walk1 | (dsimp only; walk1) | (leave1; (try dsimp only)))) <;> (repeat (k_unfold; (try dsimp only))))
  (try dsimp only)
  exact ret _ _ _ _ F2.keep (fun r hr => ⟨(N2 r hr).1, (N2 r hr).2.2⟩) H2
theorem dm_neg (w : World) (a b : Nat) (ta tb : Tok) (T3 T4 : List (Addr × Obj)) (S3 : TabSt 37 35 4 "_int2digits.<locals>.inner" T3) (S4 : TabSt 44 50 4 "_digits2int.<locals>.inner" T4) (hb : 0 < b) (ha : a < 2 ^ 59) (hb2 : b < 2 ^ 59) :
    Con w 100 660 63 [.int (-(a : Int) - 1) ta, .int b tb] (T3 ++ T4) (fun _ v blk => PairTabs v (-((a / b : Nat) : Int) - 1) (b - 1 - ((a % b : Nat) : Int)) blk) := by
  unfold Con
  k_fill
  intro dp un gd outer base g tp tl mean mg mb s R B hg hsz hsel X T hd hu ret
  refine' enter_g B hg hsz hsel X T ?k6 ?k7 ?k8 ?k9 ?kB ?_ ?c2 ?c3 ?c4 ?c5
  (case k6 => k_is); (case k7 => k_is); (case k8 => ktr_room); (case k9 => exact BindsTo.of_eq rfl); (case c5 => decide); (case kB => exact locs rfl); (case c2 => exact rfl); (case c3 => exact rfl); (case c4 => exact rfl)
  k_whole
  intro L' h' tk' F' N' l1
  (try dsimp only); (try k_fold)
  ((repeat' ((fail_if_success (with_reducible show wpAny _ _ (call (Value.ref 63) _) _ _ _)); (first | (k_unfold; (try dsimp only)) | ((with_reducible first | show wpAny _ _ (exec _ _) _ _ _ | show wpAny _ _ (execs _ _) _ _ _); k_fold) | (k_end; wrow_close) | walk1 | (dsimp only; walk1) | (leave1; (try dsimp only))))) <;> (repeat (k_unfold; (try dsimp only))))
  · exact absurd (by assumption : (b : Int) = 0) (by omega)
  rename Fr _ _ _ _ => F1
  rename News _ _ _ _ => N1
  rw [show Builtin.bitNot (-(a : Int) - 1) = (a : Int) from by unfold Builtin.bitNot; omega]
  refine use_g (dm_nonneg w a b _ _ T3 T4 S3 S4 hb ha hb2) (oth := []) B F1 X N1 T rfl rfl (fun p hp => hp) (fun p hp => nomatch hp) (fun p hp => nomatch hp) (by k_room) (by k_units) ?_
  rintro v2 blk2 h2 tk2 F2 N2 - - ⟨T9, T3', T4', tq9, tr9, rfl, S3', S4', rfl⟩
  simp only [List.cons_append, List.append_nil] at N2
  clear F1 N1
  (try dsimp only)
  ((repeat' (first | (k_unfold; (try dsimp only)) | ((with_reducible first | show wpAny _ _ (exec _ _) _ _ _ | show wpAny _ _ (execs _ _) _ _ _); k_fold) | (k_end; wrow_close) | walk1 | (dsimp only; walk1) | (leave1; (try dsimp only)))) <;> (repeat (k_unfold; (try dsimp only))))
  (try dsimp only)
  rename Fr _ _ _ _ => F9
  rename News _ _ _ _ => N9
  rw [show Builtin.bitNot ((a / b : Nat) : Int) = -((a / b : Nat) : Int) - 1 from rfl, show (b : Int) + Builtin.bitNot ((a % b : Nat) : Int) = b - 1 - ((a % b : Nat) : Int) from by unfold Builtin.bitNot; omega] at N9
  refine (pair_post N9 (.head _) (fun p hp => .tail _ (.tail _ hp)) S3' S4').elim (fun sel9 H9 => ret _ sel9 _ _ F9.keep H9.1 H9.2)
theorem int_divmod_c (w : World) (a b : Int) (ta tb : Tok) (T3 T4 : List (Addr × Obj)) (S3 : TabSt 37 35 4 "_int2digits.<locals>.inner" T3) (S4 : TabSt 44 50 4 "_digits2int.<locals>.inner" T4) (hb : 0 < b) (ha : a.natAbs < 2 ^ 59) (hb2 : b.natAbs < 2 ^ 59) :
    Con w 100 660 63 [.int a ta, .int b tb] (T3 ++ T4) (fun _ v blk => PairTabs v (a / b) (a % b) blk) := by
  obtain ⟨b, rfl⟩ := Int.eq_ofNat_of_zero_le (Int.le_of_lt hb)
  rcases Int.lt_or_le a 0 with h | h
  · obtain ⟨m, rfl⟩ : ∃ m : Nat, a = -(m : Int) - 1 := ⟨(-a - 1).toNat, by omega⟩
    have hb' : 0 < b := by omega
    have h1 := Nat.div_add_mod m b
    have h2 := Nat.mod_lt m hb'
    have h3 : (b : Int) * ((m / b : Nat) : Int) + ((m % b : Nat) : Int) = m := by exact_mod_cast h1
    obtain ⟨e1, e2⟩ := (Int.ediv_emod_unique (a := -(m : Int) - 1) (b := (b : Int)) (q := -((m / b : Nat) : Int) - 1) (r := b - 1 - ((m % b : Nat) : Int)) (by omega)).mpr
      ⟨by rw [Int.mul_sub, Int.mul_neg, Int.mul_one]; omega, by omega, by omega⟩
    rw [e1, e2]
    refine Con.monoDU (dm_neg w m b ta tb T3 T4 S3 S4 hb' (by omega) (by simpa using hb2)) (Nat.le_refl _) (Nat.le_refl _)
  · obtain ⟨m, rfl⟩ := Int.eq_ofNat_of_zero_le h
    refine Con.monoDU (dm_nonneg w m b ta tb T3 T4 S3 S4 (by omega) (by simpa using ha) (by simpa using hb2)) (by omega) (by omega)
noncomputable abbrev LexA.adrs (a : LexA) : List Addr := [a.x, a.dx, a.pb, a.st, a.std]
section
variable {w : World} {dp un : Nat} {gd : Option (List Code)} {env : Env} {outer : List Env} {A₀ : Around} {base h₀ : Heap} {L : Addr} {m : Str → Option Value} {tp : Program} {tl : List Str} {mean : ExcName → Option Value} {mg mb : Str → Option Value} {s : Shared} {Q E : Value → Shared → Prop}
  {a : LexA} {text : Str} {adr : List Addr} {RO : Nat → List (Addr × Obj) → Prop} {lin : Int} {wsp : Str} {ws : List Str} {p : Nat} {aa blk : List (Addr × Obj)}
theorem off_sel (M : MachSt w a RO lin wsp ws p blk) (Rd : Reader w a.rd text adr RO) (off : ∀ q ∈ aa, q.1 ∉ a.adrs ++ adr) : ∀ q ∈ aa, ∀ r ∈ blk, q.1 ≠ r.1 := fun q hq r hr e => by
  refine off q hq ?_
  show q.1 ∈ [a.x, a.dx, a.pb, a.st, a.std] ++ adr
  rw [← M.adrs Rd, e]
  exact List.mem_map_of_mem hr
theorem mach_push (Rd : Reader w a.rd text adr RO) (O : a.Ok adr) (M : MachSt w a RO lin wsp ws p blk) (off : ∀ q ∈ aa, q.1 ∉ a.adrs ++ adr) {y : Str} {t : Tok} (hlen : ws.length < 10000)
    (B : Below A₀ base outer h₀) (F : Fr h₀ L s.heap m) (X : (hd.heap_1 w.params).In h₀) (N : News h₀ L s.heap (aa ++ blk)) (T : Top tp tl mean mg mb h₀) (hf : env.frame = some L) (hke : env.scope.kind = .function)
    (hd : dp + 10 < recursionLimit) (hu : un + 50 < cLine)
    (ret : ∀ blk' h' tk', Fr h₀ L h' m → News h₀ L h' (aa ++ blk') → MachSt w a RO lin wsp (ws ++ [y]) p blk' → Q .none { s with heap := h', toks := tk' }) :
    wpAny (model Challenge.rw_pe0259_02.row.prog w) (Ar dp un gd (env :: outer)) (call (.ref 98) [.ref a.x, .str y t]) Q E s := by
  refine use_g (push_token_c w a text adr RO Rd O lin wsp ws p blk M y t hlen) (oth := aa) B F X N T hf hke (fun q hq => List.mem_append_right _ hq) (fun q hq => List.mem_append_left _ hq) (off_sel M Rd off) (by omega) (by omega) ?_
  rintro v blk' h' tk' F' N' - - ⟨rfl, M'⟩
  exact ret blk' h' tk' F' (News.swap N') M'
theorem mach_get1 (Rd : Reader w a.rd text adr RO) (O : a.Ok adr) {y : Str} (M : MachSt w a RO lin wsp (y :: ws) p blk) (off : ∀ q ∈ aa, q.1 ∉ a.adrs ++ adr) (hlen : ws.length < 10000)
    (B : Below A₀ base outer h₀) (F : Fr h₀ L s.heap m) (X : (hd.heap_1 w.params).In h₀) (N : News h₀ L s.heap (aa ++ blk)) (T : Top tp tl mean mg mb h₀) (hf : env.frame = some L) (hke : env.scope.kind = .function)
    (hd : dp + 10 < recursionLimit) (hu : un + 50 < cLine)
    (ret : ∀ t blk' h' tk', Fr h₀ L h' m → News h₀ L h' (aa ++ blk') → MachSt w a RO lin wsp ws p blk' → Q (.str y t) { s with heap := h', toks := tk' }) :
    wpAny (model Challenge.rw_pe0259_02.row.prog w) (Ar dp un gd (env :: outer)) (call (.ref 91) [.ref a.x]) Q E s := by
  refine use_g (get_token_1 w a text adr RO Rd O lin wsp y ws p blk M hlen) (oth := aa) B F X N T hf hke (fun q hq => List.mem_append_right _ hq) (fun q hq => List.mem_append_left _ hq) (off_sel M Rd off) (by omega) (by omega) ?_
  rintro v blk' h' tk' F' N' - - ⟨⟨t, rfl⟩, M'⟩
  exact ret t blk' h' tk' F' (News.swap N') M'
theorem mach_get0 (Rd : Reader w a.rd text adr RO) (O : a.Ok adr) {c : Int} (M : MachSt w a RO (c + nlTo text p) wsp [] p blk) (off : ∀ q ∈ aa, q.1 ∉ a.adrs ++ adr) (hp : p ≤ text.length) (hlen : text.length < 100000)
    (B : Below A₀ base outer h₀) (F : Fr h₀ L s.heap m) (X : (hd.heap_1 w.params).In h₀) (N : News h₀ L s.heap (aa ++ blk)) (T : Top tp tl mean mg mb h₀) (hf : env.frame = some L) (hke : env.scope.kind = .function)
    (hd : dp + 25 < recursionLimit) (hu : un + 250 < cLine)
    (ret : ∀ t p' blk' h' tk', p' ≤ text.length → codes text p' = (lex0 wsp (codes text p)).2 → Fr h₀ L h' m → News h₀ L h' (aa ++ blk') → MachSt w a RO (c + nlTo text p') wsp [] p' blk' → Q (.str (lex0 wsp (codes text p)).1 t) { s with heap := h', toks := tk' }) :
    wpAny (model Challenge.rw_pe0259_02.row.prog w) (Ar dp un gd (env :: outer)) (call (.ref 91) [.ref a.x]) Q E s := by
  refine use_g (get_token_0 w a text adr RO Rd O c wsp p blk M hp hlen) (oth := aa) B F X N T hf hke (fun q hq => List.mem_append_right _ hq) (fun q hq => List.mem_append_left _ hq) (off_sel M Rd off) (by omega) (by omega) ?_
  rintro v blk' h' tk' F' N' - - ⟨t, p', rfl, hp', hc', M'⟩
  exact ret t p' blk' h' tk' hp' hc' F' (News.swap N') M'
end
theorem strs_get {vs : List Value} {xs : List Str} (h : StrsAre vs xs) {i : Nat} {v : Value} (hv : vs[i]? = some v) : ∃ t x, xs[i]? = some x ∧ v = .str x t := by
  induction h generalizing i with
  | nil => simp at hv
  | cons a t h ih =>
    cases i with
    | zero => simp at hv; exact ⟨t, a, rfl, hv.symm⟩
    | succ i => simpa using ih (by simpa using hv)
theorem not_adrs {w : World} {a : LexA} {text : Str} {adr : List Addr} {RO : Nat → List (Addr × Obj) → Prop} {lin : Int} {wsp : Str} {ws : List Str} {p : Nat} {blk : List (Addr × Obj)} {z : Addr} (M : MachSt w a RO lin wsp ws p blk) (Rd : Reader w a.rd text adr RO) (h : ∀ r ∈ blk, r.1 ≠ z) : z ∉ a.adrs ++ adr := fun hm => by
  have hm2 : z ∈ [a.x, a.dx, a.pb, a.st, a.std] ++ adr := hm
  rw [← M.adrs Rd] at hm2
  obtain ⟨r, hr, e⟩ := List.mem_map.mp hm2
  exact h r hr e
theorem of_adrs {w : World} {a : LexA} {text : Str} {adr : List Addr} {RO : Nat → List (Addr × Obj) → Prop} {lin : Int} {wsp : Str} {ws : List Str} {p : Nat} {blk : List (Addr × Obj)} {z : Addr} (M : MachSt w a RO lin wsp ws p blk) (Rd : Reader w a.rd text adr RO) (h : z ∉ a.adrs ++ adr) : ∀ r ∈ blk, r.1 ≠ z := fun r hr e => h (by
  show z ∈ [a.x, a.dx, a.pb, a.st, a.std] ++ adr
  rw [← M.adrs Rd, ← e]
  exact List.mem_map_of_mem hr)
section
variable {prog : Program} {w : World} {A : Around} {s : Shared} {env : Env} {h₀ : Heap} {L : Addr}
/-- a while by what holds between its turns and a number that falls -/
theorem while_J {R : Result → Shared → Prop} {test : Expr} {body : List Stmt} {m : Str → Option Value} {news : List (Addr × Obj)} {n : Nat} (F : Fr h₀ L s.heap m) (N : News h₀ L s.heap news)
    (J : Nat → (Str → Option Value) → List (Addr × Obj) → Prop) (h0 : J n m news)
    (turn : ∀ n m₁ news₁ h tk, J n m₁ news₁ → Fr h₀ L h m₁ → News h₀ L h news₁ →
      wpAny (model prog w) A (isTrue test env (eval test env)) (fun b s₂ =>
        if b = true then wpAny (model prog w) A (execs body env) (fun f s₃ => match f with
            | .next | .cont => Left (∃ n' m' nx h' tk', n' < n ∧ s₃ = { s with heap := h', toks := tk' } ∧ Fr h₀ L h' m' ∧ News h₀ L h' nx ∧ J n' m' nx)
            | .brk => R (.ok .next) s₃
            | .ret v => R (.ok (.ret v)) s₃) (fun _ _ => False) s₂
        else R (.ok .next) s₂) (fun _ _ => False) { s with heap := h, toks := tk }) :
    codeAny (model prog w) A (.whileLoop test body [] env) R s := by
  refine codeAny_whileLoop (fun n s' => ∃ m news h tk, s' = { s with heap := h, toks := tk } ∧ Fr h₀ L h m ∧ News h₀ L h news ∧ J n m news) ?_ n ⟨m, news, s.heap, s.toks, rfl, F, N, h0⟩
  rintro n s' ⟨m₁, news₁, h, tk, rfl, F₁, N₁, hJ⟩
  refine wpAny_mono (turn n m₁ news₁ h tk hJ F₁ N₁) (fun b s₂ z => ?_) (fun _ _ z => z.elim)
  cases b with
  | true =>
    simp only [if_true] at z ⊢
    refine wpAny_mono z (fun f s₃ z => ?_) (fun _ _ z => z.elim)
    cases f with
    | next => obtain ⟨n', m', nx, h', tk', a1, a2, a3, a4, a5⟩ := z; exact ⟨n', a1, m', nx, h', tk', a2, a3, a4, a5⟩
    | cont => obtain ⟨n', m', nx, h', tk', a1, a2, a3, a4, a5⟩ := z; exact ⟨n', a1, m', nx, h', tk', a2, a3, a4, a5⟩
    | brk => exact z
    | ret v => exact z
  | false =>
    simp only [Bool.false_eq_true, if_false] at z ⊢
    exact wpAny_execs_nil z
end
section
variable {prog : Program} {w : World} {A : Around} {E : Value → Shared → Prop} {s : Shared} {t u : Tok} {Q : Value → Shared → Prop}
theorem mod_st {x y : Nat} (hy : 0 < y) (hy2 : y < 1000) (h : Q (.int ((x % y : Nat) : Int) s.toks) { s with toks := s.toks + 1 }) : wpAny (model prog w) A (binaryOp .Mod (.int (x : Int) t) (.int (y : Int) u)) Q E s := by
  refine mod_int' (by omega) ?_
  rw [fmod_nn]; exact h
end
theorem join_Tx : ∀ xs : List (List Nat), Txt.join (Str.ofString "") (xs.map Tx) = Tx xs.flatten := by
  intro xs
  show Builtin.Str.glued _ _ = _
  rw [StrLaws.glued_eq_join]
  induction xs with
  | nil => rfl
  | cons x r ih =>
    cases r with
    | nil => simp only [List.map_cons, List.map_nil, List.flatten_cons, List.flatten_nil, List.append_nil]; rfl
    | cons y r =>
      rw [List.map_cons, List.map_cons, join_cons_cons, ← List.map_cons, ih, lit_e, Tx_app, Tx_app, List.append_nil]; rfl
theorem flat_le {b : Nat} : ∀ xs : List (List Nat), (∀ x ∈ xs, x.length ≤ b) → xs.flatten.length ≤ b * xs.length
  | [], _ => by simp
  | x :: r, h => by
    have h1 := h x (.head _)
    have h2 := flat_le r fun y hy => h y (.tail _ hy)
    rw [List.flatten_cons, List.length_append, List.length_cons, Nat.mul_add]
    omega
theorem lens_Tx (xs : List (List Nat)) : ((xs.map Tx).map (·.length)).sum = xs.flatten.length := by
  induction xs with
  | nil => rfl
  | cons x r ih => rw [List.map_cons, List.map_cons, List.sum_cons, ih, List.flatten_cons, List.length_append, Tx_len]
section
variable {prog : Program} {w : World} {A : Around} {E : Value → Shared → Prop} {s : Shared} {t : Tok} {Q : Value → Shared → Prop}
theorem join_T {D : Addr} {its : List Value} {ys : List Str} {xs : List (List Nat)} (hl : s.heap.IsList D its.toArray) (hi : StrsAre its ys) (hy : ys = xs.map Tx) (hw : xs.flatten.length + xs.length ≤ 1048576)
    (h : ∀ t' k, Q (.str (Tx xs.flatten) t') { s with toks := k }) : wpAny (model prog w) A (call (.builtin "str.join") [.str (Str.ofString "") t, .ref D]) Q E s := by
  subst hy
  refine join_listW hl (by simpa using hi) (Nat.zero_le _) (by rw [lens_Tx, List.length_map]; exact hw) ?_
  rw [join_Tx]; exact h
end
section
variable {prog : Program} {w : World} {A : Around} {E : Value → Shared → Prop} {s : Shared} {t u : Tok} {Q : Value → Shared → Prop}
theorem add_Tx {a b : List Nat} {y : Str} (hy : y = Tx b) (hs : a.length + b.length ≤ 1000000) (h : ∀ t' k, Q (.str (Tx (a ++ b)) t') { s with toks := k }) : wpAny (model prog w) A (binaryOp .Add (.str (Tx a) t) (.str y u)) Q E s := by
  subst hy
  refine PyProof.Rows.add_str ?_ (by rw [Tx_len, Tx_len, sizeLine_eq]; omega)
  rw [Tx_app]; exact h
end
theorem ws_10 : inWs "\n\t\r " 10 = true := by decide +kernel
theorem ws_34 : inWs "\n\t\r " 34 = false := by decide +kernel
theorem ws_92 : inWs "\n\t\r " 92 = false := by decide +kernel
theorem ws_101 : inWs "\n\t\r " 101 = false := by decide +kernel
theorem ws_110 : inWs "\n\t\r " 110 = false := by decide +kernel
theorem ws_100 : inWs "\n\t\r " 100 = false := by decide +kernel
/-- what may be left of a word as it is written -/
noncomputable def preL (pre : List Nat) : Prop := pre = [] ∨ pre = [9]
theorem lex_end : lex0 "\n\t\r " [101, 110, 100] = (Tx [101, 110, 100], []) := by
  rw [lex0_cons, ws_101, if_neg (by decide), if_neg (by decide), if_neg (by decide), lexW_cons, ws_110, if_neg (by decide), if_neg (by decide), lexW_cons, ws_100, if_neg (by decide), if_neg (by decide), show ("" : Str) = Tx [] from lit_e]
  show (Tx [] ++ Tx [101] ++ Tx [110] ++ Tx [100], _) = _
  rw [Tx_app, Tx_app, Tx_app]; rfl
theorem lex_nil : lex0 "\n\t\r " [] = (Tx [], []) := by rw [← lit_e]; rfl
theorem tab_fields {P line col : Nat} {qual : Str} {tb : List (Addr × Obj)} (S : TabSt P line col qual tb) : ∀ p ∈ tb, ∃ vs, p.2.data = .fields vs := by
  rcases S with rfl | ⟨c, oc, vs, t, rfl, h1, h2, -⟩
  · exact List.forall_mem_cons.mpr ⟨⟨_, rfl⟩, List.forall_mem_nil _⟩
  · exact List.forall_mem_cons.mpr ⟨⟨_, rfl⟩, List.forall_mem_cons.mpr ⟨⟨_, h1⟩, List.forall_mem_nil _⟩⟩
section
variable {w : World} {dp un : Nat} {gd : Option (List Code)} {env : Env} {outer : List Env} {A₀ : Around} {base h₀ : Heap} {L : Addr} {m : Str → Option Value} {tp : Program} {tl : List Str} {mean : ExcName → Option Value} {mg mb : Str → Option Value} {s : Shared} {Q E : Value → Shared → Prop}
  {aa T3 T4 : List (Addr × Obj)}
theorem dm_use {a b : Int} {ta tb : Tok} (S3 : TabSt 37 35 4 "_int2digits.<locals>.inner" T3) (S4 : TabSt 44 50 4 "_digits2int.<locals>.inner" T4) (off : ∀ q ∈ aa, ∀ r ∈ T3 ++ T4, q.1 ≠ r.1)
    (hb : 0 < b) (ha : a.natAbs < 2 ^ 59) (hb2 : b.natAbs < 2 ^ 59)
    (B : Below A₀ base outer h₀) (F : Fr h₀ L s.heap m) (X : (hd.heap_1 w.params).In h₀) (N : News h₀ L s.heap (aa ++ (T3 ++ T4))) (T : Top tp tl mean mg mb h₀) (hf : env.frame = some L) (hke : env.scope.kind = .function)
    (hd : dp + 105 < recursionLimit) (hu : un + 700 < cLine)
    (ret : ∀ D T3' T4' tq tr h' tk', TabSt 37 35 4 "_int2digits.<locals>.inner" T3' → TabSt 44 50 4 "_digits2int.<locals>.inner" T4' → (∀ q ∈ aa, ∀ r ∈ T3' ++ T4', q.1 ≠ r.1) → (∀ q ∈ aa, D ≠ q.1) → (∀ r ∈ T3' ++ T4', D ≠ r.1) → Fr h₀ L h' m →
      News h₀ L h' ((D, { cls := .type "tuple", data := .seq #[.int (a / b) tq, .int (a % b) tr] }) :: (aa ++ (T3' ++ T4'))) → Q (.ref D) { s with heap := h', toks := tk' }) :
    wpAny (model Challenge.rw_pe0259_02.row.prog w) (Ar dp un gd (env :: outer)) (call (.ref 63) [.int a ta, .int b tb]) Q E s := by
  refine use_g (int_divmod_c w a b ta tb T3 T4 S3 S4 hb ha hb2) (oth := aa) B F X N T hf hke (fun q hq => List.mem_append_right _ hq) (fun q hq => List.mem_append_left _ hq) off (by omega) (by omega) ?_
  rintro v blk h' tk' F' N' ne - ⟨D, T3', T4', tq, tr, rfl, S3', S4', rfl⟩
  refine ret D T3' T4' tq tr h' tk' S3' S4' (fun q hq r hr => (ne r (.tail _ hr) q hq).symm) (fun q hq => ne _ (.head _) q hq) (fun r hr e => ?_) F' (fun q hq => ?_)
  · have h1 := (N' (D, _) (.head _)).1
    have h2 := (N' r (List.mem_append_left _ (.tail _ hr))).1
    simp only at h1
    rw [e, h2] at h1
    have h3 := Option.some.inj h1
    have h4 : ∃ vs, r.2.data = .fields vs := by
      rcases List.mem_append.mp hr with hr | hr
      · exact tab_fields S3' r hr
      · exact tab_fields S4' r hr
    obtain ⟨vs, h4⟩ := h4
    rw [h3] at h4
    cases h4
  · rcases List.mem_cons.mp hq with rfl | hq
    · exact N' _ (.head _)
    · rcases List.mem_append.mp hq with hq | hq
      · exact N' q (List.mem_append_right _ hq)
      · exact N' q (List.mem_append_left _ (.tail _ hq))
end
/-- the statements of law from the k-th on, and its scope -/
noncomputable def lawRest (o : Option Obj) (k : Nat) : Option (List Stmt × Scope) := match o with
  | some ⟨_, _, .func fd, _⟩ => (match fd.body with
    | .stmts b => some (b.drop k, fd.scope)
    | _ => none)
  | _ => none
theorem law_out {K : Frag} {f : Addr} {o : Obj} {i : Nat} {x : Option (List Stmt × Scope)} {P : Prop} (hl : K.lookup f = some o) (h : lawRest (K.lookup f) i = x) (k : lawRest (some o) i = x → P) : P := k (hl ▸ h)
/-- what law hands back, and what stands at its end -/
noncomputable def LawEnd (h₀ : Heap) (L : Addr) (Q : Flow → Shared → Prop) (s : Shared) : Prop :=
  ∀ m' h' tk' p1 p2 p3, Fr h₀ L h' m' → News h₀ L h' [(173, tabObj p1), (44, tabObj p2), (37, tabObj p3)] → Q (.ret (.bool true)) { s with heap := h', toks := tk' }
noncomputable abbrev cellIs (o : Obj) (v : Option Value) : Prop := o.data = .cell v
theorem mach_ne {w : World} {a : LexA} {text : Str} {adr : List Addr} {RO : Nat → List (Addr × Obj) → Prop} {lin : Int} {wsp : Str} {ws : List Str} {p : Nat} {lin' wsp' : Value} {its : List Value} {k : Nat} {l : List (Addr × Obj)} {z : Addr} (M : MachSt w a RO lin wsp ws p (lexObjs w a lin' wsp' its k ++ l)) (Rd : Reader w a.rd text adr RO) (h : z ∉ a.adrs ++ adr) :
    a.x ≠ z ∧ a.dx ≠ z ∧ a.pb ≠ z ∧ a.st ≠ z ∧ a.std ≠ z ∧ ∀ q ∈ l, q.1 ≠ z :=
  ⟨of_adrs M Rd h (a.x, _) (.head _), of_adrs M Rd h (a.dx, _) (.tail _ (.head _)), of_adrs M Rd h (a.pb, _) (.tail _ (.tail _ (.head _))), of_adrs M Rd h (a.st, _) (.tail _ (.tail _ (.tail _ (.head _)))), of_adrs M Rd h (a.std, _) (.tail _ (.tail _ (.tail _ (.tail _ (.head _))))), fun q hq => of_adrs M Rd h q (List.mem_append_right _ hq)⟩
theorem ints_at1 {vs : List Value} {xs : List Int} (h : IntsAre vs xs) {i : Nat} {v : Value} (hv : vs[i]? = some v) : ∃ t x, xs[i]? = some x ∧ v = .int x t := by
  induction h generalizing i with
  | nil => simp at hv
  | cons a t h ih =>
    cases i with
    | zero => simp at hv; exact ⟨t, a, rfl, hv.symm⟩
    | succ i => simpa using ih (by simpa using hv)
theorem small_n {n : Nat} (h : n ≤ 5000) : Builtin.Range.small 0 (n : Int) 1 = true := small_one (by omega) (by omega) (by omega) (by omega)
theorem size_n {n : Nat} (h : n ≤ 5000) : n ≤ sizeLine := by rw [sizeLine_eq]; omega
theorem Off1_mem {D : Addr} : ∀ {l : List (Addr × Obj)}, LCg.Off1 D l → ∀ p ∈ l, p.1 ≠ D
  | [], _, _, h => nomatch h
  | _ :: _, x, p, h => by
    rcases List.mem_cons.mp h with rfl | h
    · exact x.1
    · exact Off1_mem x.2 p h
theorem mem_skip {α : Type} {x : α} {c : List α} (a : List α) (h : x ∈ c) : x ∈ a ++ c := List.mem_append_right a h
theorem News.mid {h₀ h : Heap} {L : Addr} {a b c : List (Addr × Obj)} (N : News h₀ L h (a ++ (b ++ c))) : News h₀ L h ((a ++ c) ++ b) := fun p hp => by
  rcases List.mem_append.mp hp with hp | hp
  · rcases List.mem_append.mp hp with hp | hp
    · exact N p (List.mem_append_left _ hp)
    · exact N p (List.mem_append_right _ (List.mem_append_right _ hp))
  · exact N p (List.mem_append_right _ (List.mem_append_left _ hp))
theorem News.unmid {h₀ h : Heap} {L : Addr} {a b c : List (Addr × Obj)} (N : News h₀ L h ((a ++ c) ++ b)) : News h₀ L h (a ++ (b ++ c)) := fun p hp => by
  rcases List.mem_append.mp hp with hp | hp
  · exact N p (List.mem_append_left _ (List.mem_append_left _ hp))
  · rcases List.mem_append.mp hp with hp | hp
    · exact N p (List.mem_append_right _ hp)
    · exact N p (List.mem_append_left _ (List.mem_append_right _ hp))
theorem tab_head {P : Addr} {line col : Nat} {q : Str} {tb : List (Addr × Obj)} (h : TabSt P line col q tb) : ∃ ps, (P, tabObj ps) ∈ tb := by
  rcases h with rfl | ⟨c, oc, vs, t, rfl, _⟩
  · exact ⟨_, .head _⟩
  · exact ⟨_, .head _⟩
section
variable {w : World} {dp un : Nat} {gd : Option (List Code)} {env : Env} {outer : List Env} {A₀ : Around} {base h₀ : Heap} {L : Addr} {m : Str → Option Value} {tp : Program} {tl : List Str} {mean : ExcName → Option Value} {mg mb : Str → Option Value} {s : Shared} {Q E : Value → Shared → Prop}
/-- a call that leaves what it looks at -/
theorem use_keep {D U : Nat} {f : Addr} {args : List Value} {sel news : List (Addr × Obj)} {Post : Nat → Value → List (Addr × Obj) → Prop} (C : Con w D U f args sel Post) (hk : ∀ n v b, Post n v b → b = sel)
    (B : Below A₀ base outer h₀) (F : Fr h₀ L s.heap m) (X : (hd.heap_1 w.params).In h₀) (N : News h₀ L s.heap news) (T : Top tp tl mean mg mb h₀) (hf : env.frame = some L) (hke : env.scope.kind = .function)
    (hsel : ∀ p ∈ sel, p ∈ news) (hd : dp + D < recursionLimit) (hu : un + U < cLine)
    (ret : ∀ v h' tk', Fr h₀ L h' m → News h₀ L h' news → Post s.heap.objs.size v sel → Q v { s with heap := h', toks := tk' }) :
    wpAny (model Challenge.rw_pe0259_02.row.prog w) (Ar dp un gd (env :: outer)) (call (.ref f) args) Q E s := by
  refine use_g C (oth := news.filter fun p => decide (p.1 ∉ sel.map Prod.fst)) B F X N T hf hke hsel (fun p hp => (List.mem_filter.mp hp).1) (fun p hp q hq e => ?_) hd hu ?_
  · exact of_decide_eq_true (List.mem_filter.mp hp).2 (e ▸ List.mem_map_of_mem hq)
  · intro v sel' h' tk' F' N' _ _ hP
    obtain rfl := hk _ _ _ hP
    refine ret v h' tk' F' (fun p hp => ?_) hP
    by_cases hm : p.1 ∈ sel'.map Prod.fst
    · obtain ⟨r, hr, e⟩ := List.mem_map.mp hm
      have e1 := (N p hp).1
      have e2 := (N r (hsel r hr)).1
      rw [e, e1] at e2
      have : p = r := Prod.ext e.symm (Option.some.inj e2)
      exact N' p (List.mem_append_left _ (this ▸ hr))
    · exact N' p (List.mem_append_right _ (List.mem_filter.mpr ⟨hp, decide_eq_true hm⟩))
end
theorem strs_drop {vs : List Value} {xs : List Str} (h : StrsAre vs xs) (k : Nat) : StrsAre (vs.drop k) (xs.drop k) := by
  induction h generalizing k with
  | nil => simp; exact .nil
  | cons a t h ih =>
    cases k with
    | zero => exact .cons a t h
    | succ k => exact ih k
theorem strs_take {vs : List Value} {xs : List Str} (h : StrsAre vs xs) (k : Nat) : StrsAre (vs.take k) (xs.take k) := by
  induction h generalizing k with
  | nil => simp; exact .nil
  | cons a t h ih =>
    cases k with
    | zero => exact .nil
    | succ k => exact .cons a t (ih k)
section
open PySem.StrLaws PySem.Builtin.Str
theorem occ_cnt (x : Str) (c : Nat) : ∀ (m a free : Nat) (found : Array Nat), free ≤ a → found.size ≤ a → a + m ≤ x.length + 1 →
    (forIn (List.range' a m) (found, free) (occBody x ⟨#[c]⟩ x.length (x.length + 1))).run.fst.size = found.size + ((x.cps.toList.drop a).take m).count c
  | 0, a, free, found, _, _, _ => by simp
  | m + 1, a, free, found, h1, h2, h3 => by
    rw [List.range'_succ, List.forIn_cons]
    unfold occBody
    by_cases hc : x.cps.toList[a]? = some c
    · obtain ⟨hlt, hx⟩ := List.getElem?_eq_some_iff.mp hc
      have hs := (subAt_one x c a).mpr hc
      rw [if_pos ⟨⟨⟨by show found.size < _; omega, h1⟩, hs.1⟩, hs.2⟩]
      have ih := occ_cnt x c m (a + 1) (a + 1) (found.push a) (Nat.le_refl _) (by rw [Array.size_push]; omega) (by omega)
      rw [List.drop_eq_getElem_cons hlt, List.take_succ_cons, hx, List.count_cons_self]
      have e : (found.push a).size = found.size + 1 := Array.size_push ..
      rw [e] at ih
      exact ih.trans (by omega)
    · have hs : ¬ ((((found, free).fst.size < x.length + 1 ∧ (found, free).snd ≤ a) ∧ a + (⟨#[c]⟩ : Str).length ≤ x.length) ∧ subAt x ⟨#[c]⟩ a = true) := fun h => hc ((subAt_one x c a).mp ⟨h.1.2, h.2⟩)
      rw [if_neg hs]
      have ih := occ_cnt x c m (a + 1) free found (by omega) (by omega) (by omega)
      have e : ((x.cps.toList.drop a).take (m + 1)).count c = ((x.cps.toList.drop (a + 1)).take m).count c := by
        rcases Nat.lt_or_ge a x.cps.toList.length with hlt | hge
        · rw [List.drop_eq_getElem_cons hlt, List.take_succ_cons, List.count_cons_of_ne]
          intro e
          exact hc (by rw [List.getElem?_eq_getElem hlt, e])
        · rw [List.drop_of_length_le hge, List.drop_of_length_le (by omega)]; simp
      rw [e]
      exact ih
theorem count_one (x : Str) (c : Nat) : Txt.count x ⟨#[c]⟩ = ((x.cps.toList.count c : Nat) : Int) := by
  unfold Txt.count
  rw [occ_eq, Array.length_toList, occ_cnt x c _ 0 0 #[] (Nat.le_refl _) (Nat.zero_le _) (by omega)]
  have : (x.cps.toList.take (x.length + 1)) = x.cps.toList := List.take_of_length_le (by rw [← len_cps]; omega)
  simp [this]
theorem nl_all {x : Str} {p : Nat} {pre : List Nat} (hpre : preL pre) (h : codes x p = pre ++ [101, 110, 100]) : nlTo x p = ((x.cps.toList.count 10 : Nat) : Int) := by
  unfold nlTo
  have e : x.cps.toList.count 10 = (x.cps.toList.take p).count 10 + (codes x p).count 10 := by
    rw [← List.count_append, List.take_append_drop]
  have e2 : (codes x p).count 10 = 0 := by
    rw [h]
    rcases hpre with rfl | rfl <;> decide
  rw [e, e2]; rfl
end
noncomputable def lvl2 (S : WsSt) (ts : Int) : Int := S.b + ts * (ilTo S.count ts (S.count.length - ts.toNat) + S.nt)
/-- what a lead tells more than its tabs -/
noncomputable def pas (S : WsSt) (size : Nat) : Int := lvl2 S size / (size : Int) - S.nt
theorem passed_c (w : World) (x : Addr) (S : WsSt) (bl T3 T4 : List (Addr × Obj)) (W : WsAt w x S bl) (S3 : TabSt 37 35 4 "_int2digits.<locals>.inner" T3) (S4 : TabSt 44 50 4 "_digits2int.<locals>.inner" T4) (off : ∀ q ∈ bl, ∀ r ∈ T3 ++ T4, q.1 ≠ r.1)
    (size : Nat) (t : Tok) (h1 : 1 ≤ size) (h2 : size < 1000) (hc : S.count.length < 10000) (hlv : (lvl2 S size).natAbs < 2 ^ 59) :
    Con w 120 900 202 [.ref x, .int (size : Int) t] (bl ++ (T3 ++ T4)) (fun _ v blk => ∃ T3' T4' t', v = .int (pas S size) t' ∧ TabSt 37 35 4 "_int2digits.<locals>.inner" T3' ∧ TabSt 44 50 4 "_digits2int.<locals>.inner" T4' ∧ (∀ q ∈ bl, ∀ r ∈ T3' ++ T4', q.1 ≠ r.1) ∧ blk = bl ++ (T3' ++ T4')) := by
  obtain ⟨dL, nL, cL, rL, trL, tn0L, tnL, tt0L, tntL, toL, tiL, tbL, vsL, hvsL, hbL⟩ := id W
  rw [hbL]
  simp only [List.cons_append, List.nil_append]
  unfold Con
  k_fill
  intro dp un gd outer base g tp tl mean mg mb s R B hg hsz hsel X T hd hu ret
  refine' enter_g B hg hsz hsel X T ?k6 ?k7 ?k8 ?k9 ?kB ?_ ?c2 ?c3 ?c4 ?c5
  (case k6 => k_is); (case k7 => k_is); (case k8 => ktr_room); (case k9 => exact BindsTo.of_eq rfl); (case c5 => decide); (case kB => exact locs rfl); (case c2 => exact rfl); (case c3 => exact rfl); (case c4 => exact rfl)
  k_whole
  intro L' h' tk' F' N' l1
  (try dsimp only); (try k_fold)
  ((repeat' ((fail_if_success (with_reducible show wpAny _ _ (call (Value.ref 136) _) _ _ _)); (first | (k_unfold; (try dsimp only)) | ((with_reducible first | show wpAny _ _ (exec _ _) _ _ _ | show wpAny _ _ (execs _ _) _ _ _); k_fold) | (k_end; wrow_close) | walk1 | (dsimp only; walk1) | (leave1; (try dsimp only))))) <;> (repeat (k_unfold; (try dsimp only))))
  rename Fr _ _ _ _ => F1
  rename News _ _ _ _ => N1
  have CL : ∀ t, Con w 10 100 136 [.ref x, .int (size : Int) t] bl (fun _ v b => (∃ t, v = .int (lvl2 S size) t) ∧ b = bl) := fun t => indent_c w x S bl W _ t (by omega) (by omega) hc
  obtain ⟨nw, hnw⟩ : ∃ nw, nw = bl ++ (T3 ++ T4) := ⟨_, rfl⟩
  refine use_keep (CL _) (fun _ _ _ h => h.2) (news := nw) B F1 X (by rw [hnw, hbL]; exact N1) T rfl rfl (fun p hp => by rw [hnw]; exact List.mem_append_left _ hp) (by k_room) (by k_units) ?_
  rintro v9 h9 tk9 F2 N2 ⟨⟨t9, rfl⟩, -⟩
  rw [hnw, hbL] at N2
  simp only [List.cons_append, List.nil_append] at N2
  clear F1 N1
  (try dsimp only)
  ((repeat' ((fail_if_success (with_reducible show wpAny _ _ (call (Value.ref 63) _) _ _ _)); (first | (k_unfold; (try dsimp only)) | ((with_reducible first | show wpAny _ _ (exec _ _) _ _ _ | show wpAny _ _ (execs _ _) _ _ _); k_fold) | (k_end; wrow_close) | walk1 | (dsimp only; walk1) | (leave1; (try dsimp only))))) <;> (repeat (k_unfold; (try dsimp only))))
  rename Fr _ _ _ _ => F3
  rename News _ _ _ _ => N3
  refine dm_use (aa := bl) (T3 := T3) (T4 := T4) S3 S4 off (by omega) hlv (by omega) B F3 X (by rw [hbL]; exact N3) T rfl rfl (by k_room) (by k_units) ?_
  intro D31 T3' T4' tq31 tr31 h31 tk31 S3' S4' off31 offD31 offD31' F4 N4
  clear F3 N3
  try clear F2
  try clear N2
  rw [hbL] at N4
  simp only [List.cons_append, List.nil_append] at N4
  (try dsimp only)
  ((repeat' (first | (k_unfold; (try dsimp only)) | ((with_reducible first | show wpAny _ _ (exec _ _) _ _ _ | show wpAny _ _ (execs _ _) _ _ _); k_fold) | (k_end; wrow_close) | walk1 | (dsimp only; walk1) | (leave1; (try dsimp only)))) <;> (repeat (k_unfold; (try dsimp only))))
  (try dsimp only)
  rename Fr _ _ _ _ => F5
  rename News _ _ _ _ => N5
  refine ret _ (bl ++ (T3' ++ T4')) _ _ F5.keep (fun r hr => ?_) ⟨T3', T4', _, rfl, S3', S4', by rw [← hbL]; exact off31, by rw [hbL]; rfl⟩
  have z := N5 r (.tail _ (by rw [hbL] at hr; exact hr))
  exact ⟨z.1, z.2.2⟩
open LCg
section
variable {prog : Program} {w : World} {A : Around} {s : Shared} {env : Env} {h₀ : Heap} {L : Addr}
/-- a for over a made list whose variable stands in a cell -/
theorem for_lstC {R : Result → Shared → Prop} {E : Value → Shared → Prop} {y : Str} {px : Pos} {body : List Stmt} {m : Str → Option Value} {news : List (Addr × Obj)} {l K : Addr} {lo oK0 : Obj} {its : Array Value} {v0 : Option Value} (hh : A.handled = none)
    (hcl : lo.cls = .type "list") (hdt : ∃ k, lo.data = .seq its k) (hy : env.kindOf y = some .cell) (hk : env.scope.kind = .function) (hc : env.cells.lookup y = some K)
    (F : Fr h₀ L s.heap m) (N : News h₀ L s.heap ((K, oK0) :: news)) (hK0 : oK0.data = .cell v0)
    (J : Nat → (Str → Option Value) → List (Addr × Obj) → Prop) (hJ : ∀ i m nw, J i m nw → (l, lo) ∈ nw ∧ ∀ p ∈ nw, p.1 ≠ K) (h0 : J 0 m news)
    (turn : ∀ i v m₁ news₁ h tk I oI oK, its[i]? = some v → J i m₁ news₁ → (∀ p ∈ news₁, p.1 ≠ I) → I ≠ K → oK.data = .cell (some v) → Fr h₀ L h m₁ → News h₀ L h ((K, oK) :: (news₁ ++ [(I, oI)])) →
      wpAny (model prog w) A (execs body env) (fun f s₂ => match f with
        | .next | .cont => Left (∃ h' tk m' nx oK', s₂ = { s with heap := h', toks := tk } ∧ Fr h₀ L h' m' ∧ (∃ v, oK'.data = .cell v) ∧ News h₀ L h' ((K, oK') :: (nx ++ [(I, oI)])) ∧ (∀ p ∈ nx, p.1 ≠ I) ∧ J (i + 1) m' nx)
        | .brk => R (.ok .next) s₂
        | .ret v => R (.ok (.ret v)) s₂) (fun _ _ => False) { s with heap := h, toks := tk })
    (done : ∀ m' news' h' tk oK v, J its.size m' news' → oK.data = .cell v → Fr h₀ L h' m' → News h₀ L h' ((K, oK) :: news') → R (.ok .next) { s with heap := h', toks := tk }) :
    wpAny (model prog w) A (pyIter (.ref l)) (fun it s₂ => codeAny (model prog w) A (.forLoop (.Name y px) it body [] env) R s₂) E s := by
  have hl := N _ (.tail _ (hJ _ _ _ h0).1)
  have hlist : s.heap.IsList l its := ⟨lo, hl.1, hcl, hdt⟩
  have hlt : l < s.heap.objs.size := Heap.lt_size hl.1
  refine wpAny_pyIter_list hlist ?_
  obtain ⟨I, hI⟩ : ∃ I, I = s.heap.objs.size := ⟨_, rfl⟩
  have W := Walks.list (prog := prog) (w := w) (A := A) hh I l (hI ▸ Nat.ne_of_lt hlt) its
  generalize hH : s.heap.push { cls := .type "list_iterator", data := .fields #[.ref l, .int 0 0] } = H
  rw [← hI]
  have up : ∀ a o, s.heap.get? a = some o → H.get? a = some o := fun a o e => by rw [← hH]; exact Heap.get?_push_of_some _ e
  have hst : H.IsListIter I l 0 ∧ H.IsList l its := ⟨⟨_, by rw [← hH, hI]; exact Heap.get?_push_size _ rfl, rfl, rfl⟩, hlist.at fun o e => up l o e⟩
  have hLI : L ≠ I := hI ▸ Nat.ne_of_lt F.ns.lt
  have hIn : h₀.get? I = none := by rw [hI]; exact new_none F
  have hKlt : K < s.heap.objs.size := Heap.lt_size (N _ (.head _)).1
  have hIK : I ≠ K := hI ▸ (Nat.ne_of_lt hKlt).symm
  have hKL := (N _ (.head _)).2
  refine codeAny_forLoop (fun n s' => ∃ h tk i m₁ nw oI oK v, s' = { s with heap := h, toks := tk } ∧ i ≤ its.size ∧ n = its.size + 1 - i ∧ h.IsListIter I l i ∧ oK.data = .cell v ∧ Fr h₀ L h m₁ ∧ News h₀ L h ((K, oK) :: (nw ++ [(I, oI)])) ∧ (∀ p ∈ nw, p.1 ≠ I) ∧ J i m₁ nw) ?_ (its.size + 1)
    ⟨H, s.toks, 0, m, news, { cls := .type "list_iterator", data := .fields #[.ref l, .int 0 0] }, oK0, v0, rfl, Nat.zero_le _, rfl, hst.1, hK0, F.keeps up, fun p hp => ?_, fun p hp => ?_, h0⟩
  · rintro n s₁ ⟨h, tk, i, m₁, nw, oI, oK, v, rfl, hi, rfl, hit, hoK, F₁, N₁, hnI, hJi⟩
    have hll := (hJ _ _ _ hJi).1
    have hlo : h.get? l = some lo := (N₁ _ (.tail _ (List.mem_append_left _ hll))).1
    have hst₁ : h.IsListIter I l i ∧ h.IsList l its := ⟨hit, ⟨lo, hlo, hcl, hdt⟩⟩
    have nwI : ∀ p ∈ (K, oK) :: nw, p.1 ≠ I := List.forall_mem_cons.mpr ⟨hIK.symm, hnI⟩
    by_cases hlt2 : i < its.size
    · refine W.item i _ _ _ hlt2 hst₁ fun x h₂ tk₂ hx hst₂ hk₂ => ?_
      have kp : ∀ a o, a ≠ I → h.get? a = some o → h₂.get? a = some o := fun a o ha e => hk₂ a o (by simpa using ha) e
      refine wpAny_assign_Name (wpAny_storeName_cell hk hy hc ⟨oK, kp _ _ hIK.symm (N₁ _ (.head _)).1, hoK⟩ (fun h₃ hk₃ hs₃ => ?_))
      obtain ⟨oK₃, heK, hdK⟩ := hk₃
      have kp3 : ∀ a o, a ≠ K → h₂.get? a = some o → h₃.get? a = some o := fun a o ha e => hs₃.extBut a o ha e
      obtain ⟨oI₂, hoI₂, hI2⟩ := hst₂.1
      have hoI₃ := kp3 _ _ hIK hoI₂
      refine wpAny_mono (turn i x m₁ nw h₃ _ I oI₂ oK₃ hx hJi hnI hIK hdK ((fr_but F₁ hk₂ hLI hIn).change hs₃ hKL.1 hKL.2) (fun p hp => ?_)) (fun f s₂ z => ?_) (fun _ _ z => z.elim)
      · rcases List.mem_cons.mp hp with rfl | hp
        · exact ⟨heK, hKL⟩
        · rcases List.mem_append.mp hp with hp | hp
          · have z := N₁ p (.tail _ (List.mem_append_left _ hp))
            exact ⟨kp3 _ _ ((hJ _ _ _ hJi).2 p hp) (kp _ _ (hnI p hp) z.1), z.2⟩
          · rw [List.mem_singleton.mp hp]
            exact ⟨hoI₃, hLI.symm, hIn⟩
      · have key : (∃ h' tk m' nx oK', s₂ = { s with heap := h', toks := tk } ∧ Fr h₀ L h' m' ∧ (∃ v, oK'.data = .cell v) ∧ News h₀ L h' ((K, oK') :: (nx ++ [(I, oI₂)])) ∧ (∀ p ∈ nx, p.1 ≠ I) ∧ J (i + 1) m' nx) →
            ∃ m, m < its.size + 1 - i ∧ ∃ h tk j m₁ nw oI oK v, s₂ = { s with heap := h, toks := tk } ∧ j ≤ its.size ∧ m = its.size + 1 - j ∧ h.IsListIter I l j ∧ oK.data = .cell v ∧ Fr h₀ L h m₁ ∧ News h₀ L h ((K, oK) :: (nw ++ [(I, oI)])) ∧ (∀ p ∈ nw, p.1 ≠ I) ∧ J j m₁ nw := by
          rintro ⟨h', tk', m', nx, oK', rfl, F', ⟨v', hv'⟩, N', k1, k2⟩
          exact ⟨_, turn_lt hlt2, h', tk', i + 1, m', nx, oI₂, oK', v', rfl, hlt2, rfl, ⟨oI₂, (N' (I, oI₂) (.tail _ (List.mem_append_right _ (.head _)))).1, hI2⟩, hv', F', N', k1, k2⟩
        cases f with
        | next => exact key z
        | cont => exact key z
        | brk => exact z
        | ret v => exact z
    · obtain rfl : i = its.size := Nat.le_antisymm hi (Nat.not_lt.mp hlt2)
      refine W.done _ _ _ hst₁ fun h₂ tk₂ hk₂ => ?_
      have kp : ∀ a o, a ≠ I → h.get? a = some o → h₂.get? a = some o := fun a o ha e => hk₂ a o (by simpa using ha) e
      refine wpAny_execs_nil ?_
      exact done m₁ nw h₂ tk₂ oK v hJi hoK (fr_but F₁ hk₂ hLI hIn) (fun p hp => by
        have z := N₁ p (by
          rcases List.mem_cons.mp hp with rfl | hp
          · exact .head _
          · exact .tail _ (List.mem_append_left _ hp))
        exact ⟨kp _ _ (nwI p hp) z.1, z.2⟩)
  · rcases List.mem_cons.mp hp with rfl | hp
    · exact ⟨up _ _ (N _ (.head _)).1, (N _ (.head _)).2⟩
    · rcases List.mem_append.mp hp with hp | hp
      · exact ⟨up _ _ (N _ (.tail _ hp)).1, (N _ (.tail _ hp)).2⟩
      · rw [List.mem_singleton.mp hp]
        exact ⟨by rw [← hH, hI]; exact Heap.get?_push_size _ rfl, hLI.symm, hIn⟩
  · exact hI ▸ Nat.ne_of_lt (Heap.lt_size (N p (.tail _ hp)).1)
end
/-- a game of change: the words held, those changed, those that wait -/
noncomputable def chg (p : Nat) : Nat → List Nat → List Nat → List Nat → List Nat × List Nat × List Nat
  | 0, held, ch, qu => (held, ch, qu)
  | _ + 1, held, ch, [] => (held, ch, [])
  | f + 1, held, ch, q :: r => if (held ++ [q]).count q = p then chg p f ((held ++ [q]).filter fun x => decide (x ≠ q)) (ch ++ [q]) (r ++ [q + 1]) else chg p f (held ++ [q]) ch r
/-- what holds all the while -/
structure ChI (p : Nat) (n : Nat → Nat) (held ch qu : List Nat) : Prop where
  lt : ∀ k, held.count k < p
  cnt : ∀ k, held.count (k + 1) + qu.count (k + 1) + p * ch.count (k + 1) = n (k + 1) + ch.count k
  pos : ∀ x ∈ qu, 1 ≤ x
  zero : ch.count 0 = 0
theorem cnt_one (q k : Nat) : [q].count k = if q = k then 1 else 0 := by
  rw [List.count_cons, List.count_nil, Nat.zero_add]
  by_cases h : q = k <;> simp [h]
theorem filt_cnt (l : List Nat) (q k : Nat) : (l.filter fun x => decide (x ≠ q)).count k = if k = q then 0 else l.count k := by
  by_cases h : k = q
  · rw [if_pos h, List.count_eq_zero]
    intro hm
    have := (List.mem_filter.mp hm).2
    simp [h] at this
  · rw [if_neg h, List.count_filter (by simpa using h)]
theorem filt_len (l : List Nat) (q : Nat) : (l.filter fun x => decide (x ≠ q)).length + l.count q = l.length := by
  induction l with
  | nil => rfl
  | cons x r ih =>
    rw [List.filter_cons, List.count_cons, List.length_cons]
    by_cases h : x = q
    · simp [h]; simp [h] at ih; omega
    · simp [h]; simp at ih; omega
theorem ChI.keep {p : Nat} {n : Nat → Nat} {held ch r : List Nat} {q : Nat} (I : ChI p n held ch (q :: r)) (h : (held ++ [q]).count q ≠ p) : ChI p n (held ++ [q]) ch r := by
  have hq := I.pos q (.head _)
  refine ⟨fun k => ?_, fun k => ?_, fun x hx => I.pos x (.tail _ hx), I.zero⟩
  · have h1 := I.lt k
    rw [List.count_append, cnt_one] at h ⊢
    by_cases e : q = k
    · subst e
      simp only [if_true] at h ⊢
      omega
    · rw [if_neg e]; omega
  · have h1 := I.cnt k
    rw [List.count_append, cnt_one]
    rw [show q :: r = [q] ++ r from rfl, List.count_append, cnt_one] at h1
    omega
theorem ChI.merge {p : Nat} {n : Nat → Nat} {held ch r : List Nat} {q : Nat} (I : ChI p n held ch (q :: r)) (h : (held ++ [q]).count q = p) (hp : 0 < p) : ChI p n ((held ++ [q]).filter fun x => decide (x ≠ q)) (ch ++ [q]) (r ++ [q + 1]) := by
  have hq := I.pos q (.head _)
  refine ⟨fun k => ?_, fun k => ?_, fun x hx => ?_, ?_⟩
  · rw [filt_cnt]
    have h1 := I.lt k
    by_cases e : k = q
    · rw [if_pos e]; exact hp
    · rw [if_neg e, List.count_append, cnt_one, if_neg (fun e' => e e'.symm)]; exact h1
  · have h1 := I.cnt k
    rw [show q :: r = [q] ++ r from rfl, List.count_append, cnt_one] at h1
    rw [List.count_append, cnt_one] at h
    simp only [filt_cnt, List.count_append, cnt_one]
    by_cases e : q = k + 1
    · subst e
      simp only [if_true] at h h1 ⊢
      rw [if_neg (by omega : ¬ k + 1 + 1 = k + 1), if_neg (by omega : ¬ k + 1 = k), Nat.mul_add]
      omega
    · rw [if_neg e] at h1
      rw [if_neg (fun e' => e e'.symm), if_neg e]
      by_cases e2 : q = k
      · subst e2
        simp only [if_true, Nat.add_zero, Nat.zero_add] at h1 ⊢
        omega
      · rw [if_neg e2, if_neg (by omega : ¬ q + 1 = k + 1)]
        simp only [Nat.add_zero, Nat.zero_add] at h1 ⊢
        omega
  · rcases List.mem_append.mp hx with hx | hx
    · exact I.pos x (.tail _ hx)
    · rw [List.mem_singleton.mp hx]; omega
  · rw [List.count_append, I.zero, cnt_one, if_neg (by omega)]
theorem chg_end {p : Nat} {n : Nat → Nat} (hp : 2 ≤ p) : ∀ (f : Nat) (held ch qu : List Nat), ChI p n held ch qu → 2 * qu.length + held.length ≤ f → (chg p f held ch qu).2.2 = [] ∧ ChI p n (chg p f held ch qu).1 (chg p f held ch qu).2.1 []
  | 0, held, ch, qu, I, hf => by
    have : qu = [] := List.length_eq_zero_iff.mp (by omega)
    subst this
    exact ⟨rfl, I⟩
  | f + 1, held, ch, [], I, _ => ⟨rfl, I⟩
  | f + 1, held, ch, q :: r, I, hf => by
    rw [chg]
    rw [List.length_cons] at hf
    split
    · rename_i h
      have hl := filt_len (held ++ [q]) q
      rw [h, List.length_append, List.length_singleton] at hl
      exact chg_end hp f _ _ _ (I.merge h (by omega)) (by rw [List.length_append, List.length_singleton]; omega)
    · rename_i h
      exact chg_end hp f _ _ _ (I.keep h) (by rw [List.length_append, List.length_singleton]; omega)
/-- how often words of each length are changed, by how many there are -/
noncomputable def cs (p : Nat) (n : Nat → Nat) : Nat → Nat
  | 0 => 0
  | k + 1 => (n (k + 1) + cs p n k) / p
theorem cs_of {p : Nat} {n : Nat → Nat} {held ch : List Nat} (hp : 0 < p) (I : ChI p n held ch []) : ∀ k, ch.count k = cs p n k ∧ held.count (k + 1) = (n (k + 1) + cs p n k) % p
  | 0 => by
    have h1 := I.cnt 0
    have h2 := I.lt 1
    rw [List.count_nil, I.zero, Nat.add_zero] at h1
    refine ⟨I.zero, ?_⟩
    show held.count 1 = (n 1 + 0) % p
    rw [← h1, Nat.add_mul_mod_self_left, Nat.mod_eq_of_lt h2]
  | k + 1 => by
    obtain ⟨i1, i2⟩ := cs_of hp I k
    have h1 := I.cnt k
    have h2 := I.lt (k + 1)
    have h3 := I.cnt (k + 1)
    have h4 := I.lt (k + 1 + 1)
    rw [List.count_nil, Nat.add_zero] at h1 h3
    have e1 : ch.count (k + 1) = cs p n (k + 1) := by
      show _ = (n (k + 1) + cs p n k) / p
      rw [← i1, ← h1, Nat.add_mul_div_left _ _ hp, Nat.div_eq_of_lt h2, Nat.zero_add]
    refine ⟨e1, ?_⟩
    rw [← e1, ← h3, Nat.add_mul_mod_self_left, Nat.mod_eq_of_lt h4]
theorem len_counts (l : List Nat) : ∀ K : Nat, l.length = ((List.range K).map l.count).sum + l.countP (fun x => decide (K ≤ x))
  | 0 => by simp [List.countP_eq_length.mpr]
  | K + 1 => by
    rw [len_counts l K, List.range_succ, List.map_append, List.sum_append]
    have : l.countP (fun x => decide (K ≤ x)) = l.count K + l.countP (fun x => decide (K + 1 ≤ x)) := by
      induction l with
      | nil => rfl
      | cons x r ih =>
        rw [List.countP_cons, List.countP_cons, List.count_cons, ih]
        by_cases h : x = K
        · subst h; simp [show ¬ x + 1 ≤ x from by omega]; omega
        · by_cases h2 : K + 1 ≤ x
          · simp [h, h2, show K ≤ x from by omega]; omega
          · simp [h, show ¬ K + 1 ≤ x from h2, show ¬ K ≤ x from by omega]
    rw [this]
    simp
    omega
theorem cs_zero {p : Nat} {n : Nat → Nat} {K : Nat} (h0 : cs p n K = 0) (hn : ∀ k, K < k → n k = 0) : ∀ j, cs p n (K + j) = 0
  | 0 => h0
  | j + 1 => by
    show (n (K + j + 1) + cs p n (K + j)) / p = 0
    rw [hn _ (by omega), cs_zero h0 hn j]
    exact Nat.zero_div _
theorem ch_len {p : Nat} {n : Nat → Nat} {held ch : List Nat} {K : Nat} (hp : 0 < p) (I : ChI p n held ch []) (h0 : cs p n K = 0) (hn : ∀ k, K < k → n k = 0) : ch.length = ((List.range K).map (cs p n)).sum := by
  rw [len_counts ch K, show (List.range K).map ch.count = (List.range K).map (cs p n) from List.map_congr_left fun k _ => (cs_of hp I k).1]
  have : ch.countP (fun x => decide (K ≤ x)) = 0 := by
    rw [List.countP_eq_zero]
    intro x hx
    simp only [decide_eq_true_eq]
    intro hk
    have h1 := (cs_of hp I x).1
    obtain ⟨j, rfl⟩ := Nat.exists_eq_add_of_le hk
    rw [cs_zero h0 hn j] at h1
    exact absurd hx (List.count_eq_zero.mp h1)
  omega
open LCg
section
variable {prog : Program} {w : World} {A : Around} {s : Shared} {h₀ : Heap} {L : Addr} {m : Str → Option Value} {env : Env} {elt ct : Expr} {x : Str} {scope : Scope} {cl : List (Str × Addr)} {S : List (Addr × Obj) → Prop} {P : Nat → Value → Prop} {Fin : List Value → List (Addr × Obj) → Prop}
/-- a comprehension by what holds between its turns -/
theorem rest_of (n : Nat) (J : Nat → List Value → List (Addr × Obj) → Prop)
    (turn : ∀ i ys news v I oI C oC D m₂ h tk (E' : Value → Shared → Prop), i < n → J i ys news → P i v → NsObj oC m₂ → m₂ x = some v → Fr h₀ L h m → News h₀ L h ((I, oI) :: (C, oC) :: (D, lst ys) :: news) → Off3 I C D news → ((@Ne Nat I C) ∧ (@Ne Nat I D) ∧ (@Ne Nat C D)) →
      wpAny (model prog w) A (eval elt (compEnvC scope cl C env)) (CompEnd h₀ L m { s with heap := h, toks := tk } I oI C oC D (lst ys) S (fun y news' => J (i + 1) (ys ++ [y]) news')) E' { s with heap := h, toks := tk })
    (done : ∀ ys news, J n ys news → Fin ys news) : ∀ k i ys news, i + k = n → J i ys news → CompRest prog w A h₀ L m env elt x scope cl s S P Fin k i ys news := by
  intro k
  induction k with
  | zero => intro i ys news hi hJ; have : i = n := by omega
            subst this; exact CompRest.zero (done _ _ hJ)
  | succ k ih =>
    intro i ys news hi hJ
    refine CompRest.succ fun v I oI C oC D m₂ h tk E' hP hns hx F N o3 ne => ?_
    refine wpAny_mono (turn i ys news v I oI C oC D m₂ h tk E' (by omega) hJ hP hns hx F N o3 ne) (fun y s₂ z => ?_) fun _ _ e => e
    obtain ⟨h', tk', news', e1, e2, e3, e4, e5, e6⟩ := z
    exact ⟨h', tk', news', e1, e2, e3, e4, e5, ih (i + 1) _ _ (by omega) e6⟩
end
open LCg
section
variable {prog : Program} {w : World} {A : Around} {s : Shared} {h₀ : Heap} {L : Addr} {m : Str → Option Value} {env : Env} {elt ct : Expr} {x : Str} {scope : Scope} {cl : List (Str × Addr)} {S : List (Addr × Obj) → Prop} {P : Nat → Value → Prop} {Fin : List Value → List (Addr × Obj) → Prop}
open LCt in
/-- the same with a test -/
theorem restT_of (n : Nat) (J : Nat → List Value → List (Addr × Obj) → Prop)
    (turn : ∀ i ys news v I oI C oC D m₂ h tk (E' : Value → Shared → Prop), i < n → J i ys news → P i v → NsObj oC m₂ → m₂ x = some v → Fr h₀ L h m → News h₀ L h ((I, oI) :: (C, oC) :: (D, lst ys) :: news) → Off3 I C D news → ((@Ne Nat I C) ∧ (@Ne Nat I D) ∧ (@Ne Nat C D)) →
      wpAny (model prog w) A (isTrue ct (compEnvC scope cl C env) (eval ct (compEnvC scope cl C env))) (fun ok s' => if ok = true then
        wpAny (model prog w) A (eval elt (compEnvC scope cl C env)) (CompEnd h₀ L m { s with heap := h, toks := tk } I oI C oC D (lst ys) S (fun y news' => J (i + 1) (ys ++ [y]) news')) E' s'
        else CompEnd h₀ L m { s with heap := h, toks := tk } I oI C oC D (lst ys) S (fun _ news' => J (i + 1) ys news') Value.none s') E' { s with heap := h, toks := tk })
    (done : ∀ ys news, J n ys news → Fin ys news) : ∀ k i ys news, i + k = n → J i ys news → CompRestT prog w A h₀ L m env ct elt x scope cl s S P Fin k i ys news := by
  intro k
  induction k with
  | zero => intro i ys news hi hJ; have : i = n := by omega
            subst this; exact CompRestT.zero (done _ _ hJ)
  | succ k ih =>
    intro i ys news hi hJ
    refine CompRestT.succ fun v I oI C oC D m₂ h tk E' hP hns hx F N o3 ne => ?_
    refine wpAny_mono (turn i ys news v I oI C oC D m₂ h tk E' (by omega) hJ hP hns hx F N o3 ne) (fun ok s₂ z => ?_) fun _ _ e => e
    cases ok with
    | true =>
      refine wpAny_mono z (fun y s₃ z => ?_) fun _ _ e => e
      obtain ⟨h', tk', news', e1, e2, e3, e4, e5, e6⟩ := z
      exact ⟨h', tk', news', e1, e2, e3, e4, e5, ih (i + 1) _ _ (by omega) e6⟩
    | false =>
      obtain ⟨h', tk', news', e1, e2, e3, e4, e5, e6⟩ := z
      exact ⟨h', tk', news', e1, e2, e3, e4, e5, ih (i + 1) _ _ (by omega) e6⟩
end
/-- the locals of _law_changed -/
noncomputable def chm (x P : Addr) (p : Nat) (tp : Tok) (hv cv : Option Value) : Str → Option Value :=
  fun y => if y = "held" then hv else if y = "changed" then cv else if y = "machine" then some (.ref x) else if y = "words" then some (.ref P) else if y = "prime" then some (.int (p : Int) tp) else none
/-- between two pushes -/
noncomputable def ChJ (w : World) (a : LexA) (RO : Nat → List (Addr × Obj) → Prop) (lin : Int) (p : Nat) (P : Addr) (oP : Obj) (pr : Nat) (tp : Tok) (us : List Str) (i : Nat) (m : Str → Option Value) (nw : List (Addr × Obj)) : Prop :=
  ∃ blk, MachSt w a RO lin "\n\t\r " (us.take i) p blk ∧ nw = (P, oP) :: blk ∧ ∀ y, m y = chm a.x P pr tp none none y
/-- between two words -/
noncomputable def ChW (text : Str) (p0 pr : Nat) (fin : List Nat × List Nat × List Nat) (f n : Nat) (hs cs : List Nat) (wd : Str) (ws : List Str) (p2 : Nat) : Prop :=
  (∃ q qd, chg pr n hs cs (q :: qd) = fin ∧ wd = blank q ∧ ws = qd.map blank ∧ p2 = p0 ∧ (∀ z ∈ q :: qd, 1 ≤ z ∧ z + n ≤ 150) ∧ qd.length ≤ 100 ∧ hs.length + n ≤ f ∧ cs.length + n ≤ f) ∨
  (fin = (hs, cs, []) ∧ wd = Tx [] ∧ ws = [] ∧ p2 ≤ text.length ∧ codes text p2 = [])
noncomputable def ChJ2 (w : World) (a : LexA) (text : Str) (adr : List Addr) (RO : Nat → List (Addr × Obj) → Prop) (c : Int) (p0 : Nat) (P K C : Addr) (oP : Obj) (pr : Nat) (tp : Tok) (fin : List Nat × List Nat × List Nat) (f n : Nat) (m : Str → Option Value) (nw : List (Addr × Obj)) : Prop :=
  ∃ hs cs hv cv H kH kC wd tw ws p2 blk oK, ChW text p0 pr fin f n hs cs wd ws p2 ∧ StrsAre hv (hs.map blank) ∧ StrsAre cv (cs.map blank) ∧ MachSt w a RO (c + nlTo text p2) "\n\t\r " ws p2 blk ∧ oK.data = .cell (some (.str wd tw)) ∧
    (H ≠ K ∧ H ≠ C ∧ H ≠ P ∧ H ∉ a.adrs ++ adr) ∧ (∀ q ∈ [(K, oK), (H, listOf (List.toArray hv) kH), (C, listOf (List.toArray cv) kC), (P, oP)] ++ blk, q ∈ nw) ∧ ∀ y, m y = chm a.x P pr tp (some (.ref H)) (some (.ref C)) y
theorem count_blanks (q : Nat) : ∀ l : List Nat, PySem.Spec.countIn (.str (blank q)) ((l.map blank).map PyData.str) = ((l.count q : Nat) : Int)
  | [] => rfl
  | x :: r => by
    rw [List.map_cons, List.map_cons, PySem.Spec.countIn, count_blanks q r, List.count_cons]
    by_cases h : x = q
    · subst h
      simp [PySem.Spec.same]
      omega
    · have h2 : ¬ blank x = blank q := fun e => h (blank_inj e)
      have h3 : ¬ blank q = blank x := fun e => h (blank_inj e).symm
      simp [PySem.Spec.same, h, h2, h3]
theorem chg_nil (p f : Nat) (h c : List Nat) : chg p f h c [] = (h, c, []) := by cases f <;> rfl
theorem blank_ne {q : Nat} (h : 1 ≤ q) : ((blank q).cps.toList != (Str.ofString "").cps.toList) = true := by
  rw [Tx_cps, lit_e, Tx_cps]
  obtain ⟨k, rfl⟩ : ∃ k, q = k + 1 := ⟨q - 1, by omega⟩
  rfl
/-- behind the if -/
noncomputable def ChMid (w : World) (a : LexA) (text : Str) (adr : List Addr) (RO : Nat → List (Addr × Obj) → Prop) (c : Int) (p0 : Nat) (P K C : Addr) (oP : Obj) (pr : Nat) (tp : Tok) (fin : List Nat × List Nat × List Nat) (f n : Nat) (g : Heap) (L : Addr) (s : Shared) (fl : Flow) (s' : Shared) : Prop :=
  fl = .next ∧ ∃ h tk hs cs hv cv H kH kC wd tw qd blk oK, s' = { s with heap := h, toks := tk } ∧ chg pr n hs cs qd = fin ∧ (∀ z ∈ qd, 1 ≤ z ∧ z + n ≤ 150) ∧ qd.length ≤ 101 ∧ hs.length + n ≤ f ∧ cs.length + n ≤ f ∧ StrsAre hv (hs.map blank) ∧ StrsAre cv (cs.map blank) ∧
    MachSt w a RO (c + nlTo text p0) "\n\t\r " (qd.map blank) p0 blk ∧ oK.data = .cell (some (.str wd tw)) ∧ (H ≠ K ∧ H ≠ C ∧ H ≠ P ∧ H ∉ a.adrs ++ adr) ∧ Fr g L h (chm a.x P pr tp (some (.ref H)) (some (.ref C))) ∧
    News g L h ([(K, oK), (H, listOf (List.toArray hv) kH), (C, listOf (List.toArray cv) kC), (P, oP)] ++ blk)
section
variable {w : World} {dp un : Nat} {gd : Option (List Code)} {env : Env} {outer : List Env} {A₀ : Around} {base h₀ : Heap} {L : Addr} {m : Str → Option Value} {tp : Program} {tl : List Str} {mean : ExcName → Option Value} {mg mb : Str → Option Value} {s : Shared} {Q E : Value → Shared → Prop}
  {a : LexA} {text : Str} {adr : List Addr} {RO : Nat → List (Addr × Obj) → Prop} {p : Nat} {aa blk : List (Addr × Obj)}
/-- the next word out of those that wait, or the empty one -/
theorem mach_getq (Rd : Reader w a.rd text adr RO) (O : a.Ok adr) {c : Int} {qs : List Nat} (M : MachSt w a RO (c + nlTo text p) "\n\t\r " (qs.map blank) p blk) (off : ∀ q ∈ aa, q.1 ∉ a.adrs ++ adr) (hp : p ≤ text.length) (hlen : text.length < 100000) (hq : qs.length < 10000) (hcod : codes text p = [])
    (B : Below A₀ base outer h₀) (F : Fr h₀ L s.heap m) (X : (hd.heap_1 w.params).In h₀) (N : News h₀ L s.heap (aa ++ blk)) (T : Top tp tl mean mg mb h₀) (hf : env.frame = some L) (hke : env.scope.kind = .function)
    (hd : dp + 25 < recursionLimit) (hu : un + 250 < cLine)
    (ret : ∀ wd t ws p' blk' h' tk', ((∃ q r, qs = q :: r ∧ wd = blank q ∧ ws = r.map blank ∧ p' = p) ∨ (qs = [] ∧ wd = Tx [] ∧ ws = [] ∧ p' ≤ text.length ∧ codes text p' = [])) → Fr h₀ L h' m → News h₀ L h' (aa ++ blk') → MachSt w a RO (c + nlTo text p') "\n\t\r " ws p' blk' →
      Q (.str wd t) { s with heap := h', toks := tk' }) :
    wpAny (model Challenge.rw_pe0259_02.row.prog w) (Ar dp un gd (env :: outer)) (call (.ref 91) [.ref a.x]) Q E s := by
  rcases qs with _ | ⟨q, r⟩
  · refine mach_get0 Rd O M off hp hlen B F X N T hf hke hd hu ?_
    intro t p' blk' h' tk' hp' hc' F' N' M'
    rw [hcod, lex_nil] at hc' ⊢
    exact ret _ t [] p' blk' h' tk' (.inr ⟨rfl, rfl, rfl, hp', hc'⟩) F' N' M'
  · refine mach_get1 Rd O M off (by rw [List.length_map]; exact Nat.lt_of_succ_lt hq) B F X N T hf hke (by omega) (by omega) ?_
    intro t blk' h' tk' F' N' M'
    exact ret _ t _ p blk' h' tk' (.inl ⟨q, r, rfl, rfl, rfl, rfl⟩) F' N' M'
end
theorem changed_c (w : World) (a : LexA) (text : Str) (adr : List Addr) (RO : Nat → List (Addr × Obj) → Prop) (Rd : Reader w a.rd text adr RO) (O : a.Ok adr)
    (c : Int) (p : Nat) (blk : List (Addr × Obj)) (M : MachSt w a RO (c + nlTo text p) "\n\t\r " [] p blk) (hp : p ≤ text.length) (htl : text.length < 2000) (hcod : codes text p = [])
    (P : Addr) (its : List Value) (k pr : Nat) (tq : Tok) (hP : P ∉ a.adrs ++ adr) (ws : List Nat) (hi : StrsAre its (ws.map blank)) (hw : ∀ z ∈ ws, 1 ≤ z ∧ z ≤ 30) (hl : ws.length ≤ 40) (hpr : 2 ≤ pr ∧ pr < 100) (fin : List Nat × List Nat × List Nat) (f : Nat) (hf : f ≤ 100) (hend : chg pr f [] [] ws = fin) (hfin : fin.2.2 = []) :
    Con w 40 600 188 [.ref a.x, .ref P, .int (pr : Int) tq] ((P, listOf its.toArray k) :: blk) (fun _ v blk' => ∃ T H C hv cv kH kC blk2 p', v = .ref T ∧ StrsAre hv (fin.1.map blank) ∧ StrsAre cv (fin.2.1.map blank) ∧ p' ≤ text.length ∧ codes text p' = [] ∧ MachSt w a RO (c + nlTo text p') "\n\t\r " [] p' blk2 ∧
      (T ∉ a.adrs ++ adr ∧ H ∉ a.adrs ++ adr ∧ C ∉ a.adrs ++ adr) ∧ (T ≠ H ∧ T ≠ C ∧ T ≠ P ∧ H ≠ C ∧ H ≠ P ∧ C ≠ P) ∧
      blk' = (T, { cls := .type "tuple", data := .seq #[.ref H, .ref C] }) :: (H, listOf (List.toArray hv) kH) :: (C, listOf (List.toArray cv) kC) :: (P, listOf its.toArray k) :: blk2) := by
  obtain ⟨lt, tw, k0, l, its0, hl0, hi0, rfl⟩ := id M
  unfold Con
  k_fill
  intro dp un gd outer base g tp tl mean mg mb s R B hg hsz hsel X T hd hu ret
  refine' enter_gc hg hsz hsel X T ?k6 ?k7 ?k8 ?k9 ?kB ?kD ?_ ?c2 ?c3 ?c4
  (case k6 => k_is); (case k7 => k_is); (case k8 => ktr_room); (case k9 => exact BindsTo.of_eq rfl); (case kB => exact rfl); (case kD => decide +kernel); (case c2 => exact rfl); (case c3 => exact rfl); (case c4 => exact rfl)
  k_whole
  intro L' h' tk' cells' F' N' Y' l1
  (try k_lt l1); k_cells Y'; (try simp only [lexObjs, List.cons_append, List.nil_append] at N')
  rename (Obj.data _ = Data.cell _) => d1
  rename_i oK0
  have hdK : oK0.data = .cell none := d1
  clear d1
  have l0 := l1
  have F0 : Fr g L' h' (chm a.x P pr tq none none) := Fr.congr F' (fun y => by
    unfold chm
    show (if y = "prime" then (some (Value.int (pr : Int) tq) : Option Value) else if y = "words" then some (Value.ref P) else if y = "machine" then some (Value.ref a.x) else none) = _
    by_cases h0 : y = "prime"
    · subst h0; rfl
    · by_cases h1 : y = "words"
      · subst h1; rfl
      · by_cases h2 : y = "machine"
        · subst h2; rfl
        · simp only [if_neg h0, if_neg h1, if_neg h2, ite_self])
  clear F'
  (try dsimp only); (try k_fold)
  ((repeat' ((fail_if_success (with_reducible show wpAny _ _ (exec (Stmt.For _ _ _ _ _) _) _ _ _)); (first | (k_unfold; (try dsimp only)) | ((with_reducible first | show wpAny _ _ (exec _ _) _ _ _ | show wpAny _ _ (execs _ _) _ _ _); k_fold) | (k_end; wrow_close) | walk1 | (dsimp only; walk1) | (leave1; (try dsimp only))))) <;> (repeat (k_unfold; (try dsimp only))))
  have hPK : P ≠ L' + 1 := Nat.ne_of_lt (Nat.lt_succ_of_lt l1.1)
  have hKM : L' + 1 ∉ a.adrs ++ adr := not_adrs M Rd (fun r hr => Nat.ne_of_lt (Nat.lt_succ_of_lt (allLt_mem l1.2 r hr)))
  unfold chm at F0
  refine wpAny_For ?_
  ((repeat' ((fail_if_success (with_reducible show wpAny _ _ (pyIter _) _ _ _)); (first | (k_unfold; (try dsimp only)) | ((with_reducible first | show wpAny _ _ (exec _ _) _ _ _ | show wpAny _ _ (execs _ _) _ _ _); k_fold) | (k_end; wrow_close) | walk1 | (dsimp only; walk1) | (leave1; (try dsimp only))))) <;> (repeat (k_unfold; (try dsimp only))))
  rename Fr _ _ _ _ => F5
  rename News _ _ _ _ => N5
  have F6 : Fr g L' _ (chm a.x P pr tq none none) := F5
  refine' for_lstC (env := envOfC _ _ L' 188 _) (lo := listOf its.toArray k) (its := its.toArray) (K := L' + 1) (oK0 := oK0) (news := (P, listOf its.toArray k) :: (lexObjs w a (.int (c + nlTo text p) lt) (.str "\n\t\r " tw) its0 k0 ++ l)) rfl rfl ⟨_, rfl⟩ rfl rfl rfl F6 N5 hdK
    (ChJ w a RO (c + nlTo text p) p P (listOf its.toArray k) pr tq (ws.map blank)) ?hJ ?h0 ?turn ?done
  case hJ =>
    rintro i m nw ⟨blk, h1, rfl, h3⟩
    exact ⟨.head _, List.forall_mem_cons.mpr ⟨hPK, of_adrs h1 Rd hKM⟩⟩
  case h0 => exact ⟨_, M, rfl, fun y => rfl⟩
  case turn =>
    intro i v m₁ news₁ h6 tk6 I oI oK hv hJ hI hIK hdK2 F7 N7
    obtain ⟨blk6, M6, rfl, hm⟩ := hJ
    obtain ⟨tz, z, hz, rfl⟩ := strs_get hi (by simpa using hv)
    rw [List.getElem?_map] at hz
    obtain ⟨z, hz2, rfl⟩ := Option.map_eq_some_iff.mp hz
    replace F7 := Fr.congr F7 hm
    try clear F5 N5 F6 N' F0
    have hoff : ∀ q ∈ [(L' + 1, oK), (I, oI), (P, listOf its.toArray k)], q.1 ∉ a.adrs ++ adr := List.forall_mem_cons.mpr ⟨hKM, List.forall_mem_cons.mpr ⟨not_adrs M6 Rd (fun r hr => hI r (.tail _ hr)), List.forall_mem_cons.mpr ⟨hP, List.forall_mem_nil _⟩⟩⟩
    have N8 : News g L' h6 ([(L' + 1, oK), (I, oI), (P, listOf its.toArray k)] ++ blk6) := fun q hq => by
      rcases List.mem_cons.mp hq with rfl | hq
      · exact N7 _ (.head _)
      · rcases List.mem_cons.mp hq with rfl | hq
        · exact N7 _ (.tail _ (List.mem_append_right _ (.head _)))
        · exact N7 q (.tail _ (List.mem_append_left _ hq))
    clear N7
    obtain ⟨lt6, tw6, k6, l6, its6, hl6, hi6, rfl⟩ := id M6
    simp only [lexObjs, List.cons_append, List.nil_append] at N8
    unfold chm at F7
    (try dsimp only); (try k_fold)
    ((repeat' ((fail_if_success (with_reducible show wpAny _ _ (call (Value.ref 98) _) _ _ _)); (first | (k_unfold; (try dsimp only)) | ((with_reducible first | show wpAny _ _ (exec _ _) _ _ _ | show wpAny _ _ (execs _ _) _ _ _); k_fold) | (k_end; wrow_close) | walk1 | (dsimp only; walk1) | (leave1; (try dsimp only))))) <;> (repeat (k_unfold; (try dsimp only))))
    rename Fr _ _ _ _ => F8
    rename News _ _ _ _ => N9
    refine mach_push (aa := [(L' + 1, oK), (I, oI), (P, listOf its.toArray k)]) Rd O M6 hoff (by rw [List.length_take]; exact Nat.lt_of_le_of_lt (Nat.min_le_right _ _) (by rw [List.length_map]; omega)) B F8 X N9 T rfl rfl (by k_room) (by k_units) ?_
    intro blk9 h9 tk9 F9 N10 M9
    clear F8 N9
    (try dsimp only)
    ((repeat' ((fail_if_success (with_reducible show Left _)); (first | (k_unfold; (try dsimp only)) | ((with_reducible first | show wpAny _ _ (exec _ _) _ _ _ | show wpAny _ _ (execs _ _) _ _ _); k_fold) | (k_end; wrow_close) | walk1 | (dsimp only; walk1) | (leave1; (try dsimp only))))) <;> (repeat (k_unfold; (try dsimp only))))
    (try dsimp only)
    unfold Left
    refine ⟨_, _, _, (P, listOf its.toArray k) :: blk9, oK, rfl, F9, ⟨_, hdK2⟩, fun q hq => ?_, ?_, blk9, ?_, rfl, fun y => rfl⟩
    · rcases List.mem_cons.mp hq with rfl | hq
      · exact N10 _ (.head _)
      · rcases List.mem_append.mp hq with hq | hq
        · exact N10 q (.tail _ (.tail _ hq))
        · rw [List.mem_singleton.mp hq]; exact N10 _ (.tail _ (.head _))
    · exact List.forall_mem_cons.mpr ⟨hI _ (.head _), of_adrs M9 Rd (hoff _ (.tail _ (.head _)))⟩
    · rw [List.take_add_one, List.getElem?_map, hz2]; exact M9
  case done =>
    intro m₁ news₁ h6 tk6 oK v hJ hdK2 F7 N7
    obtain ⟨blk6, M6, rfl, hm⟩ := hJ
    replace F7 := Fr.congr F7 hm
    try clear F5 N5 F6 N' F0
    have hil : its.length = ws.length := by rw [hi.length, List.length_map]
    replace M6 : MachSt w a RO (c + nlTo text p) "\n\t\r " (ws.map blank) p blk6 := by
      rw [List.size_toArray, hil, ← List.length_map (f := blank), List.take_length] at M6; exact M6
    obtain ⟨lt6, tw6, k6, l6, its6, hl6, hi6, rfl⟩ := id M6
    simp only [lexObjs, List.cons_append, List.nil_append] at N7
    unfold chm at F7
    (try dsimp only)
    ((repeat' ((fail_if_success (with_reducible show wpAny _ _ (execs (Stmt.Assign [Expr.Name (Str.ofString "changed") _] _ _ :: _) _) _ _ _)); (first | (k_unfold; (try dsimp only)) | ((with_reducible first | show wpAny _ _ (exec _ _) _ _ _ | show wpAny _ _ (execs _ _) _ _ _); k_fold) | (k_end; wrow_close) | walk1 | (dsimp only; walk1) | (leave1; (try dsimp only))))) <;> (repeat (k_unfold; (try dsimp only))))
    rename Addr => H
    rename (_ < H ∧ _ < H ∧ _ < H ∧ _) => lH
    (try dsimp only)
    ((repeat' ((fail_if_success (with_reducible show wpAny _ _ (call (Value.ref 91) _) _ _ _)); (first | (k_unfold; (try dsimp only)) | ((with_reducible first | show wpAny _ _ (exec _ _) _ _ _ | show wpAny _ _ (execs _ _) _ _ _); k_fold) | (k_end; wrow_close) | walk1 | (dsimp only; walk1) | (leave1; (try dsimp only))))) <;> (repeat (k_unfold; (try dsimp only))))
    rename_i C _ lC _ F8 N8
    obtain ⟨g1, g2, g3, g4, g5, g6, g7, g8⟩ := lH
    obtain ⟨e0, e1, e2, e3, e4, e5, e6, e7, e8⟩ := lC
    have hHM : H ∉ a.adrs ++ adr := not_adrs M6 Rd (List.forall_mem_cons.mpr ⟨Nat.ne_of_lt g3, List.forall_mem_cons.mpr ⟨Nat.ne_of_lt g4, List.forall_mem_cons.mpr ⟨Nat.ne_of_lt g5, List.forall_mem_cons.mpr ⟨Nat.ne_of_lt g6, List.forall_mem_cons.mpr ⟨Nat.ne_of_lt g7, fun r hr => Nat.ne_of_lt (allLt_mem g8 r hr)⟩⟩⟩⟩⟩)
    have hCM : C ∉ a.adrs ++ adr := not_adrs M6 Rd (List.forall_mem_cons.mpr ⟨Nat.ne_of_lt e3, List.forall_mem_cons.mpr ⟨Nat.ne_of_lt e4, List.forall_mem_cons.mpr ⟨Nat.ne_of_lt e5, List.forall_mem_cons.mpr ⟨Nat.ne_of_lt e6, List.forall_mem_cons.mpr ⟨Nat.ne_of_lt e7, fun r hr => Nat.ne_of_lt (allLt_mem e8 r hr)⟩⟩⟩⟩⟩)
    have hHC : H ≠ C := Nat.ne_of_lt e0
    have hCK : C ≠ L' + 1 := (Nat.ne_of_lt e1).symm
    have hCP : C ≠ P := (Nat.ne_of_lt e2).symm
    have hHK : H ≠ L' + 1 := (Nat.ne_of_lt g1).symm
    have hHP : H ≠ P := (Nat.ne_of_lt g2).symm
    have N9 := cb_drop (news := [(L' + 1, oK), (H, listOf #[] 0), (C, listOf #[] 0), (P, listOf its.toArray k)] ++ (lexObjs w a (.int (c + nlTo text p) lt6) (.str "\n\t\r " tw6) its6 k6 ++ l6)) N8 (fun q hq => ?sub9)
    case sub9 =>
      rcases List.mem_append.mp hq with hq | hq
      · simp only [List.mem_cons, List.not_mem_nil, or_false] at hq
        rcases hq with rfl | rfl | rfl | rfl <;> k_mem
      · exact .tail _ (.tail _ (.tail _ (.tail _ hq)))
    refine mach_getq (aa := [(L' + 1, oK), (H, listOf #[] 0), (C, listOf #[] 0), (P, listOf its.toArray k)]) Rd O M6 (List.forall_mem_cons.mpr ⟨hKM, List.forall_mem_cons.mpr ⟨hHM, List.forall_mem_cons.mpr ⟨hCM, List.forall_mem_cons.mpr ⟨hP, List.forall_mem_nil _⟩⟩⟩⟩) hp (by omega) (by omega) hcod B F8 X N9 T rfl rfl (by k_room) (by k_units) ?_
    intro wd t10 ws10 p10 blk10 h10 tk10 hwd F10 N10 M10
    clear F8 N8 N9
    try clear F7 N7
    obtain ⟨lt7, tw7, k7, l7, its7, hl7, hi7, rfl⟩ := id M10
    simp only [lexObjs, List.cons_append, List.nil_append] at N10
    obtain ⟨j1, j2, j3, j4, j5, j6⟩ := mach_ne M10 Rd hKM
    (try dsimp only)
    ((repeat' ((fail_if_success (with_reducible show wpAny _ _ (exec (Stmt.While _ _ _ _) _) _ _ _)); (first | (k_unfold; (try dsimp only)) | ((with_reducible first | show wpAny _ _ (exec _ _) _ _ _ | show wpAny _ _ (execs _ _) _ _ _); k_fold) | (k_end; wrow_close) | walk1 | (dsimp only; walk1) | (leave1; (try dsimp only))))) <;> (repeat (k_unfold; (try dsimp only))))
    rename Obj => oK2
    rename (Obj.data oK2 = Data.cell _) => hdK3
    rename Fr _ _ _ _ => F11
    rename News _ _ _ _ => N11
    refine wpAny_While ?_
    have F12 : Fr g L' _ (chm a.x P pr tq (some (.ref H)) (some (.ref C))) := Fr.congr F11 (by (intro y; unfold chm; (rcases Classical.em (y = "held") with rfl | h0); exact rfl; (rcases Classical.em (y = "changed") with rfl | h1); exact rfl; (rcases Classical.em (y = "machine") with rfl | h2); exact rfl; (rcases Classical.em (y = "words") with rfl | h3); exact rfl; (rcases Classical.em (y = "prime") with rfl | h4); exact rfl; (try simp only [if_neg h0, if_neg h1, if_neg h2, if_neg h3, if_neg h4]); (first | done | exact rfl | (show List.lookup y (_ :: _) = none; simp only [List.lookup, beq_eq_false_iff_ne.mpr h0, beq_eq_false_iff_ne.mpr h1, beq_eq_false_iff_ne.mpr h2, beq_eq_false_iff_ne.mpr h3, beq_eq_false_iff_ne.mpr h4]) | (simp only [List.lookup, beq_eq_false_iff_ne.mpr h0, beq_eq_false_iff_ne.mpr h1, beq_eq_false_iff_ne.mpr h2, beq_eq_false_iff_ne.mpr h3, beq_eq_false_iff_ne.mpr h4]; done))))
    clear F11
    try clear F10
    try clear N10
    refine while_J (n := f) F12 N11 (ChJ2 w a text adr RO c p P (L' + 1) C (listOf its.toArray k) pr tq fin f) ?_ ?_
    · refine ⟨[], [], [], [], H, 0, 0, wd, _, ws10, p10, _, oK2, ?_, .nil, .nil, M10, hdK3, ⟨hHK, hHC, hHP, hHM⟩, fun q hq => hq, fun y => rfl⟩
      rcases hwd with ⟨q, r, rfl, rfl, rfl, rfl⟩ | ⟨rfl, rfl, rfl, h1, h2⟩
      · exact .inl ⟨q, r, hend, rfl, rfl, rfl, fun z hz => ⟨(hw z hz).1, by have := (hw z hz).2; omega⟩, by rw [List.length_cons] at hl; omega, by simp, by simp⟩
      · exact .inr ⟨by rw [← hend, chg_nil], rfl, rfl, h1, h2⟩
    clear hl0 hi0 M
    intro n m₂ news₂ h8 tk8 hJ2 F13 N13
    obtain ⟨hs, cs', hv, cv, H2, kH, kC, wd2, tw2, ws2, p2, blk2, oK3, hS, hhv, hcv, M13, hdK4, ⟨hH1, hH2, hH3, hH4⟩, hsub2, hm2⟩ := hJ2
    replace F13 := Fr.congr F13 hm2
    replace N13 := cb_drop N13 hsub2
    try clear F12
    try clear N11
    obtain ⟨lt8, tw8, k8, l8, its8, hl8, hi8, rfl⟩ := id M13
    simp only [lexObjs, List.cons_append, List.nil_append] at N13
    unfold chm at F13
    rcases hS with ⟨q, qd, hch, rfl, rfl, rfl, hz, hq1, hq2, hq3⟩ | ⟨hfe, rfl, rfl, hp2, hcod2⟩
    · obtain ⟨n2, rfl⟩ : ∃ n2, n = n2 + 1 := by
        rcases n with _ | n
        · rw [show chg pr 0 hs cs' (q :: qd) = (hs, cs', q :: qd) from rfl] at hch
          rw [← hch] at hfin; cases hfin
        · exact ⟨n, rfl⟩
      have hzq := hz q (.head _)
      have hlq : (blank q).length < 220 := (blank_len q).symm ▸ (by omega)
      obtain ⟨e1, e2, e3, e4, e5, e6⟩ := mach_ne M13 Rd hH4
      (try dsimp only); (try k_fold)
      ((repeat' ((fail_if_success (with_reducible show wpAny _ _ (compareOp CmpOp.NotEq _ _) _ _ _)); (first | (k_unfold; (try dsimp only)) | ((with_reducible first | show wpAny _ _ (exec _ _) _ _ _ | show wpAny _ _ (execs _ _) _ _ _); k_fold) | (k_end; wrow_close) | walk1 | (dsimp only; walk1) | (leave1; (try dsimp only))))) <;> (repeat (k_unfold; (try dsimp only))))
      refine PySem.P.ne_str ?_
      rw [blank_ne hzq.1]
      (try dsimp only)
      have hil : hv.length < 1100 := by have := hhv.length; rw [List.length_map] at this; omega
      ((repeat' ((fail_if_success (with_reducible show wpAny _ _ (exec (Stmt.If _ _ _ _) _) _ _ _)); (first | (k_unfold; (try dsimp only)) | ((with_reducible first | show wpAny _ _ (exec _ _) _ _ _ | show wpAny _ _ (execs _ _) _ _ _); k_fold) | (k_end; wrow_close) | walk1 | (dsimp only; walk1) | (leave1; (try dsimp only))))) <;> (repeat (k_unfold; (try dsimp only))))
      rename Fr _ _ _ _ => F14
      rename News _ _ _ _ => N14
      have hhv2 : StrsAre (hv ++ [Value.str (blank q) tw2]) ((hs ++ [q]).map blank) := by rw [List.map_append]; exact kct_snoc hhv
      rw [List.push_toArray] at N14
      try clear F13
      try clear N13
      refine wpAny_mono (Q := ChMid w a text adr RO c p2 P (L' + 1) C (listOf its.toArray k) pr tq fin f n2 g L' s) ?_ ?_ (fun _ _ e => e)
      · ((repeat' ((fail_if_success (with_reducible show wpAny _ _ (call (Value.builtin "list.count") _) _ _ _)); (first | (k_unfold; (try dsimp only)) | ((with_reducible first | show wpAny _ _ (exec _ _) _ _ _ | show wpAny _ _ (execs _ _) _ _ _); k_fold) | (k_end; wrow_close) | walk1 | (dsimp only; walk1) | (leave1; (try dsimp only))))) <;> (repeat (k_unfold; (try dsimp only))))
        rename Fr _ _ _ _ => F15
        rename News _ _ _ _ => N15
        refine count_list_strs (News.isList N15 (.tail _ (.head _))) hhv2 ?_
        rw [count_blanks]
        (try dsimp only)
        ((repeat' ((fail_if_success (with_reducible show wpAny _ _ (exec (Stmt.Assign _ (Expr.ListComp _ _ _ _) _) _) _ _ _)); (fail_if_success (with_reducible show ChMid _ _ _ _ _ _ _ _ _ _ _ _ _ _ _ _ _ _ _ _ _)); (first | (k_unfold; (try dsimp only)) | ((with_reducible first | show wpAny _ _ (exec _ _) _ _ _ | show wpAny _ _ (execs _ _) _ _ _); k_fold) | (k_end; wrow_close) | walk1 | (dsimp only; walk1) | (leave1; (try dsimp only))))) <;> (repeat (k_unfold; (try dsimp only))))
        · rename _ = _ => hcq
          have hcq2 : (hs ++ [q]).count q = pr := by exact_mod_cast hcq
          rename Fr _ _ _ _ => F16
          rename News _ _ _ _ => N16
          rw [chg, if_pos hcq2] at hch
          have hsl : (hv ++ [Value.str (blank q) tw2]).length = (hs ++ [q]).length := by rw [hhv2.length, List.length_map]
          have hsl2 : (hs ++ [q]).length ≤ 200 := by rw [List.length_append, List.length_singleton]; omega
          refine LCt.Assign_ListComp_T (F₀ := F16) (by rfl) (by with_unfolding_all rfl) (by with_unfolding_all rfl) (by decide) (by rfl) (by decide) (by rfl) (by rfl) (by rfl) ?_
          ((repeat' ((fail_if_success (with_reducible show LCt.CompSrcT _ _ _ _ _ _ _ _ _ _ _ _ _ _ _)); (first | (k_unfold; (try dsimp only)) | ((with_reducible first | show wpAny _ _ (exec _ _) _ _ _ | show wpAny _ _ (execs _ _) _ _ _); k_fold) | (k_end; wrow_close) | walk1 | (dsimp only; walk1) | (leave1; (try dsimp only))))) <;> (repeat (k_unfold; (try dsimp only))))
          rename Fr _ _ _ _ => F17
          rename News _ _ _ _ => N17
          obtain ⟨NW, hNW⟩ : ∃ NW, NW = [(L' + 1, oK3), (H2, listOf (hv ++ [Value.str (blank q) tw2]).toArray (kH + 1)), (C, listOf (List.toArray cv) kC), (P, listOf its.toArray k)] ++ (lexObjs w a (.int (c + nlTo text p2) lt8) (.str "\n\t\r " tw8) its8 k8 ++ l8) := ⟨_, rfl⟩
          refine LCt.CompSrcT.ledger (k := kH + 1) (its := (hv ++ [Value.str (blank q) tw2]).toArray) (news := NW) rfl F17 (by rw [hNW]; exact N17) (by rw [hNW]; exact .tail _ (.head _)) (by rw [List.size_toArray, hsl]; exact size_n (Nat.le_trans hsl2 (by decide))) (fun g' => ?_)
          refine restT_of (hv ++ [Value.str (blank q) tw2]).toArray.size (fun i ys news => StrsAre ys ((((hs ++ [q]).take i).filter fun x => decide (x ≠ q)).map blank) ∧ news = NW) ?_ ?_ _ 0 [] _ (Nat.zero_add _) ⟨.nil, rfl⟩
          · rintro i ys news v I oI C2 oC D m₃ h9 tk9 E' hi2 ⟨hys, rfl⟩ hvi hns hx F21 N21 o3' ne
            obtain ⟨tz, z, hzx, rfl⟩ := strs_get hhv2 (by simpa using hvi)
            rw [List.getElem?_map] at hzx
            obtain ⟨z, hz2, rfl⟩ := Option.map_eq_some_iff.mp hzx
            subst hNW
            clear F17 N17
            try clear F16
            try clear N16
            try clear F15
            try clear N15
            simp only [lexObjs, List.cons_append, List.nil_append] at N21
            (try dsimp only); (try k_fold)
            ((repeat' ((fail_if_success (with_reducible show wpAny _ _ (compareOp _ _ _) _ _ _)); (first | (k_unfold; (try dsimp only)) | ((with_reducible first | show wpAny _ _ (exec _ _) _ _ _ | show wpAny _ _ (execs _ _) _ _ _); k_fold) | (k_end; wrow_close) | walk1 | (dsimp only; walk1) | (leave1; (try dsimp only))))) <;> (repeat (k_unfold; (try dsimp only))))
            refine PySem.P.ne_str ?_
            rw [show ((blank z).cps.toList != (blank q).cps.toList) = decide (z ≠ q) from by
              rw [Tx_cps, Tx_cps]
              by_cases e : z = q
              · subst e; simp
              · have : ¬ List.replicate z 32 = List.replicate q 32 := fun e2 => e (by simpa using congrArg List.length e2)
                simp [e, this]]
            (try dsimp only)
            have htk : (hs ++ [q]).take (i + 1) = (hs ++ [q]).take i ++ [z] := by rw [List.take_add_one, hz2]; rfl
            by_cases ez : z = q
            · rw [decide_eq_false (fun e => e ez)]
              ((repeat' ((fail_if_success (with_reducible show LCg.CompEnd _ _ _ _ _ _ _ _ _ _ _ _ _ _)); (first | (k_unfold; (try dsimp only)) | ((with_reducible first | show wpAny _ _ (exec _ _) _ _ _ | show wpAny _ _ (execs _ _) _ _ _); k_fold) | (k_end; wrow_close) | walk1 | (dsimp only; walk1) | (leave1; (try dsimp only))))) <;> (repeat (k_unfold; (try dsimp only))))
              rename Fr _ _ _ _ => F22
              rename News _ _ _ _ => N22
              refine LCg.CompEnd.intro F22 N22 _ (fun q hq => hq) o3' (.inr ⟨_, .tail _ (.head _), rfl, _, rfl⟩) ⟨?_, rfl⟩
              rw [htk, List.filter_append, List.filter_cons_of_neg (by simpa using ez), List.filter_nil, List.append_nil]
              exact hys
            · rw [decide_eq_true ez]
              ((repeat' ((fail_if_success (with_reducible show LCg.CompEnd _ _ _ _ _ _ _ _ _ _ _ _ _ _)); (first | (k_unfold; (try dsimp only)) | ((with_reducible first | show wpAny _ _ (exec _ _) _ _ _ | show wpAny _ _ (execs _ _) _ _ _); k_fold) | (k_end; wrow_close) | walk1 | (dsimp only; walk1) | (leave1; (try dsimp only))))) <;> (repeat (k_unfold; (try dsimp only))))
              rename Fr _ _ _ _ => F22
              rename News _ _ _ _ => N22
              refine LCg.CompEnd.intro F22 N22 _ (fun q hq => hq) o3' (.inr ⟨_, .tail _ (.head _), rfl, _, rfl⟩) ⟨?_, rfl⟩
              rw [htk, List.filter_append, List.filter_cons_of_pos (by simpa using ez), List.filter_nil, List.map_append]
              exact kct_snoc hys
          · rintro ys news ⟨hys, rfl⟩ D h9 tk9 F21 N21 oD
            have om := Off1_mem oD
            subst hNW
            rw [List.size_toArray, hsl, List.take_length] at hys
            clear F17 N17
            try clear F16
            try clear N16
            try clear F15
            try clear N15
            have N22 : News g L' h9 ([(L' + 1, oK3), (D, LCg.lst ys), (C, listOf (List.toArray cv) kC), (P, listOf its.toArray k)] ++ (lexObjs w a (.int (c + nlTo text p2) lt8) (.str "\n\t\r " tw8) its8 k8 ++ l8)) := fun q hq => by
              rcases List.mem_cons.mp hq with rfl | hq
              · exact N21 _ (.tail _ (.head _))
              · rcases List.mem_cons.mp hq with rfl | hq
                · exact N21 _ (.head _)
                · exact N21 q (.tail _ (.tail _ (.tail _ hq)))
            clear N21
            have hDC : D ≠ C := (om (C, listOf (List.toArray cv) kC) (.tail _ (.tail _ (.head _)))).symm
            have hDK : D ≠ L' + 1 := (om (L' + 1, oK3) (.head _)).symm
            have hDP : D ≠ P := (om (P, listOf its.toArray k) (.tail _ (.tail _ (.tail _ (.head _))))).symm
            have hDM : D ∉ a.adrs ++ adr := not_adrs M13 Rd (fun r hr => om r (.tail _ (.tail _ (.tail _ (.tail _ hr)))))
            obtain ⟨u1, u2, u3, u4, u5, u6⟩ := mach_ne M13 Rd hCM
            simp only [lexObjs, List.cons_append, List.nil_append] at N22
            have hcl : cv.length < 1100 := by have := hcv.length; rw [List.length_map] at this; omega
            (try dsimp only); (try k_fold)
            ((repeat' ((fail_if_success (with_reducible show wpAny _ _ (call (Value.ref 98) _) _ _ _)); (first | ((with_reducible show wpAny _ _ (binaryOp Operator.Add (Value.str _ _) (Value.str _ _)) _ _ _); refine add_Tx lit_s (by rw [List.length_replicate]; simp only [List.length_cons, List.length_nil]; omega) ?_; intro _ _) | (k_unfold; (try dsimp only)) | ((with_reducible first | show wpAny _ _ (exec _ _) _ _ _ | show wpAny _ _ (execs _ _) _ _ _); k_fold) | (k_end; wrow_close) | walk1 | (dsimp only; walk1) | (leave1; (try dsimp only))))) <;> (repeat (k_unfold; (try dsimp only))))
            rename Fr _ _ _ _ => F24
            rename News _ _ _ _ => N24
            rw [List.push_toArray] at N24
            rw [show List.replicate q 32 ++ [32] = List.replicate (q + 1) 32 from by rw [List.replicate_succ']]
            have hcv2 : StrsAre (cv ++ [Value.str (blank q) tw2]) ((cs' ++ [q]).map blank) := by rw [List.map_append]; exact kct_snoc hcv
            refine mach_push (aa := [(L' + 1, oK3), (D, LCg.lst ys), (C, listOf (List.toArray (cv ++ [Value.str (blank q) tw2])) (kC + 1)), (P, listOf its.toArray k)]) Rd O M13 (List.forall_mem_cons.mpr ⟨hKM, List.forall_mem_cons.mpr ⟨hDM, List.forall_mem_cons.mpr ⟨hCM, List.forall_mem_cons.mpr ⟨hP, List.forall_mem_nil _⟩⟩⟩⟩) (by rw [List.length_map]; omega) B F24 X N24 T rfl rfl (by k_room) (by k_units) ?_
            intro blk26 h26 tk26 F26 N26 M26
            clear F24 N24
            (try dsimp only)
            ((repeat' ((fail_if_success (with_reducible show ChMid _ _ _ _ _ _ _ _ _ _ _ _ _ _ _ _ _ _ _ _ _)); (first | (k_unfold; (try dsimp only)) | ((with_reducible first | show wpAny _ _ (exec _ _) _ _ _ | show wpAny _ _ (execs _ _) _ _ _); k_fold) | (k_end; wrow_close) | walk1 | (dsimp only; walk1) | (leave1; (try dsimp only))))) <;> (repeat (k_unfold; (try dsimp only))))
            refine ⟨rfl, _, _, _, cs' ++ [q], ys, cv ++ [Value.str (blank q) tw2], D, _, _, blank q, tw2, qd ++ [q + 1], _, oK3, rfl, hch, fun z hz2 => ?_, by rw [List.length_append, List.length_singleton]; omega, ?_, by rw [List.length_append, List.length_singleton]; omega, hys, hcv2, by rw [List.map_append]; exact M26, hdK4, ⟨hDK, hDC, hDP, hDM⟩, Fr.congr F26 (by (intro y; unfold chm; (rcases Classical.em (y = "held") with rfl | h0); exact rfl; (rcases Classical.em (y = "changed") with rfl | h1); exact rfl; (rcases Classical.em (y = "machine") with rfl | h2); exact rfl; (rcases Classical.em (y = "words") with rfl | h3); exact rfl; (rcases Classical.em (y = "prime") with rfl | h4); exact rfl; (try simp only [if_neg h0, if_neg h1, if_neg h2, if_neg h3, if_neg h4]); (first | done | exact rfl | (show List.lookup y (_ :: _) = none; simp only [List.lookup, beq_eq_false_iff_ne.mpr h0, beq_eq_false_iff_ne.mpr h1, beq_eq_false_iff_ne.mpr h2, beq_eq_false_iff_ne.mpr h3, beq_eq_false_iff_ne.mpr h4]) | (simp only [List.lookup, beq_eq_false_iff_ne.mpr h0, beq_eq_false_iff_ne.mpr h1, beq_eq_false_iff_ne.mpr h2, beq_eq_false_iff_ne.mpr h3, beq_eq_false_iff_ne.mpr h4]; done)))), N26⟩
            · rcases List.mem_append.mp hz2 with hz2 | hz2
              · exact ⟨(hz z (.tail _ hz2)).1, by have := (hz z (.tail _ hz2)).2; omega⟩
              · rw [List.mem_singleton.mp hz2]; omega
            · have := List.length_filter_le (fun x => decide (x ≠ q)) (hs ++ [q])
              rw [List.length_append, List.length_singleton] at this
              omega
        · rename _ ≠ _ => hcq
          rename Fr _ _ _ _ => F16
          rename News _ _ _ _ => N16
          have hcq2 : ¬ (hs ++ [q]).count q = pr := fun e => hcq (by rw [e])
          rw [chg, if_neg hcq2] at hch
          exact ⟨rfl, _, _, hs ++ [q], cs', hv ++ [Value.str (blank q) tw2], cv, H2, _, kC, blank q, tw2, qd, _, oK3, rfl, hch, fun z hz2 => ⟨(hz z (.tail _ hz2)).1, by have := (hz z (.tail _ hz2)).2; omega⟩, by omega, by rw [List.length_append, List.length_singleton]; omega, by omega, hhv2, hcv, M13, hdK4, ⟨hH1, hH2, hH3, hH4⟩, F16, N16⟩
      · rintro fl s' ⟨rfl, h30, tk30, hs3, cs3, hv3, cv3, H3, kH3, kC3, wd3, tw3, qd3, blk3, oK5, rfl, hch3, hz3, hq33, hh3, hc3, hhv3, hcv3, M30, hdK5, ⟨hL1, hL2, hL3, hL4⟩, F30, N30⟩
        try clear F14
        try clear N14
        clear M13 hdK4
        obtain ⟨lt9, tw9, k9, l9, its9, hl9, hi9, rfl⟩ := id M30
        simp only [lexObjs, List.cons_append, List.nil_append] at N30
        unfold chm at F30
        (try dsimp only)
        ((repeat' ((fail_if_success (with_reducible show wpAny _ _ (call (Value.ref 91) _) _ _ _)); (first | (k_unfold; (try dsimp only)) | ((with_reducible first | show wpAny _ _ (exec _ _) _ _ _ | show wpAny _ _ (execs _ _) _ _ _); k_fold) | (k_end; wrow_close) | walk1 | (dsimp only; walk1) | (leave1; (try dsimp only))))) <;> (repeat (k_unfold; (try dsimp only))))
        rename Fr _ _ _ _ => F31
        rename News _ _ _ _ => N31
        refine mach_getq (aa := [(L' + 1, oK5), (H3, listOf (List.toArray hv3) kH3), (C, listOf (List.toArray cv3) kC3), (P, listOf its.toArray k)]) Rd O M30 (List.forall_mem_cons.mpr ⟨hKM, List.forall_mem_cons.mpr ⟨hL4, List.forall_mem_cons.mpr ⟨hCM, List.forall_mem_cons.mpr ⟨hP, List.forall_mem_nil _⟩⟩⟩⟩) hp (by omega) (by omega) hcod B F31 X N31 T rfl rfl (by k_room) (by k_units) ?_
        intro wd4 t40 ws40 p40 blk40 h40 tk40 hwd4 F40 N40 M40
        clear F31 N31
        try clear F30
        try clear N30
        obtain ⟨ltA, twA, kA, lA, itsA, hlA, hiA, rfl⟩ := id M40
        simp only [lexObjs, List.cons_append, List.nil_append] at N40
        obtain ⟨j1, j2, j3, j4, j5, j6⟩ := mach_ne M40 Rd hKM
        (try dsimp only)
        ((repeat' ((fail_if_success (with_reducible show Left _)); (first | (k_unfold; (try dsimp only)) | ((with_reducible first | show wpAny _ _ (exec _ _) _ _ _ | show wpAny _ _ (execs _ _) _ _ _); k_fold) | (k_end; wrow_close) | walk1 | (dsimp only; walk1) | (leave1; (try dsimp only))))) <;> (repeat (k_unfold; (try dsimp only))))
        (try dsimp only)
        unfold Left
        rename Obj => oK6
        rename (Obj.data oK6 = Data.cell _) => hdK6
        rename Fr _ _ _ _ => F41
        rename News _ _ _ _ => N41
        refine ⟨n2, _, _, _, _, Nat.lt_succ_self _, rfl, F41, N41, hs3, cs3, hv3, cv3, H3, kH3, kC3, wd4, t40, ws40, p40, _, oK6, ?_, hhv3, hcv3, M40, hdK6, ⟨hL1, hL2, hL3, hL4⟩, fun q hq => hq, by (intro y; unfold chm; (rcases Classical.em (y = "held") with rfl | h0); exact rfl; (rcases Classical.em (y = "changed") with rfl | h1); exact rfl; (rcases Classical.em (y = "machine") with rfl | h2); exact rfl; (rcases Classical.em (y = "words") with rfl | h3); exact rfl; (rcases Classical.em (y = "prime") with rfl | h4); exact rfl; (try simp only [if_neg h0, if_neg h1, if_neg h2, if_neg h3, if_neg h4]); (first | done | exact rfl | (show List.lookup y (_ :: _) = none; simp only [List.lookup, beq_eq_false_iff_ne.mpr h0, beq_eq_false_iff_ne.mpr h1, beq_eq_false_iff_ne.mpr h2, beq_eq_false_iff_ne.mpr h3, beq_eq_false_iff_ne.mpr h4]) | (simp only [List.lookup, beq_eq_false_iff_ne.mpr h0, beq_eq_false_iff_ne.mpr h1, beq_eq_false_iff_ne.mpr h2, beq_eq_false_iff_ne.mpr h3, beq_eq_false_iff_ne.mpr h4]; done)))⟩
        rcases hwd4 with ⟨q4, r4, rfl, rfl, rfl, rfl⟩ | ⟨rfl, rfl, rfl, h1, h2⟩
        · exact .inl ⟨q4, r4, hch3, rfl, rfl, rfl, hz3, by rw [List.length_cons] at hq33; omega, hh3, hc3⟩
        · exact .inr ⟨by rw [← hch3, chg_nil], rfl, rfl, h1, h2⟩
    · (try dsimp only); (try k_fold)
      ((repeat' ((fail_if_success (with_reducible show wpAny _ _ (compareOp CmpOp.NotEq _ _) _ _ _)); (first | (k_unfold; (try dsimp only)) | ((with_reducible first | show wpAny _ _ (exec _ _) _ _ _ | show wpAny _ _ (execs _ _) _ _ _); k_fold) | (k_end; wrow_close) | walk1 | (dsimp only; walk1) | (leave1; (try dsimp only))))) <;> (repeat (k_unfold; (try dsimp only))))
      refine PySem.P.ne_str ?_
      rw [show ((Tx []).cps.toList != (Str.ofString "").cps.toList) = false from by rw [lit_e]; exact bne_self_eq_false _]
      (try dsimp only)
      ((repeat' (first | (k_unfold; (try dsimp only)) | ((with_reducible first | show wpAny _ _ (exec _ _) _ _ _ | show wpAny _ _ (execs _ _) _ _ _); k_fold) | (k_end; wrow_close) | walk1 | (dsimp only; walk1) | (leave1; (try dsimp only)))) <;> (repeat (k_unfold; (try dsimp only))))
      (try dsimp only)
      (try k_unfold)
      (try dsimp only)
      rename (L' + 1 < _ ∧ _ ∧ _) => lT
      rename Fr _ _ _ _ => F50
      rename News _ _ _ _ => N50
      obtain ⟨t0, t1, t2, t3, t4, t5, t6, t7, t8, t9⟩ := lT
      have hfe1 : fin.1 = hs := by rw [hfe]
      have hfe2 : fin.2.1 = cs' := by rw [hfe]
      refine ret _ ((_, { cls := .type "tuple", data := .seq #[.ref H2, .ref C] }) :: (H2, listOf (List.toArray hv) kH) :: (C, listOf (List.toArray cv) kC) :: (P, listOf its.toArray k) :: (lexObjs w a (.int (c + nlTo text p2) lt8) (.str "\n\t\r " tw8) its8 k8 ++ l8)) _ _ F50.keep (fun r hr => ?_) ⟨_, H2, C, hv, cv, kH, kC, _, p2, rfl, by rw [hfe1]; exact hhv, by rw [hfe2]; exact hcv, hp2, hcod2, M13, ⟨?_, hH4, hCM⟩, ⟨(Nat.ne_of_lt t1).symm, (Nat.ne_of_lt t2).symm, (Nat.ne_of_lt t3).symm, hH2, hH3, hCP⟩, rfl⟩
      · have z := N50 r (by
          rcases List.mem_cons.mp hr with rfl | hr
          · exact .head _
          · exact .tail _ (.tail _ hr))
        exact ⟨z.1, z.2.2⟩
      · exact not_adrs M13 Rd (List.forall_mem_cons.mpr ⟨Nat.ne_of_lt t4, List.forall_mem_cons.mpr ⟨Nat.ne_of_lt t5, List.forall_mem_cons.mpr ⟨Nat.ne_of_lt t6, List.forall_mem_cons.mpr ⟨Nat.ne_of_lt t7, List.forall_mem_cons.mpr ⟨Nat.ne_of_lt t8, fun r hr => Nat.ne_of_lt (allLt_mem t9 r hr)⟩⟩⟩⟩⟩)
section
variable {w : World} {dp un : Nat} {gd : Option (List Code)} {env : Env} {outer : List Env} {A₀ : Around} {base h₀ : Heap} {L : Addr} {m : Str → Option Value} {tp : Program} {tl : List Str} {mean : ExcName → Option Value} {mg mb : Str → Option Value} {s : Shared} {Q E : Value → Shared → Prop}
/-- what a ledger says twice of one place is the same -/
theorem News.one {h : Heap} {news : List (Addr × Obj)} (N : News h₀ L h news) {p q : Addr × Obj} (hp : p ∈ news) (hq : q ∈ news) (e : p.1 = q.1) : p = q := by
  have e1 := (N p hp).1
  have e2 := (N q hq).1
  rw [e, e2] at e1
  exact Prod.ext e (Option.some.inj e1).symm
/-- a call that leaves what it looks at and makes something new -/
theorem use_more {D U : Nat} {f : Addr} {args : List Value} {sel news : List (Addr × Obj)} {Post : Nat → Value → List (Addr × Obj) → Prop} (C : Con w D U f args sel Post) (hk : ∀ n v b, Post n v b → ∃ nb, b = nb ++ sel)
    (B : Below A₀ base outer h₀) (F : Fr h₀ L s.heap m) (X : (hd.heap_1 w.params).In h₀) (N : News h₀ L s.heap news) (T : Top tp tl mean mg mb h₀) (hf : env.frame = some L) (hke : env.scope.kind = .function)
    (hsel : ∀ p ∈ sel, p ∈ news) (hd : dp + D < recursionLimit) (hu : un + U < cLine)
    (ret : ∀ v nb h' tk', Fr h₀ L h' m → News h₀ L h' (nb ++ news) → (∀ r ∈ nb, ∀ q ∈ news, q.1 ∉ sel.map Prod.fst → r.1 ≠ q.1) → Post s.heap.objs.size v (nb ++ sel) → Q v { s with heap := h', toks := tk' }) :
    wpAny (model Challenge.rw_pe0259_02.row.prog w) (Ar dp un gd (env :: outer)) (call (.ref f) args) Q E s := by
  refine use_g C (oth := news.filter fun p => decide (p.1 ∉ sel.map Prod.fst)) B F X N T hf hke hsel (fun p hp => (List.mem_filter.mp hp).1) (fun p hp q hq e => ?_) hd hu ?_
  · exact of_decide_eq_true (List.mem_filter.mp hp).2 (e ▸ List.mem_map_of_mem hq)
  · intro v sel' h' tk' F' N' ne _ hP
    obtain ⟨nb, rfl⟩ := hk _ _ _ hP
    refine ret v nb h' tk' F' (fun p hp => ?_) (fun r hr q hq hm => ne r (List.mem_append_left _ hr) q (List.mem_filter.mpr ⟨hq, decide_eq_true hm⟩)) hP
    rcases List.mem_append.mp hp with hp | hp
    · exact N' p (List.mem_append_left _ (List.mem_append_left _ hp))
    · by_cases hm : p.1 ∈ sel.map Prod.fst
      · obtain ⟨r, hr, e⟩ := List.mem_map.mp hm
        obtain rfl : p = r := News.one N hp (hsel r hr) e.symm
        exact N' p (List.mem_append_left _ (List.mem_append_right _ hr))
      · exact N' p (List.mem_append_right _ (List.mem_filter.mpr ⟨hp, decide_eq_true hm⟩))
/-- a call of _law_passed -/
theorem pas_use {x : Addr} {S : WsSt} {bl aa T3 T4 : List (Addr × Obj)} {size : Nat} {t : Tok} (W : WsAt w x S bl) (S3 : TabSt 37 35 4 "_int2digits.<locals>.inner" T3) (S4 : TabSt 44 50 4 "_digits2int.<locals>.inner" T4) (hb : ∀ q ∈ bl, q ∈ aa) (off : ∀ q ∈ aa, ∀ r ∈ T3 ++ T4, q.1 ≠ r.1)
    (h1 : 1 ≤ size) (h2 : size < 1000) (hc : S.count.length < 10000) (hlv : (lvl2 S size).natAbs < 2 ^ 59)
    (B : Below A₀ base outer h₀) (F : Fr h₀ L s.heap m) (X : (hd.heap_1 w.params).In h₀) (N : News h₀ L s.heap (aa ++ (T3 ++ T4))) (T : Top tp tl mean mg mb h₀) (hf : env.frame = some L) (hke : env.scope.kind = .function)
    (hd : dp + 120 < recursionLimit) (hu : un + 900 < cLine)
    (ret : ∀ T3' T4' t' h' tk', TabSt 37 35 4 "_int2digits.<locals>.inner" T3' → TabSt 44 50 4 "_digits2int.<locals>.inner" T4' → (∀ q ∈ aa, ∀ r ∈ T3' ++ T4', q.1 ≠ r.1) → Fr h₀ L h' m → News h₀ L h' (aa ++ (T3' ++ T4')) → Q (.int (pas S size) t') { s with heap := h', toks := tk' }) :
    wpAny (model Challenge.rw_pe0259_02.row.prog w) (Ar dp un gd (env :: outer)) (call (.ref 202) [.ref x, .int (size : Int) t]) Q E s := by
  refine use_g (passed_c w x S bl T3 T4 W S3 S4 (fun q hq r hr => off q (hb q hq) r hr) size t h1 h2 hc hlv) (oth := aa.filter fun p => decide (p.1 ∉ bl.map Prod.fst)) B F X N T hf hke (fun p hp => ?_) (fun p hp => List.mem_append_left _ (List.mem_filter.mp hp).1) (fun p hp q hq => ?_) hd hu ?_
  · rcases List.mem_append.mp hp with hp | hp
    · exact List.mem_append_left _ (hb p hp)
    · exact List.mem_append_right _ hp
  · have h := List.mem_filter.mp hp
    rcases List.mem_append.mp hq with hq | hq
    · exact fun e => of_decide_eq_true h.2 (e ▸ List.mem_map_of_mem hq)
    · exact off p h.1 q hq
  · rintro v blk h' tk' F' N' ne - ⟨T3', T4', t', rfl, S3', S4', off', rfl⟩
    refine ret T3' T4' t' h' tk' S3' S4' (fun q hq r hr => ?_) F' (fun q hq => ?_)
    · by_cases e : q.1 ∈ bl.map Prod.fst
      · obtain ⟨z, hz, e2⟩ := List.mem_map.mp e
        rw [← e2]; exact off' z hz r hr
      · exact (ne r (List.mem_append_right _ hr) q (List.mem_filter.mpr ⟨hq, decide_eq_true e⟩)).symm
    · rcases List.mem_append.mp hq with hq | hq
      · by_cases e : q.1 ∈ bl.map Prod.fst
        · obtain ⟨z, hz, e2⟩ := List.mem_map.mp e
          obtain rfl : q = z := News.one N (List.mem_append_left _ hq) (List.mem_append_left _ (hb z hz)) e2.symm
          exact N' q (List.mem_append_left _ (List.mem_append_left _ hz))
        · exact N' q (List.mem_append_right _ (List.mem_filter.mpr ⟨hq, decide_eq_true e⟩))
      · exact N' q (List.mem_append_left _ (List.mem_append_right _ hq))
/-- a call of _law_changed -/
theorem chg_use {a : LexA} {text : Str} {adr : List Addr} {RO : Nat → List (Addr × Obj) → Prop} {c : Int} {p : Nat} {aa blk : List (Addr × Obj)} {P : Addr} {its : List Value} {k pr f : Nat} {tq : Tok} {ws : List Nat} {fin : List Nat × List Nat × List Nat} (Rd : Reader w a.rd text adr RO) (O : a.Ok adr)
    (M : MachSt w a RO (c + nlTo text p) "\n\t\r " [] p blk) (off : ∀ q ∈ aa, q.1 ∉ a.adrs ++ adr) (hp : p ≤ text.length) (htl : text.length < 2000) (hcod : codes text p = []) (hm : (P, listOf its.toArray k) ∈ aa)
    (hi : StrsAre its (ws.map blank)) (hw : ∀ z ∈ ws, 1 ≤ z ∧ z ≤ 30) (hl : ws.length ≤ 40) (hpr : 2 ≤ pr ∧ pr < 100) (hf2 : f ≤ 100) (hend : chg pr f [] [] ws = fin) (hfin : fin.2.2 = [])
    (B : Below A₀ base outer h₀) (F : Fr h₀ L s.heap m) (X : (hd.heap_1 w.params).In h₀) (N : News h₀ L s.heap (aa ++ blk)) (T : Top tp tl mean mg mb h₀) (hf : env.frame = some L) (hke : env.scope.kind = .function)
    (hd : dp + 40 < recursionLimit) (hu : un + 600 < cLine)
    (ret : ∀ U H C hv cv kH kC blk2 p' h' tk', StrsAre hv (fin.1.map blank) → StrsAre cv (fin.2.1.map blank) → p' ≤ text.length → codes text p' = [] → MachSt w a RO (c + nlTo text p') "\n\t\r " [] p' blk2 → (U ∉ a.adrs ++ adr ∧ H ∉ a.adrs ++ adr ∧ C ∉ a.adrs ++ adr) →
      (∀ q ∈ aa, q.1 ≠ U ∧ q.1 ≠ H ∧ q.1 ≠ C) → Fr h₀ L h' m → News h₀ L h' ((U, { cls := .type "tuple", data := .seq #[.ref H, .ref C] }) :: (H, listOf (List.toArray hv) kH) :: (C, listOf (List.toArray cv) kC) :: (aa ++ blk2)) → Q (.ref U) { s with heap := h', toks := tk' }) :
    wpAny (model Challenge.rw_pe0259_02.row.prog w) (Ar dp un gd (env :: outer)) (call (.ref 188) [.ref a.x, .ref P, .int (pr : Int) tq]) Q E s := by
  refine use_g (changed_c w a text adr RO Rd O c p blk M hp htl hcod P its k pr tq (off _ hm) ws hi hw hl hpr fin f hf2 hend hfin) (oth := aa.filter fun q => decide (q.1 ≠ P)) B F X N T hf hke (fun q hq => ?_) (fun q hq => List.mem_append_left _ (List.mem_filter.mp hq).1) (fun q hq r hr => ?_) hd hu ?_
  · rcases List.mem_cons.mp hq with rfl | hq
    · exact List.mem_append_left _ hm
    · exact List.mem_append_right _ hq
  · have h := List.mem_filter.mp hq
    rcases List.mem_cons.mp hr with rfl | hr
    · exact of_decide_eq_true h.2
    · exact (of_adrs M Rd (off q h.1) r hr).symm
  · rintro v blk' h' tk' F' N' ne - ⟨U, H, C, hv, cv, kH, kC, blk2, p', rfl, hhv, hcv, hp', hc', M', hadr, ⟨-, -, d3, -, d5, d6⟩, rfl⟩
    refine ret U H C hv cv kH kC blk2 p' h' tk' hhv hcv hp' hc' M' hadr (fun q hq => ?_) F' (fun q hq => ?_)
    · by_cases e : q.1 = P
      · rw [e]; exact ⟨d3.symm, d5.symm, d6.symm⟩
      · have hq2 : q ∈ aa.filter fun q => decide (q.1 ≠ P) := List.mem_filter.mpr ⟨hq, decide_eq_true e⟩
        exact ⟨(ne _ (.head _) q hq2).symm, (ne _ (.tail _ (.head _)) q hq2).symm, (ne _ (.tail _ (.tail _ (.head _))) q hq2).symm⟩
    · rcases List.mem_cons.mp hq with rfl | hq
      · exact N' _ (.head _)
      · rcases List.mem_cons.mp hq with rfl | hq
        · exact N' _ (.tail _ (.head _))
        · rcases List.mem_cons.mp hq with rfl | hq
          · exact N' _ (.tail _ (.tail _ (.head _)))
          · rcases List.mem_append.mp hq with hq | hq
            · by_cases e : q.1 = P
              · obtain rfl : q = (P, listOf its.toArray k) := News.one N (List.mem_append_left _ hq) (List.mem_append_left _ hm) e
                exact N' _ (.tail _ (.tail _ (.tail _ (.head _))))
              · exact N' q (List.mem_append_right _ (List.mem_filter.mpr ⟨hq, decide_eq_true e⟩))
            · exact N' q (List.mem_append_left _ (.tail _ (.tail _ (.tail _ (.tail _ hq)))))
end
theorem len_blank {prog : Program} {w : World} {A : Around} {E : Value → Shared → Prop} {s : Shared} {q : Nat} {t : Tok} {Q : Value → Shared → Prop} (hq : q ≤ 1000) (h : Q (.int (q : Int) (s.toks + 1)) { s with toks := s.toks + 1 + 1 }) : wpAny (model prog w) A (call (.builtin "len") [.str (blank q) t]) Q E s := by
  have e : (blank q).length = q := by rw [Tx_len, List.length_replicate]
  refine len_str (by rw [e]; omega) ?_
  rw [e]; exact h
theorem sum_cast : ∀ l : List Nat, (l.map fun q : Nat => (q : Int)).sum = ((l.sum : Nat) : Int)
  | [] => rfl
  | x :: r => by rw [List.map_cons, List.sum_cons, List.sum_cons, sum_cast r]; omega
theorem mul_one (v : Value) : ∀ q : Nat, List.foldl (fun x1 x2 => x1 ++ x2) #[] (List.replicate q #[v]) = (List.replicate q v).toArray := by
  have h : ∀ (q : Nat) (a : Array Value), List.foldl (fun x1 x2 => x1 ++ x2) a (List.replicate q #[v]) = a ++ (List.replicate q v).toArray := by
    intro q
    induction q with
    | zero => intro a; simp
    | succ q ih => intro a; rw [List.replicate_succ, List.foldl_cons, ih, List.replicate_succ]; apply Array.ext'; simp
  intro q
  rw [h]; simp
section
variable {prog : Program} {w : World} {A : Around} {E : Value → Shared → Prop} {s : Shared} {h₀ : Heap} {L : Addr} {m : Str → Option Value} {news : List (Addr × Obj)}
theorem mul_new {l : Addr} {v : Value} {k q : Nat} {u : Tok} {Q : Value → Shared → Prop} (F : Fr h₀ L s.heap m) (N : News h₀ L s.heap news) (hl : (l, listOf #[v] k) ∈ news) (hq : q ≤ 1000)
    (h : ∀ D h', Fr h₀ L h' m → News h₀ L h' ((D, listOf (List.replicate q v).toArray 0) :: news) → (∀ p ∈ news, p.1 ≠ D) → Q (.ref D) { s with heap := h' }) :
    wpAny (model prog w) A (binaryOp .Mult (.ref l) (.int (q : Int) u)) Q E s := by
  have hlt : ∀ p ∈ news, p.1 ≠ s.heap.objs.size := fun p hp => Nat.ne_of_lt (Heap.lt_size (N p hp).1)
  refine mul_list F N (N _ hl).1 (by omega) (by omega) (by rw [Int.toNat_natCast]; show 1 * q ≤ _; omega) (fun h' F' N' => ?_)
  rw [Int.toNat_natCast, show (if (#[v] : Array Value).isEmpty = true then 0 else q) = q from rfl, mul_one] at N'
  exact h _ h' F' N' hlt
theorem add_new {l b : Addr} {vs us : List Value} {k1 k2 : Nat} {Q : Value → Shared → Prop} (F : Fr h₀ L s.heap m) (N : News h₀ L s.heap news) (hl : (l, listOf vs.toArray k1) ∈ news) (hb : (b, listOf us.toArray k2) ∈ news) (hz : vs.length + us.length ≤ 10000)
    (h : ∀ D h', Fr h₀ L h' m → News h₀ L h' ((D, listOf (vs ++ us).toArray 0) :: news) → (∀ p ∈ news, p.1 ≠ D) → Q (.ref D) { s with heap := h' }) :
    wpAny (model prog w) A (binaryOp .Add (.ref l) (.ref b)) Q E s := by
  have hlt : ∀ p ∈ news, p.1 ≠ s.heap.objs.size := fun p hp => Nat.ne_of_lt (Heap.lt_size (N p hp).1)
  exact add_lists (hsz := by rw [sizeLine_eq]; omega) F N (News.isList N hl) (News.isList N hb) (fun h' F' N' => h _ h' F' N' hlt)
end
theorem strs_app {vs us : List Value} {xs ys : List Str} (h : StrsAre vs xs) (h2 : StrsAre us ys) : StrsAre (vs ++ us) (xs ++ ys) := by
  induction h with
  | nil => exact h2
  | cons a t h ih => exact .cons a t ih
/-- a run of blanks by itself -/
noncomputable def g1 (pr q : Nat) : List Nat × List Nat × List Nat := chg pr 20 [] [] (List.replicate q 1)
noncomputable def lefts (pr : Nat) (qs : List Nat) : List Nat := (qs.map fun q => (g1 pr q).1).flatten
noncomputable def alones (pr : Nat) (qs : List Nat) : List Nat := (qs.map fun q => (g1 pr q).2.1).flatten
noncomputable def togs (pr : Nat) (qs : List Nat) (k : Nat) : Nat := cs pr (fun k => (lefts pr qs).count k) k
noncomputable def togLen (pr : Nat) (qs : List Nat) : Nat := ((List.range 6).map (togs pr qs)).sum
/-- what a game needs -/
structure GOk (S S' : WsSt) (qs : List Nat) (pr tot : Nat) : Prop where
  pr2 : 2 ≤ pr ∧ pr < 20
  ql : qs.length ≤ 10
  q5 : ∀ q ∈ qs, q ≤ 5 ∧ (g1 pr q).2.2 = []
  sum : qs.sum = tot ∧ tot < 20
  ll : 0 < (lefts pr qs).length ∧ (lefts pr qs).length ≤ 20
  l5 : ∀ z ∈ lefts pr qs, 1 ≤ z ∧ z ≤ 5
  al : (alones pr qs).length ≤ 20 ∧ togLen pr qs ≤ 20
  t6 : togs pr qs 6 = 0
  dig : ∀ k ∈ List.range 5, ((lefts pr qs).count (k + 1) + togs pr qs k) % pr = tot / pr ^ k % pr
  cl : S.count.length < 10000 ∧ S'.count.length < 10000
  pas : ∀ k ∈ List.range 5, 0 < k → pr ^ k ≤ tot → (((alones pr qs).count k : Nat) : Int) = pas S (pr ^ k) ∧ (((alones pr qs).count k + togs pr qs k : Nat) : Int) = pas S' (pr ^ k) ∧ (lvl2 S ((pr ^ k : Nat) : Int)).natAbs < 2 ^ 59 ∧ (lvl2 S' ((pr ^ k : Nat) : Int)).natAbs < 2 ^ 59
theorem lefts_step {pr : Nat} {qs : List Nat} {i q : Nat} (h : qs[i]? = some q) : lefts pr (qs.take (i + 1)) = lefts pr (qs.take i) ++ (g1 pr q).1 := by
  unfold lefts
  rw [List.take_add_one, h, List.map_append, List.flatten_append]
  simp
theorem alones_step {pr : Nat} {qs : List Nat} {i q : Nat} (h : qs[i]? = some q) : alones pr (qs.take (i + 1)) = alones pr (qs.take i) ++ (g1 pr q).2.1 := by
  unfold alones
  rw [List.take_add_one, h, List.map_append, List.flatten_append]
  simp
theorem lefts_le (pr : Nat) (qs : List Nat) (i : Nat) : (lefts pr (qs.take i)).length ≤ (lefts pr qs).length := by
  conv => rhs; rw [← List.take_append_drop i qs]
  unfold lefts
  rw [List.map_append, List.flatten_append, List.length_append]
  exact Nat.le_add_right _ _
theorem alones_le (pr : Nat) (qs : List Nat) (i : Nat) : (alones pr (qs.take i)).length ≤ (alones pr qs).length := by
  conv => rhs; rw [← List.take_append_drop i qs]
  unfold alones
  rw [List.map_append, List.flatten_append, List.length_append]
  exact Nat.le_add_right _ _
/-- what was left, begun at another place -/
noncomputable def rot (l : List Nat) (b : Nat) : List Nat := l.drop b ++ l.take b
theorem rot_count (l : List Nat) (b k : Nat) : (rot l b).count k = l.count k := by
  unfold rot
  conv => rhs; rw [← List.take_append_drop b l]
  rw [List.count_append, List.count_append, Nat.add_comm]
theorem rot_mem {l : List Nat} {b z : Nat} (h : z ∈ rot l b) : z ∈ l := by
  unfold rot at h
  rcases List.mem_append.mp h with h | h
  · exact List.mem_of_mem_drop h
  · exact List.mem_of_mem_take h
theorem rot_len (l : List Nat) (b : Nat) : (rot l b).length = l.length := by
  unfold rot
  rw [List.length_append, List.length_drop, List.length_take]
  omega
/-- the second game -/
noncomputable def g2 (pr : Nat) (qs : List Nat) (b : Nat) : List Nat × List Nat × List Nat := chg pr 100 [] [] (rot (lefts pr qs) b)
theorem g2_end {S S' : WsSt} {qs : List Nat} {pr tot : Nat} (G : GOk S S' qs pr tot) (b : Nat) : (g2 pr qs b).2.2 = [] ∧ ChI pr (fun k => (lefts pr qs).count k) (g2 pr qs b).1 (g2 pr qs b).2.1 [] := by
  refine chg_end G.pr2.1 100 [] [] _ ⟨fun k => by rw [List.count_nil]; have := G.pr2.1; omega, fun k => ?_, fun x hx => (G.l5 x (rot_mem hx)).1, rfl⟩ ?_
  · rw [List.count_nil, List.count_nil, rot_count]; omega
  · rw [rot_len]; have := G.ll.2; simp; omega
theorem g2_held {S S' : WsSt} {qs : List Nat} {pr tot : Nat} (G : GOk S S' qs pr tot) (b : Nat) {k : Nat} (hk : k < 5) : (g2 pr qs b).1.count (k + 1) = tot / pr ^ k % pr := by
  rw [← G.dig k (List.mem_range.mpr hk)]
  exact (cs_of (by have := G.pr2.1; omega) (g2_end G b).2 k).2
theorem g2_tog {S S' : WsSt} {qs : List Nat} {pr tot : Nat} (G : GOk S S' qs pr tot) (b k : Nat) : (g2 pr qs b).2.1.count k = togs pr qs k :=
  (cs_of (by have := G.pr2.1; omega) (g2_end G b).2 k).1
theorem g2_len {S S' : WsSt} {qs : List Nat} {pr tot : Nat} (G : GOk S S' qs pr tot) (b : Nat) : (g2 pr qs b).2.1.length = togLen pr qs :=
  ch_len (by have := G.pr2.1; omega) (g2_end G b).2 G.t6 (fun k hk => List.count_eq_zero.mpr fun h => by have := G.l5 k h; omega)
/-- the locals of _law_game -/
noncomputable def gmm (x P : Addr) (pr : Nat) (tp : Tok) (bg : Int) (tb : Tok) (xl xp : Addr) (total left alone piece held changed together k first : Option Value) : Str → Option Value :=
  fun y => if y = "total" then total else if y = "left" then left else if y = "alone" then alone else if y = "piece" then piece else if y = "held" then held else if y = "changed" then changed else if y = "together" then together else if y = "k" then k else if y = "first" then first
    else if y = "machine" then some (.ref x) else if y = "pieces" then some (.ref P) else if y = "prime" then some (.int (pr : Int) tp) else if y = "begin" then some (.int bg tb) else if y = "lead" then some (.ref xl) else if y = "piled" then some (.ref xp) else none
theorem rep_blanks (q : Nat) (t : Tok) : StrsAre (List.replicate q (Value.str " " t)) ((List.replicate q 1).map blank) := by
  induction q with
  | zero => exact .nil
  | succ q ih => exact .cons _ _ ih
theorem pick_from {l : List Value} {b : Nat} (h : b ≤ l.length) : kms_pick l.toArray.toList (some (b : Int)) none = l.drop b := by
  unfold kms_pick kms_lo kms_hi
  simp only [show ¬ ((b : Int) < 0) from by omega, if_false, Int.toNat_natCast]
  rw [Nat.min_eq_left h]
  exact List.take_of_length_le (by simp)
theorem pick_to {l : List Value} {b : Nat} (h : b ≤ l.length) : kms_pick l.toArray.toList none (some (b : Int)) = l.take b := by
  unfold kms_pick kms_lo kms_hi
  simp only [show ¬ ((b : Int) < 0) from by omega, if_false, Int.toNat_natCast]
  rw [Nat.min_eq_left h, Nat.sub_zero]; rfl
/-- between two pieces -/
noncomputable def GmJ (w : World) (a : LexA) (text : Str) (adr : List Addr) (RO : Nat → List (Addr × Obj) → Prop) (c : Int) (P : Addr) (oP : Obj) (pr : Nat) (tp : Tok) (bg : Int) (tb : Tok) (xl xp : Addr) (tot : Nat) (tt : Tok) (K : List (Addr × Obj)) (qs : List Nat) (i : Nat) (m : Str → Option Value) (nw : List (Addr × Obj)) : Prop :=
  ∃ p blk Lf lv kL Al av kA pv hv cv, p ≤ text.length ∧ codes text p = [] ∧ MachSt w a RO (c + nlTo text p) "\n\t\r " [] p blk ∧ StrsAre lv ((lefts pr (qs.take i)).map blank) ∧ StrsAre av ((alones pr (qs.take i)).map blank) ∧ Lf ∉ a.adrs ++ adr ∧ Al ∉ a.adrs ++ adr ∧ (∀ r ∈ K, r.1 ≠ Al) ∧
    nw = (Lf, listOf (List.toArray lv) kL) :: (Al, listOf (List.toArray av) kA) :: (P, oP) :: (K ++ blk) ∧ ∀ y, m y = gmm a.x P pr tp bg tb xl xp (some (.int (tot : Int) tt)) (some (.ref Lf)) (some (.ref Al)) pv hv cv none none none y
/-- between two lengths -/
noncomputable def G2J (aa : List (Addr × Obj)) (mm : Option Value → Option Value → Str → Option Value) (i : Nat) (m : Str → Option Value) (nw : List (Addr × Obj)) : Prop :=
  ∃ T3 T4 kv fv, TabSt 37 35 4 "_int2digits.<locals>.inner" T3 ∧ TabSt 44 50 4 "_digits2int.<locals>.inner" T4 ∧ (∀ q ∈ aa, ∀ r ∈ T3 ++ T4, q.1 ≠ r.1) ∧ nw = aa ++ (T3 ++ T4) ∧ ∀ y, m y = mm kv fv y
section
variable {prog : Program} {w : World} {A : Around} {E : Value → Shared → Prop} {s : Shared} {t u : Tok} {Q : Value → Shared → Prop}
theorem pow_n {x y : Nat} (hx : x < 100) (hy : y ≤ 1000) (h : Q (.int ((x ^ y : Nat) : Int) s.toks) { s with toks := s.toks + 1 }) : wpAny (model prog w) A (binaryOp .Pow (.int (x : Int) t) (.int (y : Int) u)) Q E s := by
  refine pow_int_small (by omega) (by omega) (by omega) ?_
  rw [Int.toNat_natCast, ← Int.natCast_pow]; exact h
theorem fdiv_n {x y : Nat} (hy : 0 < y) (hy2 : y < 1000000000) (h : Q (.int ((x / y : Nat) : Int) s.toks) { s with toks := s.toks + 1 }) : wpAny (model prog w) A (binaryOp .FloorDiv (.int (x : Int) t) (.int (y : Int) u)) Q E s := by
  refine floordiv_int (by omega) ?_ (.inl (PyProof.noPylong_small (by omega)))
  rw [fdiv_nn]; exact h
theorem ne_eq {x y : Int} (e : x = y) (h : Q (.bool false) s) : wpAny (model prog w) A (compareOp .NotEq (.int x t) (.int y u)) Q E s := by
  subst e
  refine ne_int ?_
  rw [show (x != x) = false from by simp]; exact h
end
theorem game_c (w : World) (a : LexA) (text : Str) (adr : List Addr) (RO : Nat → List (Addr × Obj) → Prop) (Rd : Reader w a.rd text adr RO) (O : a.Ok adr)
    (c : Int) (p : Nat) (blk : List (Addr × Obj)) (M : MachSt w a RO (c + nlTo text p) "\n\t\r " [] p blk) (hp : p ≤ text.length) (htl : text.length < 2000) (hcod : codes text p = [])
    (P : Addr) (its : List Value) (kP : Nat) (qs : List Nat) (hi : StrsAre its (qs.map blank)) (pr tot : Nat) (tpr : Tok) (bg : Int) (tb : Tok) (xl xp : Addr) (S S' : WsSt) (bL bP T3 T4 : List (Addr × Obj)) (WL : WsAt w xl S bL) (WP : WsAt w xp S' bP)
    (S3 : TabSt 37 35 4 "_int2digits.<locals>.inner" T3) (S4 : TabSt 44 50 4 "_digits2int.<locals>.inner" T4) (G : GOk S S' qs pr tot) (hP : P ∉ a.adrs ++ adr) (hK : ∀ q ∈ (bL ++ bP) ++ (T3 ++ T4), q.1 ∉ a.adrs ++ adr) (hT : ∀ q ∈ (P, listOf its.toArray kP) :: (bL ++ bP), ∀ r ∈ T3 ++ T4, q.1 ≠ r.1) :
    Con w 180 1500 207 [.ref a.x, .ref P, .int (pr : Int) tpr, .int bg tb, .ref xl, .ref xp] ((P, listOf its.toArray kP) :: (((bL ++ bP) ++ (T3 ++ T4)) ++ blk)) (fun _ v blk' => ∃ g t1 t2 k T3' T4' blk2 p', v = .ref g ∧ p' ≤ text.length ∧ codes text p' = [] ∧ MachSt w a RO (c + nlTo text p') "\n\t\r " [] p' blk2 ∧
      TabSt 37 35 4 "_int2digits.<locals>.inner" T3' ∧ TabSt 44 50 4 "_digits2int.<locals>.inner" T4' ∧
      (∀ q ∈ (P, listOf its.toArray kP) :: (((bL ++ bP) ++ (T3' ++ T4')) ++ blk2), q.1 ≠ g) ∧ (∀ q ∈ T3' ++ T4', q.1 ∉ a.adrs ++ adr) ∧ (∀ q ∈ (P, listOf its.toArray kP) :: (bL ++ bP), ∀ r ∈ T3' ++ T4', q.1 ≠ r.1) ∧
      blk' = (g, listOf #[.int ((pr ^ (alones pr qs).length : Nat) : Int) t1, .int ((pr ^ togLen pr qs : Nat) : Int) t2] k) :: (P, listOf its.toArray kP) :: (((bL ++ bP) ++ (T3' ++ T4')) ++ blk2)) := by
  obtain ⟨K, hKe⟩ : ∃ K, K = (bL ++ bP) ++ (T3 ++ T4) := ⟨_, rfl⟩
  rw [← hKe] at hK ⊢
  have hil : its.length = qs.length := by rw [hi.length, List.length_map]
  have hits : its.toArray.size = qs.length := by rw [List.size_toArray, hil]
  have hsize : its.toArray.size ≤ sizeLine := by rw [hits, sizeLine_eq]; have := G.ql; omega
  unfold Con
  k_fill
  intro dp un gd outer base g tp tl mean mg mb s R B hg hsz hsel X T hd hu ret
  refine' enter_g B hg hsz hsel X T ?k6 ?k7 ?k8 ?k9 ?kB ?_ ?c2 ?c3 ?c4 ?c5
  (case k6 => k_is); (case k7 => k_is); (case k8 => ktr_room); (case k9 => exact BindsTo.of_eq rfl); (case c5 => decide); (case kB => exact locs rfl); (case c2 => exact rfl); (case c3 => exact rfl); (case c4 => exact rfl)
  k_whole
  intro L' h' tk' F' N' l1
  (try dsimp only); (try k_fold)
  ((repeat' ((fail_if_success (with_reducible show wpAny _ _ (eval (Expr.ListComp _ _ _ _) _) _ _ _)); (first | (k_unfold; (try dsimp only)) | ((with_reducible first | show wpAny _ _ (exec _ _) _ _ _ | show wpAny _ _ (execs _ _) _ _ _); k_fold) | (k_end; wrow_close) | walk1 | (dsimp only; walk1) | (leave1; (try dsimp only))))) <;> (repeat (k_unfold; (try dsimp only))))
  rename Fr _ _ _ _ => F1
  rename News _ _ _ _ => N1
  refine LCg.ListComp_U (F₀ := F1) (by with_unfolding_all rfl) (by decide) (by rfl) (by decide) (by rfl) ?_
  ((repeat' ((fail_if_success (with_reducible show LCg.CompSrc _ _ _ _ _ _ _ _ _ _ _ _ _ _)); (first | (k_unfold; (try dsimp only)) | ((with_reducible first | show wpAny _ _ (exec _ _) _ _ _ | show wpAny _ _ (execs _ _) _ _ _); k_fold) | (k_end; wrow_close) | walk1 | (dsimp only; walk1) | (leave1; (try dsimp only))))) <;> (repeat (k_unfold; (try dsimp only))))
  rename Fr _ _ _ _ => F2
  rename News _ _ _ _ => N2
  refine LCg.CompSrc.ledger (k := kP) (its := its.toArray) rfl F2 N2 (.head _) hsize (fun g' => ?_)
  obtain ⟨NW, hNW⟩ : ∃ NW, NW = (P, listOf its.toArray kP) :: (K ++ blk) := ⟨_, rfl⟩
  refine rest_of its.toArray.size (fun i ys news => IntsAre ys ((qs.take i).map fun q : Nat => (q : Int)) ∧ news = NW) ?_ ?_ _ 0 [] _ (Nat.zero_add _) ⟨.nil, hNW.symm⟩
  · rintro i ys news v I oI C oC D m₂ h8 tk8 E' hi2 ⟨hys, rfl⟩ hv hns hx F11 N11 o3' ne
    obtain ⟨tz, z, hzx, rfl⟩ := strs_get hi (by simpa using hv)
    rw [List.getElem?_map] at hzx
    obtain ⟨q, hq, rfl⟩ := Option.map_eq_some_iff.mp hzx
    subst hNW
    clear F2 N2
    try clear F1 N1
    (try dsimp only); (try k_fold)
    ((repeat' ((fail_if_success (with_reducible show wpAny _ _ (call (Value.builtin "len") _) _ _ _)); (first | (k_unfold; (try dsimp only)) | ((with_reducible first | show wpAny _ _ (exec _ _) _ _ _ | show wpAny _ _ (execs _ _) _ _ _); k_fold) | (k_end; wrow_close) | walk1 | (dsimp only; walk1) | (leave1; (try dsimp only))))) <;> (repeat (k_unfold; (try dsimp only))))
    refine len_blank (by have := (G.q5 q (List.mem_of_getElem? hq)).1; omega) ?_
    (try dsimp only)
    ((repeat' ((fail_if_success (with_reducible show LCg.CompEnd _ _ _ _ _ _ _ _ _ _ _ _ _ _)); (first | (k_unfold; (try dsimp only)) | ((with_reducible first | show wpAny _ _ (exec _ _) _ _ _ | show wpAny _ _ (execs _ _) _ _ _); k_fold) | (k_end; wrow_close) | walk1 | (dsimp only; walk1) | (leave1; (try dsimp only))))) <;> (repeat (k_unfold; (try dsimp only))))
    rename Fr _ _ _ _ => F14
    rename News _ _ _ _ => N14
    refine LCg.CompEnd.intro F14 N14 _ (fun q hq => hq) o3' (.inr ⟨_, .head _, rfl, _, rfl⟩) ⟨?_, rfl⟩
    rw [List.take_add_one, hq]
    show IntsAre _ (List.map _ (_ ++ [q]))
    rw [List.map_append]
    exact hys.append (.cons _ _ .nil)
  · rintro ys news ⟨hys, rfl⟩ Dc h8 tk8 F11 N11 oD
    subst hNW
    rw [hits, List.take_length] at hys
    clear F2 N2
    try clear F1 N1
    (try dsimp only); (try k_fold)
    ((repeat' ((fail_if_success (with_reducible show wpAny _ _ (call (Value.builtin "sum") _) _ _ _)); (first | (k_unfold; (try dsimp only)) | ((with_reducible first | show wpAny _ _ (exec _ _) _ _ _ | show wpAny _ _ (execs _ _) _ _ _); k_fold) | (k_end; wrow_close) | walk1 | (dsimp only; walk1) | (leave1; (try dsimp only))))) <;> (repeat (k_unfold; (try dsimp only))))
    rename Fr _ _ _ _ => F12
    rename News _ _ _ _ => N12
    refine LSm.sum_ints F12 N12 rfl (News.isList N12 (.head _)) hys (fun h13 tk13 t13 F13 N13 => ?_)
    clear F12 N12
    try clear F11 N11
    (try dsimp only)
    ((repeat' ((fail_if_success (with_reducible show wpAny _ _ (exec (Stmt.For _ _ _ _ _) _) _ _ _)); (first | (k_unfold; (try dsimp only)) | ((with_reducible first | show wpAny _ _ (exec _ _) _ _ _ | show wpAny _ _ (execs _ _) _ _ _); k_fold) | (k_end; wrow_close) | walk1 | (dsimp only; walk1) | (leave1; (try dsimp only))))) <;> (repeat (k_unfold; (try dsimp only))))
    rename_i Lf _ lLf _ Al _ lAl _ F14 N14
    have hLf : Lf ∉ a.adrs ++ adr := not_adrs M Rd (fun r hr => Nat.ne_of_lt (allLt_mem lLf.2.2 r (List.mem_append_right _ hr)))
    have hAl : Al ∉ a.adrs ++ adr := not_adrs M Rd (fun r hr => Nat.ne_of_lt (allLt_mem lAl.2.2.2 r (List.mem_append_right _ hr)))
    rw [sum_cast, G.sum.1] at F14
    have F15 : Fr g L' _ (gmm a.x P pr tpr bg tb xl xp (some (.int (tot : Int) t13)) (some (.ref Lf)) (some (.ref Al)) none none none none none none) := Fr.congr F14 (by (intro y; unfold gmm; (rcases Classical.em (y = "total") with rfl | h0); exact rfl; (rcases Classical.em (y = "left") with rfl | h1); exact rfl; (rcases Classical.em (y = "alone") with rfl | h2); exact rfl; (rcases Classical.em (y = "piece") with rfl | h3); exact rfl; (rcases Classical.em (y = "held") with rfl | h4); exact rfl; (rcases Classical.em (y = "changed") with rfl | h5); exact rfl; (rcases Classical.em (y = "together") with rfl | h6); exact rfl; (rcases Classical.em (y = "k") with rfl | h7); exact rfl; (rcases Classical.em (y = "first") with rfl | h8); exact rfl; (rcases Classical.em (y = "machine") with rfl | h9); exact rfl; (rcases Classical.em (y = "pieces") with rfl | h10); exact rfl; (rcases Classical.em (y = "prime") with rfl | h11); exact rfl; (rcases Classical.em (y = "begin") with rfl | h12); exact rfl; (rcases Classical.em (y = "lead") with rfl | h13); exact rfl; (rcases Classical.em (y = "piled") with rfl | h14); exact rfl; (try simp only [if_neg h0, if_neg h1, if_neg h2, if_neg h3, if_neg h4, if_neg h5, if_neg h6, if_neg h7, if_neg h8, if_neg h9, if_neg h10, if_neg h11, if_neg h12, if_neg h13, if_neg h14]); (first | done | exact rfl | (show List.lookup y (_ :: _) = none; simp only [List.lookup, beq_eq_false_iff_ne.mpr h0, beq_eq_false_iff_ne.mpr h1, beq_eq_false_iff_ne.mpr h2, beq_eq_false_iff_ne.mpr h3, beq_eq_false_iff_ne.mpr h4, beq_eq_false_iff_ne.mpr h5, beq_eq_false_iff_ne.mpr h6, beq_eq_false_iff_ne.mpr h7, beq_eq_false_iff_ne.mpr h8, beq_eq_false_iff_ne.mpr h9, beq_eq_false_iff_ne.mpr h10, beq_eq_false_iff_ne.mpr h11, beq_eq_false_iff_ne.mpr h12, beq_eq_false_iff_ne.mpr h13, beq_eq_false_iff_ne.mpr h14]) | (simp only [List.lookup, beq_eq_false_iff_ne.mpr h0, beq_eq_false_iff_ne.mpr h1, beq_eq_false_iff_ne.mpr h2, beq_eq_false_iff_ne.mpr h3, beq_eq_false_iff_ne.mpr h4, beq_eq_false_iff_ne.mpr h5, beq_eq_false_iff_ne.mpr h6, beq_eq_false_iff_ne.mpr h7, beq_eq_false_iff_ne.mpr h8, beq_eq_false_iff_ne.mpr h9, beq_eq_false_iff_ne.mpr h10, beq_eq_false_iff_ne.mpr h11, beq_eq_false_iff_ne.mpr h12, beq_eq_false_iff_ne.mpr h13, beq_eq_false_iff_ne.mpr h14]; done))))
    clear F14
    refine wpAny_For ?_
    unfold gmm at F15
    ((repeat' ((fail_if_success (with_reducible show wpAny _ _ (pyIter _) _ _ _)); (first | (k_unfold; (try dsimp only)) | ((with_reducible first | show wpAny _ _ (exec _ _) _ _ _ | show wpAny _ _ (execs _ _) _ _ _); k_fold) | (k_end; wrow_close) | walk1 | (dsimp only; walk1) | (leave1; (try dsimp only))))) <;> (repeat (k_unfold; (try dsimp only))))
    have F16 : Fr g L' _ (gmm a.x P pr tpr bg tb xl xp (some (.int (tot : Int) t13)) (some (.ref Lf)) (some (.ref Al)) none none none none none none) := F15
    have N16 := cb_drop (news := (Lf, listOf #[] 0) :: (Al, listOf #[] 0) :: (P, listOf its.toArray kP) :: (K ++ blk)) N14 (fun q hq => ?sub)
    case sub =>
      rcases List.mem_cons.mp hq with rfl | hq
      · exact .tail _ (.head _)
      · rcases List.mem_cons.mp hq with rfl | hq
        · exact .head _
        · exact .tail _ (.tail _ (.tail _ hq))
    clear F15 N14
    try clear F13 N13
    refine' for_lst (env := envOf _ _ L' 207 _) (lo := listOf its.toArray kP) (its := its.toArray) rfl rfl ⟨_, rfl⟩ rfl rfl rfl F16 N16 (GmJ w a text adr RO c P (listOf its.toArray kP) pr tpr bg tb xl xp tot t13 K qs) ?hJ ?h0 ?turn ?done
    case hJ =>
      rintro i m nw ⟨p, blk, Lf, lv, kL, Al, av, kA, pv, hv, cv, -, -, -, -, -, -, -, -, rfl, -⟩
      exact .tail _ (.tail _ (.head _))
    case h0 => exact ⟨p, blk, Lf, [], 0, Al, [], 0, none, none, none, hp, hcod, M, .nil, .nil, hLf, hAl, fun r hr => Nat.ne_of_lt (allLt_mem lAl.2.2.2 r (List.mem_append_left _ hr)), rfl, fun y => rfl⟩
    case turn =>
      intro i v m₁ news₁ h6 tk6 I oI hv hJ hI F17 N17
      obtain ⟨p6, blk6, Lf, lv, kL, Al, av, kA, pv, hv6, cv6, hp6, hcod6, M6, hlv, hav, hLf, hAl, hAK, rfl, hm⟩ := hJ
      obtain ⟨tz, z, hz, rfl⟩ := strs_get hi (by simpa using hv)
      rw [List.getElem?_map] at hz
      obtain ⟨q, hq, rfl⟩ := Option.map_eq_some_iff.mp hz
      have hqm := G.q5 q (List.mem_of_getElem? hq)
      have F18 : Fr g L' h6 (gmm a.x P pr tpr bg tb xl xp (some (.int (tot : Int) t13)) (some (.ref Lf)) (some (.ref Al)) (some (.str (blank q) tz)) hv6 cv6 none none none) := Fr.congr F17 (fun y => by
        (try dsimp only); rw [hm]; unfold gmm; by_cases e : y = "piece"
        · subst e; rfl
        · simp only [if_neg e])
      have hIM : I ∉ a.adrs ++ adr := not_adrs M6 Rd (fun r hr => hI r (.tail _ (.tail _ (.tail _ (List.mem_append_right _ hr)))))
      have N18 : News g L' h6 ((I, oI) :: (Lf, listOf (List.toArray lv) kL) :: (Al, listOf (List.toArray av) kA) :: (P, listOf its.toArray kP) :: (K ++ blk6)) := fun q hq => by
        rcases List.mem_cons.mp hq with rfl | hq
        · exact N17 _ (List.mem_append_right _ (.head _))
        · exact N17 q (List.mem_append_left _ hq)
      clear F17 N17
      try clear F16 N16
      unfold gmm at F18
      (try dsimp only); (try k_fold)
      ((repeat' ((fail_if_success (with_reducible show wpAny _ _ (call (Value.builtin "len") _) _ _ _)); (first | (k_unfold; (try dsimp only)) | ((with_reducible first | show wpAny _ _ (exec _ _) _ _ _ | show wpAny _ _ (execs _ _) _ _ _); k_fold) | (k_end; wrow_close) | walk1 | (dsimp only; walk1) | (leave1; (try dsimp only))))) <;> (repeat (k_unfold; (try dsimp only))))
      refine len_blank (by omega) ?_
      (try dsimp only)
      ((repeat' ((fail_if_success (with_reducible show wpAny _ _ (binaryOp Operator.Mult _ _) _ _ _)); (first | (k_unfold; (try dsimp only)) | ((with_reducible first | show wpAny _ _ (exec _ _) _ _ _ | show wpAny _ _ (execs _ _) _ _ _); k_fold) | (k_end; wrow_close) | walk1 | (dsimp only; walk1) | (leave1; (try dsimp only))))) <;> (repeat (k_unfold; (try dsimp only))))
      rename Fr _ _ _ _ => F20
      rename News _ _ _ _ => N20
      refine mul_new F20 N20 (.head _) (by omega) (fun P1 h21 F21 N21 ne21 => ?_)
      clear F20 N20
      try clear F18 N18
      (try dsimp only)
      ((repeat' ((fail_if_success (with_reducible show wpAny _ _ (call (Value.ref 188) _) _ _ _)); (first | (k_unfold; (try dsimp only)) | ((with_reducible first | show wpAny _ _ (exec _ _) _ _ _ | show wpAny _ _ (execs _ _) _ _ _); k_fold) | (k_end; wrow_close) | walk1 | (dsimp only; walk1) | (leave1; (try dsimp only))))) <;> (repeat (k_unfold; (try dsimp only))))
      rename Fr _ _ _ _ => F22
      rename News _ _ _ _ => N22
      have N23 := cb_drop (news := ([(P1, listOf (List.replicate q (Value.str " " tk6)).toArray 0), (I, oI), (Lf, listOf (List.toArray lv) kL), (Al, listOf (List.toArray av) kA), (P, listOf its.toArray kP)] ++ K) ++ blk6) N22 (fun q hq => ?sub)
      case sub =>
        rw [List.append_assoc] at hq
        rcases List.mem_append.mp hq with hq | hq
        · simp only [List.mem_cons, List.not_mem_nil, or_false] at hq
          rcases hq with rfl | rfl | rfl | rfl | rfl <;> k_mem
        · exact .tail _ (.tail _ (.tail _ (.tail _ (.tail _ (.tail _ hq)))))
      have hP1 : P1 ∉ a.adrs ++ adr := not_adrs M6 Rd (fun r hr => ne21 r (.tail _ (.tail _ (.tail _ (.tail _ (.tail _ (List.mem_append_right _ hr)))))))
      refine chg_use (aa := [(P1, listOf (List.replicate q (Value.str " " tk6)).toArray 0), (I, oI), (Lf, listOf (List.toArray lv) kL), (Al, listOf (List.toArray av) kA), (P, listOf its.toArray kP)] ++ K) (fin := g1 pr q) (f := 20) Rd O M6 (fun r hr => ?offs) hp6 htl hcod6 (.head _) (ws := List.replicate q 1) (rep_blanks q tk6) (fun z hz => by rw [(List.mem_replicate.mp hz).2]; omega) (by rw [List.length_replicate]; omega) (by have := G.pr2; omega) (by decide) rfl hqm.2 B F22 X N23 T rfl rfl (by k_room) (by k_units) ?_
      case offs =>
        rcases List.mem_append.mp hr with hr | hr
        · simp only [List.mem_cons, List.not_mem_nil, or_false] at hr
          rcases hr with rfl | rfl | rfl | rfl | rfl <;> assumption
        · exact hK r hr
      intro U H C hv cv kH kC blk7 p7 h24 tk24 hhv hcv hp7 hcod7 M7 hUHC ne24 F24 N24
      clear F22 N22 N23
      try clear F21 N21
      simp only [List.cons_append, List.nil_append, List.append_assoc] at N24
      (try dsimp only)
      ((repeat' ((fail_if_success (with_reducible show wpAny _ _ (binaryOp Operator.Add _ _) _ _ _)); (first | (k_unfold; (try dsimp only)) | ((with_reducible first | show wpAny _ _ (exec _ _) _ _ _ | show wpAny _ _ (execs _ _) _ _ _); k_fold) | (k_end; wrow_close) | walk1 | (dsimp only; walk1) | (leave1; (try dsimp only))))) <;> (repeat (k_unfold; (try dsimp only))))
      rename Fr _ _ _ _ => F25
      rename News _ _ _ _ => N25
      have hll : hv.length ≤ 20 ∧ lv.length ≤ 20 ∧ cv.length ≤ 20 ∧ av.length ≤ 20 := by
        have h1 := lefts_le pr qs (i + 1)
        have h2 := alones_le pr qs (i + 1)
        rw [lefts_step hq, List.length_append] at h1
        rw [alones_step hq, List.length_append] at h2
        have h3 := hhv.length
        have h4 := hcv.length
        have h5 := hlv.length
        have h6 := hav.length
        rw [List.length_map] at h3 h4 h5 h6
        have := G.ll.2
        have := G.al.1
        omega
      refine add_new F25 N25 (l := Lf) (b := H) (by k_mem) (by k_mem) (by omega) (fun Lf2 h26 F26 N26 ne26 => ?_)
      clear F25 N25
      try clear F24 N24
      (try dsimp only)
      ((repeat' ((fail_if_success (with_reducible show wpAny _ _ (binaryOp Operator.Add _ _) _ _ _)); (first | (k_unfold; (try dsimp only)) | ((with_reducible first | show wpAny _ _ (exec _ _) _ _ _ | show wpAny _ _ (execs _ _) _ _ _); k_fold) | (k_end; wrow_close) | walk1 | (dsimp only; walk1) | (leave1; (try dsimp only))))) <;> (repeat (k_unfold; (try dsimp only))))
      rename Fr _ _ _ _ => F27
      rename News _ _ _ _ => N27
      refine add_new F27 N27 (l := Al) (b := C) (by k_mem) (by k_mem) (by omega) (fun Al2 h28 F28 N28 ne28 => ?_)
      clear F27 N27
      try clear F26 N26
      (try dsimp only)
      ((repeat' ((fail_if_success (with_reducible show Left _)); (first | (k_unfold; (try dsimp only)) | ((with_reducible first | show wpAny _ _ (exec _ _) _ _ _ | show wpAny _ _ (execs _ _) _ _ _); k_fold) | (k_end; wrow_close) | walk1 | (dsimp only; walk1) | (leave1; (try dsimp only))))) <;> (repeat (k_unfold; (try dsimp only))))
      (try dsimp only)
      rename Fr _ _ _ _ => F29
      rename News _ _ _ _ => N29
      unfold Left
      have hL2 : Lf2 ∉ a.adrs ++ adr := not_adrs M7 Rd (fun r hr => ne26 r (mem_skip [(U, _), (H, _), (C, _), (P1, _), (I, _), (Lf, _), (Al, _), (P, _)] (List.mem_append_right _ hr)))
      have hA2 : Al2 ∉ a.adrs ++ adr := not_adrs M7 Rd (fun r hr => ne28 r (mem_skip [(Lf2, _), (U, _), (H, _), (C, _), (P1, _), (I, _), (Lf, _), (Al, _), (P, _)] (List.mem_append_right _ hr)))
      refine ⟨_, _, _, (Lf2, listOf (lv ++ hv).toArray 0) :: (Al2, listOf (av ++ cv).toArray 0) :: (P, listOf its.toArray kP) :: (K ++ blk7), rfl, F29, ?_, ?_, p7, blk7, Lf2, lv ++ hv, 0, Al2, av ++ cv, 0, some (.str (blank q) tz), some (.ref H), some (.ref C), hp7, hcod7, M7, ?_, ?_, hL2, hA2, fun r hr => ne28 r (mem_skip [(Lf2, _), (U, _), (H, _), (C, _), (P1, _), (I, _), (Lf, _), (Al, _), (P, _)] (List.mem_append_left _ hr)), rfl, ?_⟩
      · intro r hr
        rcases List.mem_append.mp hr with hr | hr
        · rcases List.mem_cons.mp hr with rfl | hr
          · exact N29 _ (.tail _ (.head _))
          · rcases List.mem_cons.mp hr with rfl | hr
            · exact N29 _ (.head _)
            · exact N29 r (mem_skip [(Al2, _), (Lf2, _), (U, _), (H, _), (C, _), (P1, _), (I, _), (Lf, _), (Al, _)] hr)
        · rw [List.mem_singleton.mp hr]
          exact N29 _ (mem_skip [(Al2, _), (Lf2, _), (U, _), (H, _), (C, _), (P1, _)] (.head _))
      · refine List.forall_mem_cons.mpr ⟨(ne26 (I, oI) (by k_mem)).symm, List.forall_mem_cons.mpr ⟨(ne28 (I, oI) (by k_mem)).symm, fun r hr => ?_⟩⟩
        rcases List.mem_cons.mp hr with rfl | hr
        · exact hI _ (.tail _ (.tail _ (.head _)))
        · rcases List.mem_append.mp hr with hr | hr
          · exact hI r (.tail _ (.tail _ (.tail _ (List.mem_append_left _ hr))))
          · exact of_adrs M7 Rd hIM r hr
      · rw [lefts_step hq, List.map_append]; exact strs_app hlv hhv
      · rw [alones_step hq, List.map_append]; exact strs_app hav hcv
      · (intro y; unfold gmm; (rcases Classical.em (y = "total") with rfl | h0); exact rfl; (rcases Classical.em (y = "left") with rfl | h1); exact rfl; (rcases Classical.em (y = "alone") with rfl | h2); exact rfl; (rcases Classical.em (y = "piece") with rfl | h3); exact rfl; (rcases Classical.em (y = "held") with rfl | h4); exact rfl; (rcases Classical.em (y = "changed") with rfl | h5); exact rfl; (rcases Classical.em (y = "together") with rfl | h6); exact rfl; (rcases Classical.em (y = "k") with rfl | h7); exact rfl; (rcases Classical.em (y = "first") with rfl | h8); exact rfl; (rcases Classical.em (y = "machine") with rfl | h9); exact rfl; (rcases Classical.em (y = "pieces") with rfl | h10); exact rfl; (rcases Classical.em (y = "prime") with rfl | h11); exact rfl; (rcases Classical.em (y = "begin") with rfl | h12); exact rfl; (rcases Classical.em (y = "lead") with rfl | h13); exact rfl; (rcases Classical.em (y = "piled") with rfl | h14); exact rfl; (try simp only [if_neg h0, if_neg h1, if_neg h2, if_neg h3, if_neg h4, if_neg h5, if_neg h6, if_neg h7, if_neg h8, if_neg h9, if_neg h10, if_neg h11, if_neg h12, if_neg h13, if_neg h14]); (first | done | exact rfl | (show List.lookup y (_ :: _) = none; simp only [List.lookup, beq_eq_false_iff_ne.mpr h0, beq_eq_false_iff_ne.mpr h1, beq_eq_false_iff_ne.mpr h2, beq_eq_false_iff_ne.mpr h3, beq_eq_false_iff_ne.mpr h4, beq_eq_false_iff_ne.mpr h5, beq_eq_false_iff_ne.mpr h6, beq_eq_false_iff_ne.mpr h7, beq_eq_false_iff_ne.mpr h8, beq_eq_false_iff_ne.mpr h9, beq_eq_false_iff_ne.mpr h10, beq_eq_false_iff_ne.mpr h11, beq_eq_false_iff_ne.mpr h12, beq_eq_false_iff_ne.mpr h13, beq_eq_false_iff_ne.mpr h14]) | (simp only [List.lookup, beq_eq_false_iff_ne.mpr h0, beq_eq_false_iff_ne.mpr h1, beq_eq_false_iff_ne.mpr h2, beq_eq_false_iff_ne.mpr h3, beq_eq_false_iff_ne.mpr h4, beq_eq_false_iff_ne.mpr h5, beq_eq_false_iff_ne.mpr h6, beq_eq_false_iff_ne.mpr h7, beq_eq_false_iff_ne.mpr h8, beq_eq_false_iff_ne.mpr h9, beq_eq_false_iff_ne.mpr h10, beq_eq_false_iff_ne.mpr h11, beq_eq_false_iff_ne.mpr h12, beq_eq_false_iff_ne.mpr h13, beq_eq_false_iff_ne.mpr h14]; done)))
    case done =>
      intro m₁ news₁ h6 tk6 hJ F17 N17
      obtain ⟨p6, blk6, Lf, lv, kL, Al, av, kA, pv, hv6, cv6, hp6, hcod6, M6, hlv, hav, hLf, hAl, hAK, rfl, hm⟩ := hJ
      rw [hits, List.take_length] at hlv hav
      replace F17 := Fr.congr F17 hm
      try clear F16 N16
      have hll : lv.length = (lefts pr qs).length := by rw [hlv.length, List.length_map]
      have hl0 := G.ll
      unfold gmm at F17
      (try dsimp only)
      ((repeat' ((fail_if_success (with_reducible show wpAny _ _ (call (Value.builtin "len") _) _ _ _)); (first | (k_unfold; (try dsimp only)) | ((with_reducible first | show wpAny _ _ (exec _ _) _ _ _ | show wpAny _ _ (execs _ _) _ _ _); k_fold) | (k_end; wrow_close) | walk1 | (dsimp only; walk1) | (leave1; (try dsimp only))))) <;> (repeat (k_unfold; (try dsimp only))))
      rename Fr _ _ _ _ => F18
      rename News _ _ _ _ => N18
      refine len_list (News.isList N18 (.head _)) (by rw [List.size_toArray, hll]; omega) ?_
      rw [List.size_toArray, hll]
      (try dsimp only)
      obtain ⟨b, hb⟩ : ∃ b : Nat, b = (bg % ((lefts pr qs).length : Int)).toNat := ⟨_, rfl⟩
      have hb2 : b < (lefts pr qs).length := by
        have h1 := Int.emod_lt_of_pos bg (show (0 : Int) < ((lefts pr qs).length : Int) by omega)
        have h2 := Int.emod_nonneg bg (show ((lefts pr qs).length : Int) ≠ 0 by omega)
        omega
      have hbe : bg.fmod ((lefts pr qs).length : Int) = (b : Int) := by
        rw [Int.fmod_eq_emod_of_nonneg _ (by omega)]
        have h2 := Int.emod_nonneg bg (show ((lefts pr qs).length : Int) ≠ 0 by omega)
        omega
      ((repeat' ((fail_if_success (with_reducible show wpAny _ _ (subscriptTail _ _ (Value.ref _) (Value.ref _)) _ _ _)); (first | ((with_reducible show wpAny _ _ (binaryOp Operator.Mod _ _) _ _ _); refine mod_int' (by omega) ?_; rw [hbe]) | (k_unfold; (try dsimp only)) | ((with_reducible first | show wpAny _ _ (exec _ _) _ _ _ | show wpAny _ _ (execs _ _) _ _ _); k_fold) | (k_end; wrow_close) | walk1 | (dsimp only; walk1) | (leave1; (try dsimp only))))) <;> (repeat (k_unfold; (try dsimp only))))
      rename Fr _ _ _ _ => F19
      rename News _ _ _ _ => N19
      refine' kms_slice_lit (zs := lv.drop b) F19 N19 ?ul ?up ?uq ?ue ?_ ?us ?ut ?uz
      (case ul => kmk_list); (case up => kmk_part); (case uq => kmk_part); (case us => with_unfolding_all rfl); (case ut => kmk_pure); (case uz => (rw [List.size_toArray, sizeLine_eq]; omega))
      (case ue => exact pick_from (by omega))
      intro D1 h20 F20 N20 l20
      clear F19 N19
      try clear F17 N17
      (try dsimp only)
      ((repeat' ((fail_if_success (with_reducible show wpAny _ _ (subscriptTail _ _ (Value.ref _) (Value.ref _)) _ _ _)); (first | (k_unfold; (try dsimp only)) | ((with_reducible first | show wpAny _ _ (exec _ _) _ _ _ | show wpAny _ _ (execs _ _) _ _ _); k_fold) | (k_end; wrow_close) | walk1 | (dsimp only; walk1) | (leave1; (try dsimp only))))) <;> (repeat (k_unfold; (try dsimp only))))
      rename Fr _ _ _ _ => F21
      rename News _ _ _ _ => N21
      refine' kms_slice_lit (zs := lv.take b) F21 N21 ?vl ?vp ?vq ?ve ?_ ?vs ?vt ?vz
      (case vl => kmk_list); (case vp => kmk_part); (case vq => kmk_part); (case vs => with_unfolding_all rfl); (case vt => kmk_pure); (case vz => (rw [List.size_toArray, sizeLine_eq]; omega))
      (case ve => exact pick_to (by omega))
      intro D2 h22 F22 N22 l22
      clear F21 N21
      try clear F20 N20
      (try dsimp only)
      ((repeat' ((fail_if_success (with_reducible show wpAny _ _ (binaryOp Operator.Add _ _) _ _ _)); (first | (k_unfold; (try dsimp only)) | ((with_reducible first | show wpAny _ _ (exec _ _) _ _ _ | show wpAny _ _ (execs _ _) _ _ _); k_fold) | (k_end; wrow_close) | walk1 | (dsimp only; walk1) | (leave1; (try dsimp only))))) <;> (repeat (k_unfold; (try dsimp only))))
      rename Fr _ _ _ _ => F23
      rename News _ _ _ _ => N23
      have hdt : (lv.drop b).length + (lv.take b).length ≤ 20 := by rw [List.length_drop, List.length_take]; omega
      refine add_new F23 N23 (l := D1) (b := D2) (by k_mem) (by k_mem) (by omega) (fun P2 h24 F24 N24 ne24 => ?_)
      clear F23 N23
      try clear F22 N22
      (try dsimp only)
      ((repeat' ((fail_if_success (with_reducible show wpAny _ _ (call (Value.ref 188) _) _ _ _)); (first | (k_unfold; (try dsimp only)) | ((with_reducible first | show wpAny _ _ (exec _ _) _ _ _ | show wpAny _ _ (execs _ _) _ _ _); k_fold) | (k_end; wrow_close) | walk1 | (dsimp only; walk1) | (leave1; (try dsimp only))))) <;> (repeat (k_unfold; (try dsimp only))))
      rename Fr _ _ _ _ => F25
      rename News _ _ _ _ => N25
      have hP2 : P2 ∉ a.adrs ++ adr := not_adrs M6 Rd (fun r hr => ne24 r (mem_skip [(D2, _), (D1, _), (Lf, _), (Al, _), (P, _)] (List.mem_append_right _ hr)))
      have N26 := cb_drop (news := ([(P2, listOf (lv.drop b ++ lv.take b).toArray 0), (Al, listOf (List.toArray av) kA), (P, listOf its.toArray kP)] ++ K) ++ blk6) N25 (fun q hq => ?sub)
      case sub =>
        rw [List.append_assoc] at hq
        rcases List.mem_append.mp hq with hq | hq
        · simp only [List.mem_cons, List.not_mem_nil, or_false] at hq
          rcases hq with rfl | rfl | rfl <;> k_mem
        · exact mem_skip [(P2, _), (D2, _), (D1, _), (Lf, _), (Al, _), (P, _)] hq
      have hg2 := g2_end G b
      have hrot : StrsAre (lv.drop b ++ lv.take b) ((rot (lefts pr qs) b).map blank) := by
        unfold rot
        rw [List.map_append, List.map_drop, List.map_take]
        exact strs_app (strs_drop hlv b) (strs_take hlv b)
      refine chg_use (aa := [(P2, listOf (lv.drop b ++ lv.take b).toArray 0), (Al, listOf (List.toArray av) kA), (P, listOf its.toArray kP)] ++ K) (fin := g2 pr qs b) (f := 100) Rd O M6 (fun r hr => ?offs) hp6 htl hcod6 (.head _) (ws := rot (lefts pr qs) b) hrot (fun z hz => by have := G.l5 z (rot_mem hz); omega) (by rw [rot_len]; omega) (by have := G.pr2; omega) (by decide) rfl hg2.1 B F25 X N26 T rfl rfl (by k_room) (by k_units) ?_
      case offs =>
        rcases List.mem_append.mp hr with hr | hr
        · simp only [List.mem_cons, List.not_mem_nil, or_false] at hr
          rcases hr with rfl | rfl | rfl <;> assumption
        · exact hK r hr
      intro U H C hv cv kH kC blk7 p7 h27 tk27 hhv hcv hp7 hcod7 M7 hUHC ne27 F27 N27
      clear F25 N25 N26
      try clear F24 N24
      simp only [List.cons_append, List.nil_append, List.append_assoc] at N27
      (try dsimp only)
      ((repeat' ((fail_if_success (with_reducible show wpAny _ _ (exec (Stmt.For _ _ _ _ _) _) _ _ _)); (first | (k_unfold; (try dsimp only)) | ((with_reducible first | show wpAny _ _ (exec _ _) _ _ _ | show wpAny _ _ (execs _ _) _ _ _); k_fold) | (k_end; wrow_close) | walk1 | (dsimp only; walk1) | (leave1; (try dsimp only))))) <;> (repeat (k_unfold; (try dsimp only))))
      rename Fr _ _ _ _ => F28
      rename News _ _ _ _ => N28
      have F29 : Fr g L' _ (gmm a.x P pr tpr (b : Int) _ xl xp (some (.int (tot : Int) t13)) (some (.ref Lf)) (some (.ref Al)) pv (some (.ref H)) cv6 (some (.ref C)) none none) := Fr.congr F28 (by (intro y; unfold gmm; (rcases Classical.em (y = "total") with rfl | h0); exact rfl; (rcases Classical.em (y = "left") with rfl | h1); exact rfl; (rcases Classical.em (y = "alone") with rfl | h2); exact rfl; (rcases Classical.em (y = "piece") with rfl | h3); exact rfl; (rcases Classical.em (y = "held") with rfl | h4); exact rfl; (rcases Classical.em (y = "changed") with rfl | h5); exact rfl; (rcases Classical.em (y = "together") with rfl | h6); exact rfl; (rcases Classical.em (y = "k") with rfl | h7); exact rfl; (rcases Classical.em (y = "first") with rfl | h8); exact rfl; (rcases Classical.em (y = "machine") with rfl | h9); exact rfl; (rcases Classical.em (y = "pieces") with rfl | h10); exact rfl; (rcases Classical.em (y = "prime") with rfl | h11); exact rfl; (rcases Classical.em (y = "begin") with rfl | h12); exact rfl; (rcases Classical.em (y = "lead") with rfl | h13); exact rfl; (rcases Classical.em (y = "piled") with rfl | h14); exact rfl; (try simp only [if_neg h0, if_neg h1, if_neg h2, if_neg h3, if_neg h4, if_neg h5, if_neg h6, if_neg h7, if_neg h8, if_neg h9, if_neg h10, if_neg h11, if_neg h12, if_neg h13, if_neg h14]); (first | done | exact rfl | (show List.lookup y (_ :: _) = none; simp only [List.lookup, beq_eq_false_iff_ne.mpr h0, beq_eq_false_iff_ne.mpr h1, beq_eq_false_iff_ne.mpr h2, beq_eq_false_iff_ne.mpr h3, beq_eq_false_iff_ne.mpr h4, beq_eq_false_iff_ne.mpr h5, beq_eq_false_iff_ne.mpr h6, beq_eq_false_iff_ne.mpr h7, beq_eq_false_iff_ne.mpr h8, beq_eq_false_iff_ne.mpr h9, beq_eq_false_iff_ne.mpr h10, beq_eq_false_iff_ne.mpr h11, beq_eq_false_iff_ne.mpr h12, beq_eq_false_iff_ne.mpr h13, beq_eq_false_iff_ne.mpr h14]) | (simp only [List.lookup, beq_eq_false_iff_ne.mpr h0, beq_eq_false_iff_ne.mpr h1, beq_eq_false_iff_ne.mpr h2, beq_eq_false_iff_ne.mpr h3, beq_eq_false_iff_ne.mpr h4, beq_eq_false_iff_ne.mpr h5, beq_eq_false_iff_ne.mpr h6, beq_eq_false_iff_ne.mpr h7, beq_eq_false_iff_ne.mpr h8, beq_eq_false_iff_ne.mpr h9, beq_eq_false_iff_ne.mpr h10, beq_eq_false_iff_ne.mpr h11, beq_eq_false_iff_ne.mpr h12, beq_eq_false_iff_ne.mpr h13, beq_eq_false_iff_ne.mpr h14]; done))))
      subst hKe
      have N29 := cb_drop (news := ((H, listOf (List.toArray hv) kH) :: (Al, listOf (List.toArray av) kA) :: (C, listOf (List.toArray cv) kC) :: (P, listOf its.toArray kP) :: ((bL ++ bP) ++ blk7)) ++ (T3 ++ T4)) N28 (fun q hq => ?sub)
      case sub =>
        rcases List.mem_append.mp hq with hq | hq
        · rcases List.mem_cons.mp hq with rfl | hq
          · k_mem
          · rcases List.mem_cons.mp hq with rfl | hq
            · k_mem
            · rcases List.mem_cons.mp hq with rfl | hq
              · k_mem
              · rcases List.mem_cons.mp hq with rfl | hq
                · k_mem
                · refine mem_skip [(U, _), (H, _), (C, _), (P2, _), (Al, _), (P, _)] ?_
                  rcases List.mem_append.mp hq with hq | hq
                  · exact List.mem_append_left _ (List.mem_append_left _ hq)
                  · exact List.mem_append_right _ hq
        · exact mem_skip [(U, _), (H, _), (C, _), (P2, _), (Al, _), (P, _)] (List.mem_append_left _ (List.mem_append_right _ hq))
      clear F28 N28
      try clear F27 N27
      refine wpAny_For ?_
      unfold gmm at F29
      ((repeat' ((fail_if_success (with_reducible show wpAny _ _ (pyIter _) _ _ _)); (first | (k_unfold; (try dsimp only)) | ((with_reducible first | show wpAny _ _ (exec _ _) _ _ _ | show wpAny _ _ (execs _ _) _ _ _); k_fold) | (k_end; wrow_close) | walk1 | (dsimp only; walk1) | (leave1; (try dsimp only))))) <;> (repeat (k_unfold; (try dsimp only))))
      rename IsRange _ _ _ _ _ _ _ _ => R30
      rename Fr _ _ _ _ => F30
      rename News _ _ _ _ => N30
      have hsepM : ∀ x, x ∈ a.adrs ++ adr → ∃ q ∈ blk7, q.1 = x := fun x hx => by
        have hx : x ∈ [a.x, a.dx, a.pb, a.st, a.std] ++ adr := hx
        rw [← M7.adrs Rd] at hx
        obtain ⟨q, hq, e⟩ := List.mem_map.mp hx
        exact ⟨q, hq, e⟩
      have offT : ∀ q ∈ (H, listOf (List.toArray hv) kH) :: (Al, listOf (List.toArray av) kA) :: (C, listOf (List.toArray cv) kC) :: (P, listOf its.toArray kP) :: ((bL ++ bP) ++ blk7), ∀ r ∈ T3 ++ T4, q.1 ≠ r.1 := by
        have hrK : ∀ r ∈ T3 ++ T4, r ∈ (bL ++ bP) ++ (T3 ++ T4) := fun r hr => List.mem_append_right _ hr
        refine List.forall_mem_cons.mpr ⟨fun r hr => (ne27 r (List.mem_append_right _ (hrK r hr))).2.1.symm, List.forall_mem_cons.mpr ⟨fun r hr => (hAK r (hrK r hr)).symm, List.forall_mem_cons.mpr ⟨fun r hr => (ne27 r (List.mem_append_right _ (hrK r hr))).2.2.symm, List.forall_mem_cons.mpr ⟨hT _ (.head _), fun q hq r hr => ?_⟩⟩⟩⟩
        rcases List.mem_append.mp hq with hq | hq
        · exact hT q (.tail _ hq) r hr
        · exact of_adrs M7 Rd (hK r (hrK r hr)) q hq
      obtain ⟨tB, F31⟩ : ∃ tB, Fr g L' _ (gmm a.x P pr tpr (b : Int) tB xl xp (some (.int (tot : Int) t13)) (some (.ref Lf)) (some (.ref Al)) pv (some (.ref H)) cv6 (some (.ref C)) none none) := ⟨_, F30⟩
      clear F30
      have hpw : ∀ k, k < 5 → 1 ≤ pr ^ k ∧ pr ^ k < 1000000000 := fun k hk => by
        have h1 := G.pr2
        exact ⟨Nat.one_le_pow _ _ (by omega), Nat.lt_of_le_of_lt (Nat.pow_le_pow_left (by omega : pr ≤ 20) k) (Nat.lt_of_le_of_lt (Nat.pow_le_pow_right (by omega) (by omega : k ≤ 5)) (by decide))⟩
      refine' for_range (env := envOf _ _ L' 207 _) (n := 5) rfl R30 ?hsm ?hn rfl rfl rfl F31 N30 (G2J ((H, listOf (List.toArray hv) kH) :: (Al, listOf (List.toArray av) kA) :: (C, listOf (List.toArray cv) kC) :: (P, listOf its.toArray kP) :: ((bL ++ bP) ++ blk7)) (gmm a.x P pr tpr (b : Int) tB xl xp (some (.int (tot : Int) t13)) (some (.ref Lf)) (some (.ref Al)) pv (some (.ref H)) cv6 (some (.ref C)))) ?h0 ?turn ?done
      case hsm => decide
      case hn => decide
      case h0 => exact ⟨T3, T4, none, none, S3, S4, offT, rfl, fun y => rfl⟩
      case turn =>
        intro i t8 m₁ news₁ h8 tk8 I oI hi8 hJ hI F32 N32
        obtain ⟨U3, U4, kv, fv, SU3, SU4, offU, rfl, hm2⟩ := hJ
        rw [Int.zero_add] at F32
        have F33 : Fr g L' h8 (gmm a.x P pr tpr (b : Int) tB xl xp (some (.int (tot : Int) t13)) (some (.ref Lf)) (some (.ref Al)) pv (some (.ref H)) cv6 (some (.ref C)) (some (.int (i : Int) t8)) fv) := Fr.congr F32 (fun y => by
          (try dsimp only); rw [hm2]; unfold gmm; by_cases e : y = "k"
          · subst e; rfl
          · simp only [if_neg e])
        have N33 : News g L' h8 ((I, oI) :: (((H, listOf (List.toArray hv) kH) :: (Al, listOf (List.toArray av) kA) :: (C, listOf (List.toArray cv) kC) :: (P, listOf its.toArray kP) :: ((bL ++ bP) ++ blk7)) ++ (U3 ++ U4))) := fun q hq => by
          rcases List.mem_cons.mp hq with rfl | hq
          · exact N32 _ (List.mem_append_right _ (.head _))
          · exact N32 q (List.mem_append_left _ hq)
        clear F32 N32
        try clear F31 N30
        simp only [List.cons_append] at N33
        unfold gmm at F33
        (try dsimp only); (try k_fold)
        ((repeat' ((fail_if_success (with_reducible show wpAny _ _ (call (Value.builtin "list.count") _) _ _ _)); (first | (k_unfold; (try dsimp only)) | ((with_reducible first | show wpAny _ _ (exec _ _) _ _ _ | show wpAny _ _ (execs _ _) _ _ _); k_fold) | (k_end; wrow_close) | walk1 | (dsimp only; walk1) | (leave1; (try dsimp only))))) <;> (repeat (k_unfold; (try dsimp only))))
        rename Fr _ _ _ _ => F34
        rename News _ _ _ _ => N34
        refine count_list_strs (News.isList N34 (by k_mem)) hhv ?_
        rw [show (i : Int) + 1 = ((i + 1 : Nat) : Int) from rfl, lit_s, Tx_mul1, count_blanks, g2_held G b hi8]
        (try dsimp only)
        ((repeat' ((fail_if_success (with_reducible show wpAny _ _ (execs (Stmt.If (Expr.BoolOp _ _ _) _ _ _ :: _) _) _ _ _)); (first | ((with_reducible show wpAny _ _ (binaryOp Operator.Pow _ _) _ _ _); refine pow_n (Nat.lt_trans G.pr2.2 (by decide)) (Nat.le_trans (Nat.le_of_lt hi8) (by decide)) ?_) | ((with_reducible show wpAny _ _ (binaryOp Operator.FloorDiv _ _) _ _ _); refine fdiv_n (hpw i hi8).1 (hpw i hi8).2 ?_) | ((with_reducible show wpAny _ _ (binaryOp Operator.Mod _ _) _ _ _); refine mod_st (Nat.lt_of_lt_of_le (by decide) G.pr2.1) (Nat.lt_trans G.pr2.2 (by decide)) ?_) | ((with_reducible show wpAny _ _ (compareOp CmpOp.NotEq _ _) _ _ _); refine ne_eq rfl ?_) | (k_unfold; (try dsimp only)) | ((with_reducible first | show wpAny _ _ (exec _ _) _ _ _ | show wpAny _ _ (execs _ _) _ _ _); k_fold) | (k_end; wrow_close) | walk1 | (dsimp only; walk1) | (leave1; (try dsimp only))))) <;> (repeat (k_unfold; (try dsimp only))))
        (try dsimp only)
        ((repeat' ((fail_if_success (with_reducible show wpAny _ _ (call (Value.builtin "list.count") _) _ _ _)); (fail_if_success (with_reducible show Left _)); (first | ((with_reducible show wpAny _ _ (binaryOp Operator.Pow _ _) _ _ _); refine pow_n (Nat.lt_trans G.pr2.2 (by decide)) (Nat.le_trans (Nat.le_of_lt hi8) (by decide)) ?_) | (k_unfold; (try dsimp only)) | ((with_reducible first | show wpAny _ _ (exec _ _) _ _ _ | show wpAny _ _ (execs _ _) _ _ _); k_fold) | (k_end; wrow_close) | walk1 | (dsimp only; walk1) | (leave1; (try dsimp only))))) <;> (repeat (k_unfold; (try dsimp only))))
        rotate_left
        iterate 2
          (try dsimp only)
          rename Fr _ _ _ _ => F35
          rename News _ _ _ _ => N35
          unfold Left
          exact ⟨_, _, _, ((H, listOf (List.toArray hv) kH) :: (Al, listOf (List.toArray av) kA) :: (C, listOf (List.toArray cv) kC) :: (P, listOf its.toArray kP) :: ((bL ++ bP) ++ blk7)) ++ (U3 ++ U4), rfl, F35, fun q hq => (List.mem_append.mp hq).elim (fun h => N35 q (.tail _ h)) (fun h => by rw [List.mem_singleton.mp h]; exact N35 _ (.head _)), hI, U3, U4, some (.int (i : Int) t8), fv, SU3, SU4, offU, rfl, fun y => rfl⟩
        rename ((0 : Int) < (i : Int)) => hi0
        rename (((pr ^ i : Nat) : Int) ≤ (tot : Int)) => hpt
        obtain ⟨e1, e2, e3, e4⟩ := G.pas i (List.mem_range.mpr hi8) (by omega) (by omega)
        have hsz1 : 1 ≤ pr ^ i ∧ pr ^ i < 1000 := ⟨(hpw i hi8).1, by have := G.sum.2; omega⟩
        rename Fr _ _ _ _ => F35
        rename News _ _ _ _ => N35
        refine count_list_strs (News.isList N35 (by k_mem)) hav ?_
        rw [lit_s, Tx_mul1, count_blanks]
        (try dsimp only)
        ((repeat' ((fail_if_success (with_reducible show wpAny _ _ (call (Value.ref 202) _) _ _ _)); (first | ((with_reducible show wpAny _ _ (binaryOp Operator.Pow _ _) _ _ _); refine pow_n (Nat.lt_trans G.pr2.2 (by decide)) (Nat.le_trans (Nat.le_of_lt hi8) (by decide)) ?_) | (k_unfold; (try dsimp only)) | ((with_reducible first | show wpAny _ _ (exec _ _) _ _ _ | show wpAny _ _ (execs _ _) _ _ _); k_fold) | (k_end; wrow_close) | walk1 | (dsimp only; walk1) | (leave1; (try dsimp only))))) <;> (repeat (k_unfold; (try dsimp only))))
        rename Fr _ _ _ _ => F36
        rename News _ _ _ _ => N36
        have offI : ∀ q ∈ (I, oI) :: ((H, listOf (List.toArray hv) kH) :: (Al, listOf (List.toArray av) kA) :: (C, listOf (List.toArray cv) kC) :: (P, listOf its.toArray kP) :: ((bL ++ bP) ++ blk7)), ∀ r ∈ U3 ++ U4, q.1 ≠ r.1 := List.forall_mem_cons.mpr ⟨fun r hr => (hI r (List.mem_append_right _ hr)).symm, offU⟩
        refine pas_use (aa := (I, oI) :: ((H, listOf (List.toArray hv) kH) :: (Al, listOf (List.toArray av) kA) :: (C, listOf (List.toArray cv) kC) :: (P, listOf its.toArray kP) :: ((bL ++ bP) ++ blk7))) WL SU3 SU4 (fun q hq => mem_skip [(I, _), (H, _), (Al, _), (C, _), (P, _)] (List.mem_append_left _ (List.mem_append_left _ hq))) offI hsz1.1 hsz1.2 G.cl.1 e3 B F36 X N36 T rfl rfl (by k_room) (by k_units) ?_
        intro V3 V4 t37 h37 tk37 SV3 SV4 offV F37 N37
        clear F36 N36
        try clear F35 N35
        try clear F34 N34
        try clear F33 N33
        simp only [List.cons_append] at N37
        (try dsimp only)
        ((repeat' ((fail_if_success (with_reducible show wpAny _ _ (call (Value.builtin "list.count") _) _ _ _)); (first | ((with_reducible show wpAny _ _ (compareOp CmpOp.NotEq _ _) _ _ _); refine ne_eq e1 ?_) | (k_unfold; (try dsimp only)) | ((with_reducible first | show wpAny _ _ (exec _ _) _ _ _ | show wpAny _ _ (execs _ _) _ _ _); k_fold) | (k_end; wrow_close) | walk1 | (dsimp only; walk1) | (leave1; (try dsimp only))))) <;> (repeat (k_unfold; (try dsimp only))))
        rename Fr _ _ _ _ => F38
        rename News _ _ _ _ => N38
        refine count_list_strs (News.isList N38 (by k_mem)) hcv ?_
        rw [lit_s, Tx_mul1, count_blanks, g2_tog G]
        (try dsimp only)
        ((repeat' ((fail_if_success (with_reducible show wpAny _ _ (call (Value.ref 202) _) _ _ _)); (first | ((with_reducible show wpAny _ _ (binaryOp Operator.Pow _ _) _ _ _); refine pow_n (Nat.lt_trans G.pr2.2 (by decide)) (Nat.le_trans (Nat.le_of_lt hi8) (by decide)) ?_) | (k_unfold; (try dsimp only)) | ((with_reducible first | show wpAny _ _ (exec _ _) _ _ _ | show wpAny _ _ (execs _ _) _ _ _); k_fold) | (k_end; wrow_close) | walk1 | (dsimp only; walk1) | (leave1; (try dsimp only))))) <;> (repeat (k_unfold; (try dsimp only))))
        rename Fr _ _ _ _ => F39
        rename News _ _ _ _ => N39
        refine pas_use (aa := (I, oI) :: ((H, listOf (List.toArray hv) kH) :: (Al, listOf (List.toArray av) kA) :: (C, listOf (List.toArray cv) kC) :: (P, listOf its.toArray kP) :: ((bL ++ bP) ++ blk7))) WP SV3 SV4 (fun q hq => mem_skip [(I, _), (H, _), (Al, _), (C, _), (P, _)] (List.mem_append_left _ (List.mem_append_right _ hq))) offV hsz1.1 hsz1.2 G.cl.2 e4 B F39 X N39 T rfl rfl (by k_room) (by k_units) ?_
        intro W3 W4 t40 h40 tk40 SW3 SW4 offW F40 N40
        clear F39 N39
        try clear F38 N38
        try clear F37 N37
        simp only [List.cons_append] at N40
        (try dsimp only)
        ((repeat' ((fail_if_success (with_reducible show Left _)); (first | ((with_reducible show wpAny _ _ (compareOp CmpOp.NotEq _ _) _ _ _); refine ne_eq (by rw [← e2]; exact (Int.natCast_add _ _).symm) ?_) | (k_unfold; (try dsimp only)) | ((with_reducible first | show wpAny _ _ (exec _ _) _ _ _ | show wpAny _ _ (execs _ _) _ _ _); k_fold) | (k_end; wrow_close) | walk1 | (dsimp only; walk1) | (leave1; (try dsimp only))))) <;> (repeat (k_unfold; (try dsimp only))))
        (try dsimp only)
        rename Fr _ _ _ _ => F41
        rename News _ _ _ _ => N41
        unfold Left
        refine ⟨_, _, _, ((H, listOf (List.toArray hv) kH) :: (Al, listOf (List.toArray av) kA) :: (C, listOf (List.toArray cv) kC) :: (P, listOf its.toArray kP) :: ((bL ++ bP) ++ blk7)) ++ (W3 ++ W4), rfl, F41, fun q hq => (List.mem_append.mp hq).elim (fun h => N41 q (.tail _ h)) (fun h => by rw [List.mem_singleton.mp h]; exact N41 _ (.head _)), fun q hq => ?_, W3, W4, some (.int (i : Int) t8), some (.int _ _), SW3, SW4, fun q hq => offW q (.tail _ hq), rfl, by (intro y; unfold gmm; (rcases Classical.em (y = "total") with rfl | h0); exact rfl; (rcases Classical.em (y = "left") with rfl | h1); exact rfl; (rcases Classical.em (y = "alone") with rfl | h2); exact rfl; (rcases Classical.em (y = "piece") with rfl | h3); exact rfl; (rcases Classical.em (y = "held") with rfl | h4); exact rfl; (rcases Classical.em (y = "changed") with rfl | h5); exact rfl; (rcases Classical.em (y = "together") with rfl | h6); exact rfl; (rcases Classical.em (y = "k") with rfl | h7); exact rfl; (rcases Classical.em (y = "first") with rfl | h8); exact rfl; (rcases Classical.em (y = "machine") with rfl | h9); exact rfl; (rcases Classical.em (y = "pieces") with rfl | h10); exact rfl; (rcases Classical.em (y = "prime") with rfl | h11); exact rfl; (rcases Classical.em (y = "begin") with rfl | h12); exact rfl; (rcases Classical.em (y = "lead") with rfl | h13); exact rfl; (rcases Classical.em (y = "piled") with rfl | h14); exact rfl; (try simp only [if_neg h0, if_neg h1, if_neg h2, if_neg h3, if_neg h4, if_neg h5, if_neg h6, if_neg h7, if_neg h8, if_neg h9, if_neg h10, if_neg h11, if_neg h12, if_neg h13, if_neg h14]); (first | done | exact rfl | (show List.lookup y (_ :: _) = none; simp only [List.lookup, beq_eq_false_iff_ne.mpr h0, beq_eq_false_iff_ne.mpr h1, beq_eq_false_iff_ne.mpr h2, beq_eq_false_iff_ne.mpr h3, beq_eq_false_iff_ne.mpr h4, beq_eq_false_iff_ne.mpr h5, beq_eq_false_iff_ne.mpr h6, beq_eq_false_iff_ne.mpr h7, beq_eq_false_iff_ne.mpr h8, beq_eq_false_iff_ne.mpr h9, beq_eq_false_iff_ne.mpr h10, beq_eq_false_iff_ne.mpr h11, beq_eq_false_iff_ne.mpr h12, beq_eq_false_iff_ne.mpr h13, beq_eq_false_iff_ne.mpr h14]) | (simp only [List.lookup, beq_eq_false_iff_ne.mpr h0, beq_eq_false_iff_ne.mpr h1, beq_eq_false_iff_ne.mpr h2, beq_eq_false_iff_ne.mpr h3, beq_eq_false_iff_ne.mpr h4, beq_eq_false_iff_ne.mpr h5, beq_eq_false_iff_ne.mpr h6, beq_eq_false_iff_ne.mpr h7, beq_eq_false_iff_ne.mpr h8, beq_eq_false_iff_ne.mpr h9, beq_eq_false_iff_ne.mpr h10, beq_eq_false_iff_ne.mpr h11, beq_eq_false_iff_ne.mpr h12, beq_eq_false_iff_ne.mpr h13, beq_eq_false_iff_ne.mpr h14]; done)))⟩
        rcases List.mem_append.mp hq with hq | hq
        · exact hI q (List.mem_append_left _ hq)
        · exact (offW (I, oI) (.head _) q hq).symm
      case done =>
        intro m₁ news₁ h8 tk8 hJ F32 N32
        obtain ⟨U3, U4, kv, fv, SU3, SU4, offU, rfl, hm2⟩ := hJ
        replace F32 := Fr.congr F32 hm2
        try clear F31 N30
        simp only [List.cons_append] at N32
        have hal : av.length = (alones pr qs).length := by rw [hav.length, List.length_map]
        have hcl : cv.length = togLen pr qs := by rw [hcv.length, List.length_map, g2_len G]
        have hat := G.al
        unfold gmm at F32
        (try dsimp only)
        ((repeat' ((fail_if_success (with_reducible show wpAny _ _ (call (Value.builtin "len") _) _ _ _)); (first | (k_unfold; (try dsimp only)) | ((with_reducible first | show wpAny _ _ (exec _ _) _ _ _ | show wpAny _ _ (execs _ _) _ _ _); k_fold) | (k_end; wrow_close) | walk1 | (dsimp only; walk1) | (leave1; (try dsimp only))))) <;> (repeat (k_unfold; (try dsimp only))))
        rename Fr _ _ _ _ => F33
        rename News _ _ _ _ => N33
        refine len_list (News.isList N33 (.tail _ (.head _))) (by rw [List.size_toArray, hal]; omega) ?_
        rw [List.size_toArray, hal]
        (try dsimp only)
        ((repeat' ((fail_if_success (with_reducible show wpAny _ _ (call (Value.builtin "len") _) _ _ _)); (first | ((with_reducible show wpAny _ _ (binaryOp Operator.Pow _ _) _ _ _); refine pow_n (Nat.lt_trans G.pr2.2 (by decide)) (by omega) ?_) | (k_unfold; (try dsimp only)) | ((with_reducible first | show wpAny _ _ (exec _ _) _ _ _ | show wpAny _ _ (execs _ _) _ _ _); k_fold) | (k_end; wrow_close) | walk1 | (dsimp only; walk1) | (leave1; (try dsimp only))))) <;> (repeat (k_unfold; (try dsimp only))))
        rename Fr _ _ _ _ => F34
        rename News _ _ _ _ => N34
        refine len_list (News.isList N34 (.tail _ (.tail _ (.head _)))) (by rw [List.size_toArray, hcl]; omega) ?_
        rw [List.size_toArray, hcl]
        (try dsimp only)
        ((repeat' (first | ((with_reducible show wpAny _ _ (binaryOp Operator.Pow _ _) _ _ _); refine pow_n (Nat.lt_trans G.pr2.2 (by decide)) (by omega) ?_) | (k_unfold; (try dsimp only)) | ((with_reducible first | show wpAny _ _ (exec _ _) _ _ _ | show wpAny _ _ (execs _ _) _ _ _); k_fold) | (k_end; wrow_close) | walk1 | (dsimp only; walk1) | (leave1; (try dsimp only)))) <;> (repeat (k_unfold; (try dsimp only))))
        (try dsimp only)
        rename Fr _ _ _ _ => F35
        rename News _ _ _ _ => N35
        rename (_ < _ ∧ _ < _ ∧ _ < _ ∧ _ < _ ∧ _) => lg
        obtain ⟨-, -, -, lg4, lg5⟩ := lg
        have hsep : ∀ q ∈ (P, listOf its.toArray kP) :: (((bL ++ bP) ++ (U3 ++ U4)) ++ blk7), q ∈ (P, listOf its.toArray kP) :: ((bL ++ bP ++ blk7) ++ (U3 ++ U4)) := fun q hq => by
          rcases List.mem_cons.mp hq with rfl | hq
          · exact .head _
          · refine .tail _ ?_
            rcases List.mem_append.mp hq with hq | hq
            · rcases List.mem_append.mp hq with hq | hq
              · exact List.mem_append_left _ (List.mem_append_left _ hq)
              · exact List.mem_append_right _ hq
            · exact List.mem_append_left _ (List.mem_append_right _ hq)
        refine ret _ (_ :: (P, listOf its.toArray kP) :: (((bL ++ bP) ++ (U3 ++ U4)) ++ blk7)) _ _ F35.keep (List.forall_mem_cons.mpr ⟨⟨(N35 _ (.head _)).1, (N35 _ (.head _)).2.2⟩, fun q hq => ?_⟩) ⟨_, _, _, _, U3, U4, blk7, p7, rfl, hp7, hcod7, M7, SU3, SU4, fun q hq => ?_, fun q hq hm => ?_, fun q hq => ?_, rfl⟩
        · have z := N35 q (mem_skip [(_, _), (H, _), (Al, _), (C, _)] (hsep q hq))
          exact ⟨z.1, z.2.2⟩
        · rcases List.mem_cons.mp (hsep q hq) with rfl | hq
          · exact Nat.ne_of_lt lg4
          · exact Nat.ne_of_lt (allLt_mem lg5 q hq)
        · obtain ⟨z, hz, e⟩ := hsepM _ hm
          exact offU z (mem_skip [(H, _), (Al, _), (C, _), (P, _)] (List.mem_append_right _ hz)) q hq e
        · rcases List.mem_cons.mp hq with rfl | hq
          · exact offU _ (by k_mem)
          · exact offU q (mem_skip [(H, _), (Al, _), (C, _), (P, _)] (List.mem_append_left _ hq))
/-- the table of _law_machine, filled -/
noncomputable def mtab (c c2 : Addr) : Array Value := #[rawInt 175, rawInt 4, .ref c, rawInt 179, rawInt 13, .ref c2]
theorem mach_end2 {w : World} {x : Str} {g h : Heap} {L : Addr} {news : List (Addr × Obj)} {x' dx pb st std rd c atl cA cT : Addr} {t1 t2 t3 t4 td tw lt tk tq tt : Tok} {k k2 : Nat} {fd : FuncData} {sl : Array (Option Value)} {oc oA oT : Obj}
    {name qual : Str} {params : Arguments} {body : List Stmt} {scope : Scope} {doc pm ct : Value} {vs : Array Value} (N : News g L h news)
    (m1 : (x', instObj 101 dx) ∈ news)
    (m2 : (dx, dictOf [⟨PyData.keyHash w.params "lineno", .str "lineno" t1, .int 1 lt⟩, ⟨PyData.keyHash w.params "instream", .str "instream" t2, .ref st⟩, ⟨PyData.keyHash w.params "whitespace", .str "whitespace" t3, .str "\n\t\r " tw⟩, ⟨PyData.keyHash w.params "pushback", .str "pushback" t4, .ref pb⟩] 4) ∈ news)
    (m3 : (pb, listOf #[] k) ∈ news) (m4 : (st, ⟨.type "function", some std, .func fd, sl⟩) ∈ news) (m5 : (std, dictOf [⟨PyData.keyHash w.params "read", .str "read" td, .ref rd⟩] 1) ∈ news)
    (m6 : (rd, { cls := .type "function", data := .func (fnX name qual params body scope [("text", cT), ("at", cA)] .none .none doc pm none (.ref c) ct) }) ∈ news) (m7 : (c, oc) ∈ news) (m8 : (atl, listOf #[.int 0 tk] k2) ∈ news) (m9 : (cA, oA) ∈ news) (m10 : (cT, oT) ∈ news)
    (hdef : nestedDef ((hd.heap_1 w.params).lookup 178) 1 = some (params, body, scope)) (hcd : oc.data = .fields vs) (hvs : vs[1]? = some (.str qual tq)) (hA : oA.data = .cell (some (.ref atl))) (hT : oT.data = .cell (some (.str x tt))) (hx : x.length < 100000)
    (o1 : (173 : Nat) < cT) (o2 : cT < cA) (o3 : cA < atl) (o5 : atl < rd) (o6 : rd < st) (o7 : st < std) (o8 : std < dx) (o9 : dx < x') (o10 : x' < pb) (hc0 : (173 : Nat) < c) (hc : ∀ z ∈ [cT, cA, atl, rd, st, std, dx, x', pb], z ≠ c) :
    ∃ a adr RO blk, Reader w a.rd x adr RO ∧ LexA.Ok a adr ∧ Value.ref x' = .ref a.x ∧ MachSt w a RO 1 "\n\t\r " [] 0 blk ∧ (∀ p ∈ blk, p ∈ news) ∧ (∀ p l, RO p l → (c, oc) ∈ l) ∧ 173 ∉ [a.x, a.dx, a.pb, a.st, a.std] ++ adr := by
  have a1 : (173 : Nat) < cT := o1
  have a2 : @LT.lt Nat _ cT cA := o2
  have a3 : @LT.lt Nat _ cA atl := o3
  have a5 : @LT.lt Nat _ atl rd := o5
  have a6 : @LT.lt Nat _ rd st := o6
  have a7 : @LT.lt Nat _ st std := o7
  have a8 : @LT.lt Nat _ std dx := o8
  have a9 : @LT.lt Nat _ dx x' := o9
  have a10 : @LT.lt Nat _ x' pb := o10
  have a0 : @LT.lt Nat _ 173 c := hc0
  obtain ⟨n1, hc⟩ := List.forall_mem_cons.mp hc
  obtain ⟨n2, hc⟩ := List.forall_mem_cons.mp hc
  obtain ⟨n3, hc⟩ := List.forall_mem_cons.mp hc
  obtain ⟨n4, hc⟩ := List.forall_mem_cons.mp hc
  obtain ⟨n5, hc⟩ := List.forall_mem_cons.mp hc
  obtain ⟨n6, hc⟩ := List.forall_mem_cons.mp hc
  obtain ⟨n7, hc⟩ := List.forall_mem_cons.mp hc
  obtain ⟨n8, hc⟩ := List.forall_mem_cons.mp hc
  obtain ⟨n9, hc⟩ := List.forall_mem_cons.mp hc
  refine ⟨⟨x', dx, pb, st, std, rd, t1, t2, t3, t4, td, fd, sl⟩, [rd, c, atl, cA, cT], _, _,
    reader_of w x rd c atl cA cT oc oA oT name qual params body scope doc pm ct vs tq tt hdef hcd hvs hA hT (Nat.ne_of_lt o5) n3 (Nat.ne_of_gt o3) (Nat.ne_of_gt (Nat.lt_trans o2 o3)) hx,
    ?_, rfl, ⟨lt, tw, k, _, [], ⟨Nat.zero_le _, tk, k2, rfl⟩, .nil, rfl⟩, ?_, ?_, ?_⟩
  · refine ⟨neN ?_, neN ?_, neN ?_, neN ?_, neN ?_, neN ?_, neN ?_, ?_, ?_, ?_, ?_, ?_⟩
    all_goals first | ((try dsimp only); omega) | (simp only [List.mem_cons, List.not_mem_nil, or_false, not_or]; refine ⟨?_, ?_, ?_, ?_, ?_⟩ <;> first | assumption | (refine Ne.symm ?_; assumption) | exact (by first | (refine neN (Nat.ne_of_gt ?_); with_reducible ((repeat (first | assumption | exact And.left (by assumption) | exact And.left (And.right (by assumption)) | exact And.right (And.right (by assumption)) | exact And.right (by assumption) | exact And.left (And.right (And.right (by assumption))) | exact And.right (And.right (And.right (by assumption))) | exact And.left (And.right (And.right (And.right (by assumption)))) | exact And.left (And.right (And.right (And.right (And.right (by assumption))))) | refine Nat.lt_trans ?_ (by assumption))); done)) | (refine neN (Nat.ne_of_lt ?_); with_reducible ((repeat (first | assumption | exact And.left (by assumption) | exact And.left (And.right (by assumption)) | exact And.right (And.right (by assumption)) | exact And.right (by assumption) | exact And.left (And.right (And.right (by assumption))) | exact And.right (And.right (And.right (by assumption))) | exact And.left (And.right (And.right (And.right (by assumption)))) | exact And.left (And.right (And.right (And.right (And.right (by assumption))))) | refine Nat.lt_trans ?_ (by assumption))); done)) | omega))
  · exact List.forall_mem_cons.mpr ⟨m1, List.forall_mem_cons.mpr ⟨m2, List.forall_mem_cons.mpr ⟨m3, List.forall_mem_cons.mpr ⟨m4, List.forall_mem_cons.mpr ⟨m5, List.forall_mem_cons.mpr ⟨m6, List.forall_mem_cons.mpr ⟨m7, List.forall_mem_cons.mpr ⟨m8, List.forall_mem_cons.mpr ⟨m9, List.forall_mem_cons.mpr ⟨m10, List.forall_mem_nil _⟩⟩⟩⟩⟩⟩⟩⟩⟩⟩
  · rintro p l ⟨-, tk, k, rfl⟩
    exact .tail _ (.head _)
  · simp only [List.cons_append, List.nil_append, List.mem_cons, List.not_mem_nil, or_false, not_or]
    refine ⟨?_, ?_, ?_, ?_, ?_, ?_, ?_, ?_, ?_, ?_⟩ <;> exact (by first | (refine neN (Nat.ne_of_gt ?_); with_reducible ((repeat (first | assumption | exact And.left (by assumption) | exact And.left (And.right (by assumption)) | exact And.right (And.right (by assumption)) | exact And.right (by assumption) | exact And.left (And.right (And.right (by assumption))) | exact And.right (And.right (And.right (by assumption))) | exact And.left (And.right (And.right (And.right (by assumption)))) | exact And.left (And.right (And.right (And.right (And.right (by assumption))))) | refine Nat.lt_trans ?_ (by assumption))); done)) | (refine neN (Nat.ne_of_lt ?_); with_reducible ((repeat (first | assumption | exact And.left (by assumption) | exact And.left (And.right (by assumption)) | exact And.right (And.right (by assumption)) | exact And.right (by assumption) | exact And.left (And.right (And.right (by assumption))) | exact And.right (And.right (And.right (by assumption))) | exact And.left (And.right (And.right (And.right (by assumption)))) | exact And.left (And.right (And.right (And.right (And.right (by assumption))))) | refine Nat.lt_trans ?_ (by assumption))); done)) | omega)
theorem machine_1 (w : World) (x : Str) (t : Tok) (hx : x.length < 100000) :
   Con w 10 100 178 [.str x t] [(173, tabObj #[])]
     (fun _ v sel' => ∃ a adr RO blk c c2 oc vs tq, Reader w a.rd x adr RO ∧ LexA.Ok a adr ∧ v = .ref a.x ∧ MachSt w a RO 1 "\n\t\r " [] 0 blk ∧ sel' = blk ++ [(173, tabObj (mtab c c2))] ∧ (∀ p l, RO p l → (c, oc) ∈ l) ∧ 173 ∉ [a.x, a.dx, a.pb, a.st, a.std] ++ adr ∧ oc.data = .fields vs ∧ vs[1]? = some (.str "_law_machine.<locals>._law_read_on" tq) ∧ (173 : Nat) < c) := by
  unfold Con
  k_fill
  intro dp un gd outer base g tp tl mean mg mb s R B hg hsz hsel X T hd hu ret
  refine' enter_gc hg hsz hsel X T ?k6 ?k7 ?k8 ?k9 ?kB ?kD ?_ ?c2 ?c3 ?c4
  (case k6 => k_is); (case k7 => k_is); (case k8 => ktr_room); (case k9 => exact BindsTo.of_eq rfl); (case kB => exact rfl); (case kD => decide +kernel); (case c2 => exact rfl); (case c3 => exact rfl); (case c4 => exact rfl)
  k_whole
  intro L' h' tk' cells' F' N' Y' l1
  (try k_lt l1); k_cells Y'; (try simp only [List.cons_append, List.nil_append] at N')
  have codeHd := codeHd_of_K (c := 177) (P := 173) X (by kernel_rfl)
  (try dsimp only); (try k_fold)
  ((repeat' ((fail_if_success (with_reducible show wpAny _ _ (setAttr _ _ _) _ _ _)); (first | (k_unfold; (try dsimp only)) | ((with_reducible first | show wpAny _ _ (exec _ _) _ _ _ | show wpAny _ _ (execs _ _) _ _ _); k_fold) | (k_end; wrow_close) | walk1 | (dsimp only; walk1) | (leave1; (try dsimp only))))) <;> (repeat (k_unfold; (try dsimp only))))
  rename Fr _ _ _ _ => F1
  rename News _ _ _ _ => N1
  refine fn_setattr (pre := []) F1 N1 (fun _ h => nomatch h) (by k_all) ?_
  intro d9 h9 tk9 F9 N9 l9
  simp only [List.nil_append] at N9 l9
  k_lt l9
  clear F1 N1
  (try dsimp only); (try k_fold)
  ((repeat' (first | (k_unfold; (try dsimp only)) | ((with_reducible first | show wpAny _ _ (exec _ _) _ _ _ | show wpAny _ _ (execs _ _) _ _ _); k_fold) | (k_end; wrow_close) | walk1 | (dsimp only; walk1) | (leave1; (try dsimp only)))) <;> (repeat (k_unfold; (try dsimp only))))
  (try dsimp only)
  rename Fr _ _ _ _ => F3
  rename News _ _ _ _ => N3
  refine' (mach_end2 N3 ?m1 ?m2 ?m3 ?m4 ?m5 ?m6 ?m7 ?m8 ?m9 ?m10 ?hdef ?hcd ?hvs ?hA ?hT hx ?o1 ?o2 ?o3 ?o5 ?o6 ?o7 ?o8 ?o9 ?o10 ?hc0 ?hc).elim (fun a H => ?fin)
  (case m1 => k_mem); (case m2 => k_mem); (case m3 => k_mem); (case m4 => k_mem); (case m5 => k_mem); (case m6 => k_mem); (case m7 => k_mem); (case m8 => k_mem); (case m9 => k_mem); (case m10 => k_mem)
  (case hcd => assumption)
  (case hvs => assumption)
  (case hA => assumption)
  (case hT => assumption)
  (case hdef => exact rfl)
  (case fin =>
    obtain ⟨adr, RO, blk, Rd, O, ev, M, hsub, hcc, h173⟩ := H
    refine' ret _ (blk ++ [(173, tabObj ?tab)]) _ _ F3.keep (fun r hr => ?nw) ⟨a, adr, RO, blk, _, _, _, _, _, Rd, O, ev, M, ?eq, hcc, h173, ?q1, ?q2, ?q3⟩
    (case nw =>
      have hr2 : r ∈ _ := (List.mem_append.mp hr).elim (fun h => hsub r h) (fun h => by rw [List.mem_singleton.mp h]; k_mem)
      exact ⟨(N3 r hr2).1, (N3 r hr2).2.2⟩)
    (case eq => with_unfolding_all rfl)
    (case q1 => assumption)
    (case q2 => assumption)
    (case q3 => refine ltN ?_; (first | (with_reducible ((repeat (first | assumption | exact And.left (by assumption) | exact And.left (And.right (by assumption)) | exact And.right (And.right (by assumption)) | exact And.right (by assumption) | exact And.left (And.right (And.right (by assumption))) | exact And.right (And.right (And.right (by assumption))) | exact And.left (And.right (And.right (And.right (by assumption)))) | exact And.left (And.right (And.right (And.right (And.right (by assumption))))) | refine Nat.lt_trans ?_ (by assumption))); done)) | omega)))
  (case hc => refine List.forall_mem_cons.mpr ⟨?_, List.forall_mem_cons.mpr ⟨?_, List.forall_mem_cons.mpr ⟨?_, List.forall_mem_cons.mpr ⟨?_, List.forall_mem_cons.mpr ⟨?_, List.forall_mem_cons.mpr ⟨?_, List.forall_mem_cons.mpr ⟨?_, List.forall_mem_cons.mpr ⟨?_, List.forall_mem_cons.mpr ⟨?_, List.forall_mem_nil _⟩⟩⟩⟩⟩⟩⟩⟩⟩ <;> (refine neN ?_; first | (refine Nat.ne_of_gt ?_; with_reducible ((repeat (first | assumption | exact And.left (by assumption) | exact And.left (And.right (by assumption)) | exact And.right (And.right (by assumption)) | exact And.right (by assumption) | exact And.left (And.right (And.right (by assumption))) | exact And.right (And.right (And.right (by assumption))) | exact And.left (And.right (And.right (And.right (by assumption)))) | exact And.left (And.right (And.right (And.right (And.right (by assumption))))) | refine Nat.lt_trans ?_ (by assumption))); done)) | (refine Nat.ne_of_lt ?_; with_reducible ((repeat (first | assumption | exact And.left (by assumption) | exact And.left (And.right (by assumption)) | exact And.right (And.right (by assumption)) | exact And.right (by assumption) | exact And.left (And.right (And.right (by assumption))) | exact And.right (And.right (And.right (by assumption))) | exact And.left (And.right (And.right (And.right (by assumption)))) | exact And.left (And.right (And.right (And.right (And.right (by assumption))))) | refine Nat.lt_trans ?_ (by assumption))); done)) | omega))
  all_goals (refine ltN ?_; (first | (with_reducible ((repeat (first | assumption | exact And.left (by assumption) | exact And.left (And.right (by assumption)) | exact And.right (And.right (by assumption)) | exact And.right (by assumption) | exact And.left (And.right (And.right (by assumption))) | exact And.right (And.right (And.right (by assumption))) | exact And.left (And.right (And.right (And.right (by assumption)))) | exact And.left (And.right (And.right (And.right (And.right (by assumption))))) | refine Nat.lt_trans ?_ (by assumption))); done)) | omega))
theorem machine_2 (w : World) (x : Str) (t : Tok) (hx : x.length < 100000) (c c2 : Addr) (oc : Obj) (vs : Array Value) (tq : Tok) (hcd : oc.data = .fields vs) (hvs : vs[1]? = some (.str "_law_machine.<locals>._law_read_on" tq)) (hc : (173 : Nat) < c) :
   Con w 10 100 178 [.str x t] [(173, tabObj (mtab c c2)), (c, oc)]
     (fun _ v sel' => ∃ a adr RO blk, Reader w a.rd x adr RO ∧ LexA.Ok a adr ∧ v = .ref a.x ∧ MachSt w a RO 1 "\n\t\r " [] 0 blk ∧ sel' = blk ++ [(173, tabObj (mtab c c2))] ∧ (∀ p l, RO p l → (c, oc) ∈ l) ∧ 173 ∉ [a.x, a.dx, a.pb, a.st, a.std] ++ adr) := by
  unfold mtab
  unfold Con
  k_fill
  intro dp un gd outer base g tp tl mean mg mb s R B hg hsz hsel X T hd hu ret
  refine' enter_gc hg hsz hsel X T ?k6 ?k7 ?k8 ?k9 ?kB ?kD ?_ ?c2 ?c3 ?c4
  (case k6 => k_is); (case k7 => k_is); (case k8 => ktr_room); (case k9 => exact BindsTo.of_eq rfl); (case kB => exact rfl); (case kD => decide +kernel); (case c2 => exact rfl); (case c3 => exact rfl); (case c4 => exact rfl)
  k_whole
  intro L' h' tk' cells' F' N' Y' l1
  (try k_lt l1); k_cells Y'; (try simp only [List.cons_append, List.nil_append] at N')
  have codeHd := codeHd_of_K (c := 177) (P := 173) X (by kernel_rfl)
  (try dsimp only); (try k_fold)
  ((repeat' ((fail_if_success (with_reducible show wpAny _ _ (setAttr _ _ _) _ _ _)); (first | (k_unfold; (try dsimp only)) | ((with_reducible first | show wpAny _ _ (exec _ _) _ _ _ | show wpAny _ _ (execs _ _) _ _ _); k_fold) | (k_end; wrow_close) | walk1 | (dsimp only; walk1) | (leave1; (try dsimp only))))) <;> (repeat (k_unfold; (try dsimp only))))
  rename Fr _ _ _ _ => F1
  rename News _ _ _ _ => N1
  refine fn_setattr (pre := []) F1 N1 (fun _ h => nomatch h) (by k_all) ?_
  intro d9 h9 tk9 F9 N9 l9
  simp only [List.nil_append] at N9 l9
  k_lt l9
  clear F1 N1
  (try dsimp only); (try k_fold)
  ((repeat' (first | (k_unfold; (try dsimp only)) | ((with_reducible first | show wpAny _ _ (exec _ _) _ _ _ | show wpAny _ _ (execs _ _) _ _ _); k_fold) | (k_end; wrow_close) | walk1 | (dsimp only; walk1) | (leave1; (try dsimp only)))) <;> (repeat (k_unfold; (try dsimp only))))
  (try dsimp only)
  rename Fr _ _ _ _ => F3
  rename News _ _ _ _ => N3
  refine' (mach_end2 N3 ?m1 ?m2 ?m3 ?m4 ?m5 ?m6 ?m7 ?m8 ?m9 ?m10 ?hdef ?hcd ?hvs ?hA ?hT hx ?o1 ?o2 ?o3 ?o5 ?o6 ?o7 ?o8 ?o9 ?o10 ?hc0 ?hc).elim (fun a H => ?fin)
  (case m1 => k_mem); (case m2 => k_mem); (case m3 => k_mem); (case m4 => k_mem); (case m5 => k_mem); (case m6 => k_mem); (case m7 => k_mem); (case m8 => k_mem); (case m9 => k_mem); (case m10 => k_mem)
  (case hcd => assumption)
  (case hvs => assumption)
  (case hA => assumption)
  (case hT => assumption)
  (case hdef => exact rfl)
  (case fin =>
    obtain ⟨adr, RO, blk, Rd, O, ev, M, hsub, hcc, h173⟩ := H
    refine' ret _ (blk ++ [(173, tabObj #[rawInt 175, rawInt 4, .ref c, rawInt 179, rawInt 13, .ref c2])]) _ _ F3.keep (fun r hr => ?nw) ⟨a, adr, RO, blk, Rd, O, ev, M, rfl, hcc, h173⟩
    (case nw =>
      have hr2 : r ∈ _ := (List.mem_append.mp hr).elim (fun h => hsub r h) (fun h => by rw [List.mem_singleton.mp h]; k_mem)
      exact ⟨(N3 r hr2).1, (N3 r hr2).2.2⟩))
  (case hc => refine List.forall_mem_cons.mpr ⟨?_, List.forall_mem_cons.mpr ⟨?_, List.forall_mem_cons.mpr ⟨?_, List.forall_mem_cons.mpr ⟨?_, List.forall_mem_cons.mpr ⟨?_, List.forall_mem_cons.mpr ⟨?_, List.forall_mem_cons.mpr ⟨?_, List.forall_mem_cons.mpr ⟨?_, List.forall_mem_cons.mpr ⟨?_, List.forall_mem_nil _⟩⟩⟩⟩⟩⟩⟩⟩⟩ <;> (refine neN ?_; first | (refine Nat.ne_of_gt ?_; with_reducible ((repeat (first | assumption | exact And.left (by assumption) | exact And.left (And.right (by assumption)) | exact And.right (And.right (by assumption)) | exact And.right (by assumption) | exact And.left (And.right (And.right (by assumption))) | exact And.right (And.right (And.right (by assumption))) | exact And.left (And.right (And.right (And.right (by assumption)))) | exact And.left (And.right (And.right (And.right (And.right (by assumption))))) | refine Nat.lt_trans ?_ (by assumption))); done)) | (refine Nat.ne_of_lt ?_; with_reducible ((repeat (first | assumption | exact And.left (by assumption) | exact And.left (And.right (by assumption)) | exact And.right (And.right (by assumption)) | exact And.right (by assumption) | exact And.left (And.right (And.right (by assumption))) | exact And.right (And.right (And.right (by assumption))) | exact And.left (And.right (And.right (And.right (by assumption)))) | exact And.left (And.right (And.right (And.right (And.right (by assumption))))) | refine Nat.lt_trans ?_ (by assumption))); done)) | omega))
  all_goals (refine ltN ?_; (first | (with_reducible ((repeat (first | assumption | exact And.left (by assumption) | exact And.left (And.right (by assumption)) | exact And.right (And.right (by assumption)) | exact And.right (by assumption) | exact And.left (And.right (And.right (by assumption))) | exact And.right (And.right (And.right (by assumption))) | exact And.left (And.right (And.right (And.right (by assumption)))) | exact And.left (And.right (And.right (And.right (And.right (by assumption))))) | refine Nat.lt_trans ?_ (by assumption))); done)) | omega))
/-- what is left of a text behind its first i words -/
noncomputable def lexAft (wsp : Str) (cs : List Nat) : Nat → List Nat
  | 0 => cs
  | i + 1 => (lex0 wsp (lexAft wsp cs i)).2
noncomputable def cutW (cs : List Nat) (j : Nat) : Str := (lex0 "\t" (lexAft "\t" cs j)).1
theorem cut_c (w : World) (wl : List Nat) (t1 t2 : Tok) (cnt : Nat) (hcnt : cnt ≤ 20) (hlen : wl.length < 1000) (c c2 : Addr) (oc : Obj) (vs : Array Value) (tq : Tok) (hcd : oc.data = .fields vs) (hvs : vs[1]? = some (.str "_law_machine.<locals>._law_read_on" tq)) (hc : (173 : Nat) < c) :
    Con w 40 600 183 [.str (Tx wl) t1, .int (cnt : Int) t2] [(173, tabObj (mtab c c2)), (c, oc)] (fun _ v blk => ∃ D ys k, v = .ref D ∧ StrsAre ys ((List.range cnt).map (cutW wl)) ∧ D ≠ 173 ∧ D ≠ c ∧ blk = (D, listOf (List.toArray ys) k) :: [(173, tabObj (mtab c c2)), (c, oc)]) := by
  unfold Con
  k_fill
  intro dp un gd outer base g tp tl mean mg mb s R B hg hsz hsel X T hd hu ret
  refine' enter_gc hg hsz hsel X T ?k6 ?k7 ?k8 ?k9 ?kB ?kD ?_ ?c2 ?c3 ?c4
  (case k6 => k_is); (case k7 => k_is); (case k8 => ktr_room); (case k9 => exact BindsTo.of_eq rfl); (case kB => exact rfl); (case kD => decide +kernel); (case c2 => exact rfl); (case c3 => exact rfl); (case c4 => exact rfl)
  k_whole
  intro L' h' tk' cells' F' N' Y' l1
  (try k_lt l1); k_cells Y'; (try simp only [List.cons_append, List.nil_append] at N')
  rename (Obj.data _ = Data.cell _) => d1
  rename_i oK0
  have hdK : oK0.data = .cell none := d1
  clear d1
  obtain ⟨l11, l12⟩ := id l1
  (try dsimp only); (try k_fold)
  ((repeat' ((fail_if_success (with_reducible show wpAny _ _ (call (Value.ref 178) _) _ _ _)); (first | (k_unfold; (try dsimp only)) | ((with_reducible first | show wpAny _ _ (exec _ _) _ _ _ | show wpAny _ _ (execs _ _) _ _ _); k_fold) | (k_end; wrow_close) | walk1 | (dsimp only; walk1) | (leave1; (try dsimp only))))) <;> (repeat (k_unfold; (try dsimp only))))
  rename Fr _ _ _ _ => F1
  rename News _ _ _ _ => N1
  have htl : (Tx wl).length < 1000 := by rw [Tx_len]; exact hlen
  refine use_g (machine_2 w (Tx wl) t1 (by omega) c c2 oc vs tq hcd hvs hc) (oth := [(L' + 1, oK0)]) B F1 X N1 T rfl rfl (List.forall_mem_cons.mpr ⟨.tail _ (.head _), List.forall_mem_cons.mpr ⟨.tail _ (.tail _ (.head _)), List.forall_mem_nil _⟩⟩) (List.forall_mem_cons.mpr ⟨.head _, List.forall_mem_nil _⟩) (List.forall_mem_cons.mpr ⟨List.forall_mem_cons.mpr ⟨(Nat.ne_of_lt (Nat.lt_succ_of_lt l11)).symm, List.forall_mem_cons.mpr ⟨(Nat.ne_of_lt (Nat.lt_succ_of_lt l12)).symm, List.forall_mem_nil _⟩⟩, List.forall_mem_nil _⟩) (by k_room) (by k_units) ?_
  rintro v2 blk2 h2 tk2 F2 N2 ne2 - ⟨a, adr, RO, blk, Rd, O, rfl, M, rfl, hcc, h173⟩
  clear F1 N1
  try clear F'
  try clear N'
  have hKM : L' + 1 ∉ a.adrs ++ adr := not_adrs M Rd (fun r hr => ne2 r (List.mem_append_left _ hr) _ (.head _))
  have hK173 : (173 : Addr) ≠ L' + 1 := Nat.ne_of_lt (Nat.lt_succ_of_lt l11)
  replace N2 : News g L' h2 ([(L' + 1, oK0), (173, tabObj (mtab c c2))] ++ blk) := fun q hq => by
    rcases List.mem_cons.mp hq with rfl | hq
    · exact N2 _ (List.mem_append_right _ (.head _))
    · rcases List.mem_cons.mp hq with rfl | hq
      · exact N2 _ (List.mem_append_left _ (List.mem_append_right _ (.head _)))
      · exact N2 q (List.mem_append_left _ (List.mem_append_left _ hq))
  obtain ⟨lt6, tw6, k6, l6, its6, hl6, hi6, rfl⟩ := id M
  obtain ⟨j1, j2, j3, j4, j5, j6⟩ := mach_ne M Rd hKM
  obtain ⟨i1, i2, i3, i4, i5, i6⟩ := mach_ne M Rd (z := 173) h173
  simp only [lexObjs, List.cons_append, List.nil_append] at N2
  obtain ⟨n1, n2, n3, n4, n5, n6, n7, m1, m2, m3, m4, m5⟩ := id O
  have hdl := not_adr (Rd.adrs _ _ hl6) m2
  have hdk := j2.symm
  have hd173 := i2.symm
  (try dsimp only)
  ((repeat' ((fail_if_success (with_reducible show wpAny _ _ (eval (Expr.ListComp _ _ _ _) _) _ _ _)); (first | (k_unfold; (try dsimp only)) | ((with_reducible first | show wpAny _ _ (exec _ _) _ _ _ | show wpAny _ _ (execs _ _) _ _ _); k_fold) | (k_end; wrow_close) | walk1 | (dsimp only; walk1) | (leave1; (try dsimp only))))) <;> (repeat (k_unfold; (try dsimp only))))
  rename Obj => o1
  rename (Obj.data o1 = Data.cell _) => dK
  rename Fr _ _ _ _ => F3
  rename News _ _ _ _ => N3
  refine LCg.ListComp_U (F₀ := F3) (by with_unfolding_all rfl) (by decide) (by rfl) (by decide) (by rfl) ?_
  ((repeat' ((fail_if_success (with_reducible show LCg.CompSrc _ _ _ _ _ _ _ _ _ _ _ _ _ _)); (first | (k_unfold; (try dsimp only)) | ((with_reducible first | show wpAny _ _ (exec _ _) _ _ _ | show wpAny _ _ (execs _ _) _ _ _); k_fold) | (k_end; wrow_close) | walk1 | (dsimp only; walk1) | (leave1; (try dsimp only))))) <;> (repeat (k_unfold; (try dsimp only))))
  rename IsRange _ _ _ _ _ _ _ _ => R4
  rename Fr _ _ _ _ => F4
  rename News _ _ _ _ => N4
  have hn0 : nlTo (Tx wl) 0 = 0 := by simp [nlTo]
  have M4 : ∀ tq', MachSt w a RO (1 + nlTo (Tx wl) 0) "\t" [] 0 (lexObjs w a (.int 1 lt6) (.str "\t" tq') its6 k6 ++ l6) := fun tq' => ⟨lt6, tq', k6, l6, its6, hl6, hi6, by rw [hn0, Int.add_zero]⟩
  try clear F3
  try clear N3
  refine LCg.CompSrc.range (n := cnt) (news := [(L' + 1, o1), (173, tabObj (mtab c c2))] ++ (lexObjs w a (.int 1 lt6) (.str "\t" _) its6 k6 ++ l6)) rfl F4 N4 R4 (small_n (by omega)) (by rw [rangeSize_nat, Int.sub_zero, Int.toNat_natCast]) (size_n (by omega)) (fun g' => ?_)
  refine rest_of cnt (fun i ys news => ∃ p blk, p ≤ (Tx wl).length ∧ codes (Tx wl) p = lexAft "\t" wl i ∧ MachSt w a RO (1 + nlTo (Tx wl) p) "\t" [] p blk ∧ StrsAre ys ((List.range i).map (cutW wl)) ∧ news = [(L' + 1, o1), (173, tabObj (mtab c c2))] ++ blk) ?_ ?_ _ 0 [] _ (Nat.zero_add _)
    ⟨0, _, Nat.zero_le _, by simp [codes, Tx_cps, lexAft], M4 _, .nil, rfl⟩
  · rintro i ys news v I oI C oC D m₂ h8 tk8 E' hi ⟨p8, blk8, hp8, hc8, M8, hys, rfl⟩ hP hns hx F11 N11 o3 ne
    have om := LCg.Off3.mem o3
    have offI := not_adrs M8 Rd (fun r hr => (om r (List.mem_append_right _ hr)).1)
    have offC := not_adrs M8 Rd (fun r hr => (om r (List.mem_append_right _ hr)).2.1)
    have offDD := not_adrs M8 Rd (fun r hr => (om r (List.mem_append_right _ hr)).2.2)
    obtain ⟨lt8, tw8, k8, l8, its8, hl8, hi8, rfl⟩ := id M8
    clear F4 N4 M4
    simp only [lexObjs, List.cons_append, List.nil_append] at N11
    (try dsimp only); (try k_fold)
    ((repeat' ((fail_if_success (with_reducible show wpAny _ _ (call (Value.ref 91) _) _ _ _)); (first | (k_unfold; (try dsimp only)) | ((with_reducible first | show wpAny _ _ (exec _ _) _ _ _ | show wpAny _ _ (execs _ _) _ _ _); k_fold) | (k_end; wrow_close) | walk1 | (dsimp only; walk1) | (leave1; (try dsimp only))))) <;> (repeat (k_unfold; (try dsimp only))))
    rename Fr _ _ _ _ => F12
    rename News _ _ _ _ => N12
    refine mach_get0 (aa := [(I, oI), (C, oC), (D, LCg.lst ys), (L' + 1, o1), (173, tabObj (mtab c c2))]) Rd O M8
      (List.forall_mem_cons.mpr ⟨offI, List.forall_mem_cons.mpr ⟨offC, List.forall_mem_cons.mpr ⟨offDD, List.forall_mem_cons.mpr ⟨hKM, List.forall_mem_cons.mpr ⟨h173, List.forall_mem_nil _⟩⟩⟩⟩⟩) hp8 (by omega) B F12 X N12 T rfl rfl (by k_room) (by k_units) ?_
    intro t9 p9 blk9 h9 tk9 hp9 hc9 F13 N13 M9
    refine LCg.CompEnd.intro F13 N13 ([(L' + 1, o1), (173, tabObj (mtab c c2))] ++ blk9) (fun q hq => hq) (LCg.Off3.of fun q hq => ?_) trivial ⟨p9, blk9, hp9, ?_, M9, ?_, rfl⟩
    · rcases List.mem_append.mp hq with hq | hq
      · exact om q (List.mem_append_left _ hq)
      · exact ⟨of_adrs M9 Rd offI q hq, of_adrs M9 Rd offC q hq, of_adrs M9 Rd offDD q hq⟩
    · rw [hc9, hc8]; rfl
    · rw [hc8, List.range_succ, List.map_append]
      exact kct_snoc hys
  · rintro ys news ⟨p8, blk8, hp8, hc8, M8, hys, rfl⟩ Dc h8 tk8 F11 N11 o1'
    obtain ⟨lt8, tw8, k8, l8, its8, hl8, hi8, rfl⟩ := id M8
    have hcm := hcc p8 l8 hl8
    have od := Off1_mem o1'
    have od1 : (173 : Addr) ≠ Dc := od (173, _) (.tail _ (.head _))
    have od2 : c ≠ Dc := od (c, oc) (List.mem_append_right _ (List.mem_append_right _ hcm))
    clear F4 N4 M4
    simp only [lexObjs, List.cons_append, List.nil_append] at N11
    (try dsimp only); (try k_fold)
    ((repeat' (first | (k_unfold; (try dsimp only)) | ((with_reducible first | show wpAny _ _ (exec _ _) _ _ _ | show wpAny _ _ (execs _ _) _ _ _); k_fold) | (k_end; wrow_close) | walk1 | (dsimp only; walk1) | (leave1; (try dsimp only)))) <;> (repeat (k_unfold; (try dsimp only))))
    (try dsimp only)
    rename Fr _ _ _ _ => F13
    rename News _ _ _ _ => N13
    refine ret _ [(Dc, listOf (List.toArray ys) _), (173, tabObj (mtab c c2)), (c, oc)] _ _ F13.keep (List.forall_mem_cons.mpr ⟨⟨(N13 _ (.head _)).1, (N13 _ (.head _)).2.2⟩, List.forall_mem_cons.mpr ⟨⟨(N13 _ (.tail _ (.tail _ (.head _)))).1, (N13 _ (.tail _ (.tail _ (.head _)))).2.2⟩, List.forall_mem_cons.mpr ⟨?_, List.forall_mem_nil _⟩⟩⟩)
      ⟨Dc, ys, _, rfl, hys, od1.symm, od2.symm, rfl⟩
    have z := N13 (c, oc) (.tail _ (.tail _ (.tail _ (.tail _ (.tail _ (.tail _ (.tail _ (.tail _ hcm))))))))
    exact ⟨z.1, z.2.2⟩
/-- the lead -/
noncomputable def wlOf : List Nat → List Nat
  | [] => []
  | [r] => List.replicate r 32
  | r :: r2 :: t => List.replicate r 32 ++ 9 :: wlOf (r2 :: t)
theorem wl_ws : ∀ rs : List Nat, ∀ c ∈ wlOf rs, c = 32 ∨ c = 9
  | [], _, h => by cases h
  | [r], c, h => .inl (List.mem_replicate.mp h).2
  | r :: r2 :: t, c, h => by
    rcases List.mem_append.mp h with h | h
    · exact .inl (List.mem_replicate.mp h).2
    · rcases List.mem_cons.mp h with rfl | h
      · exact .inr rfl
      · exact wl_ws (r2 :: t) c h
theorem wl_len : ∀ rs : List Nat, (wlOf rs).length ≤ rs.sum + rs.length
  | [] => Nat.le_refl _
  | [r] => by simp [wlOf]
  | r :: r2 :: t => by
    have := wl_len (r2 :: t)
    unfold wlOf
    rw [List.length_append, List.length_replicate, List.length_cons, List.sum_cons, List.length_cons]
    omega
theorem lit_t2 : Str.ofString "\t" = Tx [9] := by decide +kernel
theorem join_wl : ∀ rs : List Nat, Txt.join (Str.ofString "\t") (rs.map blank) = Tx (wlOf rs) := by
  intro rs
  show Builtin.Str.glued _ _ = _
  rw [StrLaws.glued_eq_join]
  induction rs with
  | nil => rfl
  | cons r t ih =>
    cases t with
    | nil => rfl
    | cons r2 t => rw [List.map_cons, List.map_cons, join_cons_cons, ← List.map_cons, ih, lit_t2, Tx_app, Tx_app, List.append_assoc]; rfl
/-- how the lead is written -/
noncomputable def txt2 (wl : List Nat) (q : Bool) : List Nat := if q then [34] ++ wl ++ [34, 101, 110, 100] else (wl.map fun c => [92, c]).flatten ++ [10, 101, 110, 100]
theorem lexQ_wl (rest : List Nat) : ∀ wl : List Nat, (∀ c ∈ wl, c = 32 ∨ c = 9) → ∀ a : List Nat, lexQ (wl ++ 34 :: rest) (Tx a) = (Tx (a ++ wl), rest)
  | [], _, a => by rw [List.nil_append, lexQ_cons, if_pos rfl, List.append_nil]
  | c :: wl, h, a => by
    have hc := h c (.head _)
    rw [List.cons_append, lexQ_cons, if_neg (by omega), if_neg (by omega)]
    have := lexQ_wl rest wl (fun d hd => h d (.tail _ hd)) (a ++ [c])
    rw [← Tx_app, List.append_assoc] at this
    exact this
theorem lexW_wl (rest : List Nat) : ∀ wl : List Nat, ∀ a : List Nat, lexW "\n\t\r " ((wl.map fun c => [92, c]).flatten ++ 10 :: rest) (Tx a) = (Tx (a ++ wl), rest)
  | [], a => by rw [List.map_nil, List.flatten_nil, List.nil_append, lexW_cons, ws_10, if_pos rfl, List.append_nil]
  | c :: wl, a => by
    rw [List.map_cons, List.flatten_cons, List.cons_append, List.cons_append, lexW_cons, ws_92, if_neg (by decide), if_pos rfl]
    have := lexW_wl rest wl (a ++ [c])
    rw [← Tx_app, List.append_assoc] at this
    exact this
theorem lex_txt2 {wl : List Nat} (hw : ∀ c ∈ wl, c = 32 ∨ c = 9) (hn : wl ≠ []) (q : Bool) : lex0 "\n\t\r " (txt2 wl q) = (Tx wl, [101, 110, 100]) := by
  unfold txt2
  cases q with
  | true =>
    rw [if_pos rfl, List.append_assoc, List.cons_append, List.nil_append, lex0_cons, ws_34, if_neg (by decide), if_pos rfl, show ("" : Str) = Tx [] from lit_e]
    exact lexQ_wl _ wl hw []
  | false =>
    obtain ⟨c, wl, rfl⟩ := List.exists_cons_of_ne_nil hn
    rw [if_neg (by decide), List.map_cons, List.flatten_cons, List.cons_append, List.cons_append, lex0_cons, ws_92, if_neg (by decide), if_neg (by decide), if_pos rfl, show ("" : Str) = Tx [] from lit_e]
    exact lexW_wl [101, 110, 100] wl [c]
theorem txt2_len (wl : List Nat) (q : Bool) : (txt2 wl q).length ≤ 2 * wl.length + 5 := by
  have h : ((wl.map fun c => [92, c]).flatten).length = 2 * wl.length := by
    induction wl with
    | nil => rfl
    | cons c wl ih => rw [List.map_cons, List.flatten_cons, List.length_append, ih, List.length_cons]; simp; omega
  unfold txt2
  cases q
  · rw [if_neg (by decide), List.length_append, h]; simp
  · rw [if_pos rfl, List.length_append, List.length_append]; simp; omega
theorem tw_9 : inWs "\t" 9 = true := by decide +kernel
theorem tw_32 : inWs "\t" 32 = false := by decide +kernel
theorem lexW_run (r : Nat) : ∀ a rest : List Nat, lexW "\t" (List.replicate r 32 ++ 9 :: rest) (Tx a) = (Tx (a ++ List.replicate r 32), rest) := by
  induction r with
  | zero => intro a rest; rw [List.replicate_zero, List.nil_append, lexW_cons, tw_9, if_pos rfl, List.append_nil]
  | succ r ih =>
    intro a rest
    rw [List.replicate_succ, List.cons_append, lexW_cons, tw_32, if_neg (by decide), if_neg (by decide)]
    have := ih (a ++ [32]) rest
    rw [← Tx_app, List.append_assoc] at this
    exact this
theorem lexW_last (r : Nat) : ∀ a : List Nat, lexW "\t" (List.replicate r 32) (Tx a) = (Tx (a ++ List.replicate r 32), []) := by
  induction r with
  | zero => intro a; rw [List.replicate_zero, List.append_nil]; rfl
  | succ r ih =>
    intro a
    rw [List.replicate_succ, lexW_cons, tw_32, if_neg (by decide), if_neg (by decide)]
    have := ih (a ++ [32])
    rw [← Tx_app, List.append_assoc] at this
    exact this
theorem lex_tnil : lex0 "\t" [] = (Tx [], []) := by rw [← lit_e]; rfl
theorem lexAft_succ (wsp : Str) (cs : List Nat) : ∀ i, lexAft wsp cs (i + 1) = lexAft wsp (lex0 wsp cs).2 i
  | 0 => rfl
  | i + 1 => by
    show (lex0 wsp (lexAft wsp cs (i + 1))).2 = (lex0 wsp (lexAft wsp (lex0 wsp cs).2 i)).2
    rw [lexAft_succ wsp cs i]
theorem cut_succ (cs : List Nat) (k : Nat) : (List.range (k + 1)).map (cutW cs) = (lex0 "\t" cs).1 :: (List.range k).map (cutW (lex0 "\t" cs).2) := by
  rw [List.range_succ_eq_map, List.map_cons, List.map_map]
  congr 1
  apply List.map_congr_left
  intro i _
  show (lex0 "\t" (lexAft "\t" cs (i + 1))).1 = _
  rw [lexAft_succ]; rfl
theorem cut_nil (k : Nat) : (List.range k).map (cutW []) = List.replicate k (Tx []) := by
  induction k with
  | zero => rfl
  | succ k ih => rw [cut_succ, lex_tnil, ih, List.replicate_succ]
theorem cut_tab (cs : List Nat) (k : Nat) : (List.range k).map (cutW (9 :: cs)) = (List.range k).map (cutW cs) := by
  cases k with
  | zero => rfl
  | succ k => rw [cut_succ, cut_succ, lex0_cons, tw_9, if_pos rfl]
theorem lex_run (r : Nat) (rest : List Nat) : lex0 "\t" (List.replicate (r + 1) 32 ++ 9 :: rest) = (blank (r + 1), rest) := by
  rw [List.replicate_succ, List.cons_append, lex0_cons, tw_32, if_neg (by decide), if_neg (by decide), if_neg (by decide), show ("" : Str) = Tx [] from lit_e]
  exact lexW_run r [32] rest
theorem lex_last (r : Nat) : lex0 "\t" (List.replicate (r + 1) 32) = (blank (r + 1), []) := by
  rw [List.replicate_succ, lex0_cons, tw_32, if_neg (by decide), if_neg (by decide), if_neg (by decide), show ("" : Str) = Tx [] from lit_e]
  exact lexW_last r [32]
/-- the lead is cut in its runs -/
theorem cut_wl : ∀ (rs : List Nat) (j : Nat), rs ≠ [] → (List.range ((rs.filter (0 < ·)).length + j)).map (cutW (wlOf rs)) = (rs.filter (0 < ·)).map blank ++ List.replicate j (Tx [])
  | [], _, h => absurd rfl h
  | [0], j, _ => by
    show (List.range (0 + j)).map (cutW []) = [] ++ _
    rw [cut_nil, Nat.zero_add, List.nil_append]
  | [r + 1], j, _ => by
    show (List.range (1 + j)).map (cutW (List.replicate (r + 1) 32)) = [blank (r + 1)] ++ _
    rw [Nat.add_comm 1 j, cut_succ, lex_last, cut_nil]; rfl
  | 0 :: r2 :: t, j, _ => by
    show (List.range _).map (cutW (9 :: wlOf (r2 :: t))) = _
    rw [cut_tab]
    exact cut_wl (r2 :: t) j (by simp)
  | (r + 1) :: r2 :: t, j, _ => by
    have h := cut_wl (r2 :: t) j (by simp)
    rw [List.filter_cons_of_pos (by simp), List.length_cons, List.map_cons, Nat.add_right_comm, cut_succ]
    show (lex0 "\t" (List.replicate (r + 1) 32 ++ 9 :: wlOf (r2 :: t))).1 :: (List.range _).map (cutW (lex0 "\t" (List.replicate (r + 1) 32 ++ 9 :: wlOf (r2 :: t))).2) = _
    rw [lex_run, h]; rfl
/-- the product -/
noncomputable def prod (l : List Nat) : Nat := l.foldl (· * ·) 1
theorem prod_snoc (l : List Nat) (x : Nat) : prod (l ++ [x]) = prod l * x := by unfold prod; rw [List.foldl_append]; rfl
/-- the locals of _law_product -/
noncomputable def pdm (P : Addr) (pv : Option Value) (nv : Option Value) : Str → Option Value := fun y => if y = "number" then nv else if y = "product" then pv else if y = "numbers" then some (.ref P) else none
noncomputable def PdJ (P : Addr) (nw0 : List (Addr × Obj)) (ns : List Nat) (i : Nat) (m : Str → Option Value) (nw : List (Addr × Obj)) : Prop := nw = nw0 ∧ ∃ t nv, ∀ y, m y = pdm P (some (.int ((prod (ns.take i) : Nat) : Int) t)) nv y
section
variable {prog : Program} {w : World} {A : Around} {E : Value → Shared → Prop} {s : Shared} {t u : Tok} {Q : Value → Shared → Prop}
theorem mulB_st {x y : Nat} (hx : x < 2 ^ 60) (h : Q (.int ((x * y : Nat) : Int) s.toks) { s with toks := s.toks + 1 }) : wpAny (model prog w) A (binaryOp .Mult (.int (x : Int) t) (.int (y : Int) u)) Q E s :=
  mul_int (by rw [← Int.natCast_mul]; exact h) (PySem.IntMulOk.of_left (PySem.intBits_le_64 (by omega) (by omega)))
end
theorem prodl_c (w : World) (P : Addr) (its : List Value) (k : Nat) (ns : List Nat) (hi : IntsAre its (ns.map fun x : Nat => (x : Int))) (hb : ∀ i, i < ns.length → prod (ns.take i) < 2 ^ 60) :
    Con w 10 100 195 [.ref P] [(P, listOf its.toArray k)] (fun _ v blk => (∃ t, v = .int ((prod ns : Nat) : Int) t) ∧ blk = [(P, listOf its.toArray k)]) := by
  unfold Con
  k_fill
  intro dp un gd outer base g tp tl mean mg mb s R B hg hsz hsel X T hd hu ret
  refine' enter_g B hg hsz hsel X T ?k6 ?k7 ?k8 ?k9 ?kB ?_ ?c2 ?c3 ?c4 ?c5
  (case k6 => k_is); (case k7 => k_is); (case k8 => ktr_room); (case k9 => exact BindsTo.of_eq rfl); (case c5 => decide); (case kB => exact locs rfl); (case c2 => exact rfl); (case c3 => exact rfl); (case c4 => exact rfl)
  k_whole
  intro L' h' tk' F' N' l1
  (try dsimp only); (try k_fold)
  ((repeat' ((fail_if_success (with_reducible show wpAny _ _ (exec (Stmt.For _ _ _ _ _) _) _ _ _)); (first | (k_unfold; (try dsimp only)) | ((with_reducible first | show wpAny _ _ (exec _ _) _ _ _ | show wpAny _ _ (execs _ _) _ _ _); k_fold) | (k_end; wrow_close) | walk1 | (dsimp only; walk1) | (leave1; (try dsimp only))))) <;> (repeat (k_unfold; (try dsimp only))))
  rename Fr _ _ _ _ => F4
  rename News _ _ _ _ => N4
  refine wpAny_For ?_
  ((repeat' ((fail_if_success (with_reducible show wpAny _ _ (pyIter _) _ _ _)); (first | (k_unfold; (try dsimp only)) | ((with_reducible first | show wpAny _ _ (exec _ _) _ _ _ | show wpAny _ _ (execs _ _) _ _ _); k_fold) | (k_end; wrow_close) | walk1 | (dsimp only; walk1) | (leave1; (try dsimp only))))) <;> (repeat (k_unfold; (try dsimp only))))
  rename Fr _ _ _ _ => F5
  rename News _ _ _ _ => N5
  refine' for_lst (env := envOf _ _ L' 195 _) (lo := listOf its.toArray k) (its := its.toArray) rfl rfl ⟨_, rfl⟩ rfl rfl rfl F5 N5 (PdJ P [(P, listOf its.toArray k)] ns) ?hJ ?h0 ?turn ?done
  case hJ => rintro i m nw ⟨rfl, -⟩; exact .head _
  case h0 => exact ⟨rfl, _, none, by (intro y; unfold pdm; (rcases Classical.em (y = "number") with rfl | h0); exact rfl; (rcases Classical.em (y = "product") with rfl | h1); exact rfl; (rcases Classical.em (y = "numbers") with rfl | h2); exact rfl; (try simp only [if_neg h0, if_neg h1, if_neg h2]); (first | done | exact rfl | (show List.lookup y (_ :: _) = none; simp only [List.lookup, beq_eq_false_iff_ne.mpr h0, beq_eq_false_iff_ne.mpr h1, beq_eq_false_iff_ne.mpr h2]) | (simp only [List.lookup, beq_eq_false_iff_ne.mpr h0, beq_eq_false_iff_ne.mpr h1, beq_eq_false_iff_ne.mpr h2]; done)))⟩
  case turn =>
    intro i v m₁ news₁ h6 tk6 I oI hv hJ hI F6 N6
    obtain ⟨rfl, tp, nv, hm⟩ := hJ
    obtain ⟨tz, z, hz, rfl⟩ := ints_at1 hi (by simpa using hv)
    rw [List.getElem?_map] at hz
    obtain ⟨z, hz2, rfl⟩ := Option.map_eq_some_iff.mp hz
    have F7 : Fr g L' h6 (pdm P (some (.int ((prod (ns.take i) : Nat) : Int) tp)) (some (.int (z : Int) tz))) := Fr.congr F6 (fun y => by
      (try dsimp only); rw [hm]; unfold pdm; split <;> rfl)
    try clear F5 N5 F6
    have hpb := hb i (List.getElem?_eq_some_iff.mp hz2).1
    unfold pdm at F7
    (try dsimp only); (try k_fold)
    ((repeat' ((fail_if_success (with_reducible show Left _)); (first | ((with_reducible show wpAny _ _ (binaryOp Operator.Mult (Value.int (Nat.cast _) _) (Value.int (Nat.cast _) _)) _ _ _); refine mulB_st hpb ?_) | (k_unfold; (try dsimp only)) | ((with_reducible first | show wpAny _ _ (exec _ _) _ _ _ | show wpAny _ _ (execs _ _) _ _ _); k_fold) | (k_end; wrow_close) | walk1 | (dsimp only; walk1) | (leave1; (try dsimp only))))) <;> (repeat (k_unfold; (try dsimp only))))
    (try dsimp only)
    unfold Left
    rename Fr _ _ _ _ => F9
    rename News _ _ _ _ => N9
    refine ⟨_, _, _, [(P, listOf its.toArray k)], rfl, F9, N9, hI, rfl, tk6, some (.int (z : Int) tz), ?_⟩
    rw [show prod (ns.take (i + 1)) = prod (ns.take i) * z from by rw [List.take_add_one, hz2]; exact prod_snoc _ _]
    (intro y; unfold pdm; (rcases Classical.em (y = "number") with rfl | h0); exact rfl; (rcases Classical.em (y = "product") with rfl | h1); exact rfl; (rcases Classical.em (y = "numbers") with rfl | h2); exact rfl; (try simp only [if_neg h0, if_neg h1, if_neg h2]); (first | done | exact rfl | (show List.lookup y (_ :: _) = none; simp only [List.lookup, beq_eq_false_iff_ne.mpr h0, beq_eq_false_iff_ne.mpr h1, beq_eq_false_iff_ne.mpr h2]) | (simp only [List.lookup, beq_eq_false_iff_ne.mpr h0, beq_eq_false_iff_ne.mpr h1, beq_eq_false_iff_ne.mpr h2]; done)))
  case done =>
    intro m₁ news₁ h6 tk6 hJ F6 N6
    obtain ⟨rfl, tp, nv, hm⟩ := hJ
    have F7 := Fr.congr F6 hm
    try clear F5 N5 F6
    have hil : its.length = ns.length := by rw [hi.length, List.length_map]
    rw [List.size_toArray, hil, List.take_length] at F7
    unfold pdm at F7
    (try dsimp only)
    ((repeat' (first | (k_unfold; (try dsimp only)) | ((with_reducible first | show wpAny _ _ (exec _ _) _ _ _ | show wpAny _ _ (execs _ _) _ _ _); k_fold) | (k_end; wrow_close) | walk1 | (dsimp only; walk1) | (leave1; (try dsimp only)))) <;> (repeat (k_unfold; (try dsimp only))))
    (try dsimp only)
    rename Fr _ _ _ _ => F9
    rename News _ _ _ _ => N9
    exact ret _ _ _ _ F9.keep (fun r hr => ⟨(N9 r hr).1, (N9 r hr).2.2⟩) ⟨⟨_, rfl⟩, rfl⟩
/-- a range object -/
noncomputable abbrev rngO (b : Int) (t u v : Tok) : Obj := { cls := .type "range", dict := none, data := .fields #[.int 1 t, .int b u, .int 1 v], slots := #[] }
theorem prodr_c (w : World) (P : Addr) (n : Nat) (t u v : Tok) (hn : n ≤ 30) (hb : ∀ i, i < n → prod (((List.range n).map (· + 1)).take i) < 2 ^ 60) :
    Con w 10 100 195 [.ref P] [(P, rngO ((n : Int) + 1) t u v)] (fun _ x blk => (∃ t, x = .int ((prod ((List.range n).map (· + 1)) : Nat) : Int) t) ∧ blk = [(P, rngO ((n : Int) + 1) t u v)]) := by
  unfold Con
  k_fill
  intro dp un gd outer base g tp tl mean mg mb s R B hg hsz hsel X T hd hu ret
  refine' enter_g B hg hsz hsel X T ?k6 ?k7 ?k8 ?k9 ?kB ?_ ?c2 ?c3 ?c4 ?c5
  (case k6 => k_is); (case k7 => k_is); (case k8 => ktr_room); (case k9 => exact BindsTo.of_eq rfl); (case c5 => decide); (case kB => exact locs rfl); (case c2 => exact rfl); (case c3 => exact rfl); (case c4 => exact rfl)
  k_whole
  intro L' h' tk' F' N' l1
  (try dsimp only); (try k_fold)
  ((repeat' ((fail_if_success (with_reducible show wpAny _ _ (exec (Stmt.For _ _ _ _ _) _) _ _ _)); (first | (k_unfold; (try dsimp only)) | ((with_reducible first | show wpAny _ _ (exec _ _) _ _ _ | show wpAny _ _ (execs _ _) _ _ _); k_fold) | (k_end; wrow_close) | walk1 | (dsimp only; walk1) | (leave1; (try dsimp only))))) <;> (repeat (k_unfold; (try dsimp only))))
  rename Fr _ _ _ _ => F4
  rename News _ _ _ _ => N4
  refine wpAny_For ?_
  ((repeat' ((fail_if_success (with_reducible show wpAny _ _ (pyIter _) _ _ _)); (first | (k_unfold; (try dsimp only)) | ((with_reducible first | show wpAny _ _ (exec _ _) _ _ _ | show wpAny _ _ (execs _ _) _ _ _); k_fold) | (k_end; wrow_close) | walk1 | (dsimp only; walk1) | (leave1; (try dsimp only))))) <;> (repeat (k_unfold; (try dsimp only))))
  rename Fr _ _ _ _ => F5
  rename News _ _ _ _ => N5
  have hln : ((List.range n).map (· + 1)).length = n := by rw [List.length_map, List.length_range]
  refine' for_range (env := envOf _ _ L' 195 _) (n := n) rfl (N5 _ (.head _)).1 ?hsm ?hn rfl rfl rfl F5 N5 (PdJ P [(P, rngO ((n : Int) + 1) t u v)] ((List.range n).map (· + 1))) ?h0 ?turn ?done
  case hsm => exact small_one (by omega) (by omega) (by omega) (by omega)
  case hn => rw [rangeSize_nat]; omega
  case h0 => exact ⟨rfl, _, none, by (intro y; unfold pdm; (rcases Classical.em (y = "number") with rfl | h0); exact rfl; (rcases Classical.em (y = "product") with rfl | h1); exact rfl; (rcases Classical.em (y = "numbers") with rfl | h2); exact rfl; (try simp only [if_neg h0, if_neg h1, if_neg h2]); (first | done | exact rfl | (show List.lookup y (_ :: _) = none; simp only [List.lookup, beq_eq_false_iff_ne.mpr h0, beq_eq_false_iff_ne.mpr h1, beq_eq_false_iff_ne.mpr h2]) | (simp only [List.lookup, beq_eq_false_iff_ne.mpr h0, beq_eq_false_iff_ne.mpr h1, beq_eq_false_iff_ne.mpr h2]; done)))⟩
  case turn =>
    intro i t2 m₁ news₁ h6 tk6 I oI hi6 hJ hI F6 N6
    obtain ⟨rfl, tp, nv, hm⟩ := hJ
    have F7 : Fr g L' h6 (pdm P (some (.int ((prod (((List.range n).map (· + 1)).take i) : Nat) : Int) tp)) (some (.int ((i + 1 : Nat) : Int) t2))) := Fr.congr F6 (fun y => by
      (try dsimp only); rw [hm, show (1 : Int) + (i : Int) = ((i + 1 : Nat) : Int) from by omega]; unfold pdm; split <;> rfl)
    try clear F5 N5 F6
    have hpb := hb i hi6
    unfold pdm at F7
    (try dsimp only); (try k_fold)
    ((repeat' ((fail_if_success (with_reducible show Left _)); (first | ((with_reducible show wpAny _ _ (binaryOp Operator.Mult (Value.int (Nat.cast _) _) (Value.int (Nat.cast _) _)) _ _ _); refine mulB_st hpb ?_) | (k_unfold; (try dsimp only)) | ((with_reducible first | show wpAny _ _ (exec _ _) _ _ _ | show wpAny _ _ (execs _ _) _ _ _); k_fold) | (k_end; wrow_close) | walk1 | (dsimp only; walk1) | (leave1; (try dsimp only))))) <;> (repeat (k_unfold; (try dsimp only))))
    (try dsimp only)
    unfold Left
    rename Fr _ _ _ _ => F9
    rename News _ _ _ _ => N9
    refine ⟨_, _, _, [(P, rngO ((n : Int) + 1) t u v)], rfl, F9, N9, hI, rfl, tk6, some (.int ((i + 1 : Nat) : Int) t2), ?_⟩
    rw [show prod (((List.range n).map (· + 1)).take (i + 1)) = prod (((List.range n).map (· + 1)).take i) * (i + 1) from by
      rw [List.take_add_one, show ((List.range n).map (· + 1))[i]? = some (i + 1) from by rw [List.getElem?_map, List.getElem?_range hi6]; rfl]; exact prod_snoc _ _]
    (intro y; unfold pdm; (rcases Classical.em (y = "number") with rfl | h0); exact rfl; (rcases Classical.em (y = "product") with rfl | h1); exact rfl; (rcases Classical.em (y = "numbers") with rfl | h2); exact rfl; (try simp only [if_neg h0, if_neg h1, if_neg h2]); (first | done | exact rfl | (show List.lookup y (_ :: _) = none; simp only [List.lookup, beq_eq_false_iff_ne.mpr h0, beq_eq_false_iff_ne.mpr h1, beq_eq_false_iff_ne.mpr h2]) | (simp only [List.lookup, beq_eq_false_iff_ne.mpr h0, beq_eq_false_iff_ne.mpr h1, beq_eq_false_iff_ne.mpr h2]; done)))
  case done =>
    intro m₁ news₁ h6 tk6 hJ F6 N6
    obtain ⟨rfl, tp, nv, hm⟩ := hJ
    have F7 := Fr.congr F6 hm
    try clear F5 N5 F6
    rw [List.take_of_length_le (Nat.le_of_eq hln)] at F7
    unfold pdm at F7
    (try dsimp only)
    ((repeat' (first | (k_unfold; (try dsimp only)) | ((with_reducible first | show wpAny _ _ (exec _ _) _ _ _ | show wpAny _ _ (execs _ _) _ _ _); k_fold) | (k_end; wrow_close) | walk1 | (dsimp only; walk1) | (leave1; (try dsimp only)))) <;> (repeat (k_unfold; (try dsimp only))))
    (try dsimp only)
    rename Fr _ _ _ _ => F9
    rename News _ _ _ _ => N9
    exact ret _ _ _ _ F9.keep (fun r hr => ⟨(N9 r hr).1, (N9 r hr).2.2⟩) ⟨⟨_, rfl⟩, rfl⟩
/-- the pieces of the lead -/
noncomputable def pcsOf (rs : List Nat) : List Nat := rs.filter (0 < ·) ++ List.replicate (1 + rs.count 0) 0
noncomputable def fct (n : Nat) : Nat := prod ((List.range n).map (· + 1))
noncomputable def prs (tot : Nat) : List Nat := [2, 3, 5, 7, 11, 13, 17, 19].filter (· ≤ tot)
noncomputable def S1 (rs : List Nat) : WsSt := wsOf (wlOf rs)
noncomputable def S2 (rs : List Nat) : WsSt := wsOf (List.replicate rs.sum 32 ++ List.replicate (rs.length - 1) 9)
noncomputable def w1 (rs : List Nat) : List Nat := (prs rs.sum).map fun p => p ^ (alones p (pcsOf rs)).length
noncomputable def w2 (rs : List Nat) : List Nat := (prs rs.sum).map fun p => p ^ togLen p (pcsOf rs)
noncomputable def gB (S S' : WsSt) (qs : List Nat) (pr tot : Nat) : Bool :=
  decide (2 ≤ pr ∧ pr < 20) && decide (qs.length ≤ 10) && decide (∀ q ∈ qs, q ≤ 5 ∧ (g1 pr q).2.2 = []) && decide (qs.sum = tot ∧ tot < 20) && decide (0 < (lefts pr qs).length ∧ (lefts pr qs).length ≤ 20) && decide (∀ z ∈ lefts pr qs, 1 ≤ z ∧ z ≤ 5) &&
  decide ((alones pr qs).length ≤ 20 ∧ togLen pr qs ≤ 20) && decide (togs pr qs 6 = 0) && decide (∀ k ∈ List.range 5, ((lefts pr qs).count (k + 1) + togs pr qs k) % pr = tot / pr ^ k % pr) && decide (S.count.length < 10000 ∧ S'.count.length < 10000) &&
  decide (∀ k ∈ List.range 5, 0 < k → pr ^ k ≤ tot → (((alones pr qs).count k : Nat) : Int) = pas S (pr ^ k) ∧ (((alones pr qs).count k + togs pr qs k : Nat) : Int) = pas S' (pr ^ k) ∧ (lvl2 S ((pr ^ k : Nat) : Int)).natAbs < 2 ^ 59 ∧ (lvl2 S' ((pr ^ k : Nat) : Int)).natAbs < 2 ^ 59)
theorem gOk_of {S S' : WsSt} {qs : List Nat} {pr tot : Nat} (h : gB S S' qs pr tot = true) : GOk S S' qs pr tot := by
  unfold gB at h
  simp only [Bool.and_eq_true, decide_eq_true_eq] at h
  obtain ⟨⟨⟨⟨⟨⟨⟨⟨⟨⟨h1, h2⟩, h3⟩, h4⟩, h5⟩, h6⟩, h7⟩, h8⟩, h9⟩, h10⟩, h11⟩ := h
  exact ⟨h1, h2, h3, h4, h5, h6, h7, h8, h9, h10, h11⟩
noncomputable def tails : List (List Nat) := let d := List.range 5; [[]] ++ (d.map fun a => [a]) ++ (d.flatMap fun a => d.map fun b => [a, b]) ++ (d.flatMap fun a => d.flatMap fun b => d.map fun c => [a, b, c])
noncomputable def ok2B (rs : List Nat) : Bool :=
  (prs rs.sum).all (fun p => gB (S1 rs) (S2 rs) (pcsOf rs) p rs.sum) && decide (prod (w1 rs) = prod (rs.map fct)) && decide (fct rs.sum / prod (rs.map fct) = prod (w2 rs) ∧ fct rs.sum % prod (rs.map fct) = 0) &&
  decide (∀ i ∈ List.range (w1 rs).length, prod ((w1 rs).take i) < 2 ^ 60) && decide (∀ i ∈ List.range (w2 rs).length, prod ((w2 rs).take i) < 2 ^ 60) && decide (∀ i ∈ List.range rs.length, prod ((rs.map fct).take i) < 2 ^ 60) &&
  decide (0 < prod (rs.map fct) ∧ prod (rs.map fct) < 2 ^ 59 ∧ fct rs.sum < 2 ^ 59)
theorem ok_all : tails.all (fun t => ok2B (5 :: 2 :: t)) = true := by decide +kernel
open LCg LCt
section
variable {prog : Program} {w : World} {A : Around} {E : Value → Shared → Prop} {s : Shared} {h₀ : Heap} {L : Addr} {m : Str → Option Value} {env : Env}
/-- the signs of a text -/
noncomputable def StrSrc (prog : Program) (w : World) (A : Around) (h₀ : Heap) (L : Addr) (m : Str → Option Value) (env : Env) (elt : Expr) (y : Str) (scope : Scope) (cl : List (Str × Addr)) (Fin : Shared → List Value → List (Addr × Obj) → Prop) (xv : Value) (s₁ : Shared) : Prop :=
  ∃ x t news, xv = .str x t ∧ x.cps.all (· < 128) = true ∧ A.handled = none ∧ Fr h₀ L s₁.heap m ∧ News h₀ L s₁.heap news ∧ x.cps.size ≤ sizeLine ∧
    ∀ g, CompRest prog w A h₀ L m env elt y scope cl { s₁ with heap := g } (fun _ => True) (SignAt x) (Fin { s₁ with heap := g }) x.cps.size 0 [] news
theorem ListComp_str {elt iter : Expr} {x : Str} {px : Pos} {scope : Scope} {cl : List (Str × Addr)} {pos : Pos} {Q : Value → Shared → Prop} (F₀ : Fr h₀ L s.heap m)
    (hclos : closureFor scope env = pure cl) (hcell : ∀ y ∈ scope.names, y.2 ≠ .cell) (hkind : scope.kind = .function)
    (hnames : ∀ y ∈ scope.names, y.2 = .local → scope.names.lookup y.1 = some .local) (hx : scope.names.lookup x = some .local)
    (h : wpAny (model prog w) A (eval iter env) (StrSrc prog w A h₀ L m env elt x scope cl (fun s₂ => FinE h₀ L m s₂ Q)) E s)
    (hs : ∀ x, foldedSetIterable iter env x = pure x := by intro _; rfl) :
    wpAny (model prog w) A (eval (.ListComp elt [⟨.Name x px, iter, [], 0⟩] scope pos) env) Q E s := by
  rw [eval_ListComp]
  refine wpAny_comprehension_free (use := none) rfl hs hclos hkind hnames (wpAny_mono h (fun xv s₁ h₁ => ?_) fun _ _ e => e)
  obtain ⟨z, t, news, rfl, ha, hh, F, N, hsz, R⟩ := h₁
  refine wpAny_pyIter_ascii ha ?_
  have up : ∀ b o, s₁.heap.get? b = some o → (s₁.heap.push { cls := .type "str_ascii_iterator", data := .fields #[.str z t, .int 0 0] }).get? b = some o := fun b o e => Heap.get?_push_of_some _ e
  refine block_U (S := fun _ => True) (Walks.strAscii hh s₁.heap.objs.size z t) hsz (fun i h st => by obtain ⟨o, e, _⟩ := st; exact ⟨o, e⟩) (fun i h h' o nw st e e' _ _ _ => by
      obtain ⟨o', q, r⟩ := st; rw [e] at q; cases q; exact ⟨o, e', r⟩) hcell hkind hx ⟨_, Heap.get?_push_size _ rfl, rfl, rfl⟩ (fun b hb => ?_)
    (F.keeps up) (N.grown up) (Nat.ne_of_lt F.ns.lt) (next_is_new F) (fun p hp => Nat.ne_of_lt (Heap.lt_size (N p hp).1)) trivial (R _) ?_
  · show b < (s₁.heap.push _).objs.size
    rw [Heap.size_push, List.mem_singleton.mp hb]
    exact Nat.lt_succ_self _
  · intro D C h tk m' ys news' F' N' o1 hn hC₀ hD₀ hCL hDL hCD offC fin
    refine ⟨m', hn, fun h'' hs'' => fin D h'' tk (F'.change hs'' hCL hC₀) (fun p hp => ?_) o1⟩
    refine ⟨hs''.extBut _ _ ?_ (N' p hp).1, (N' p hp).2⟩
    rcases List.mem_cons.mp hp with rfl | hp
    · exact Ne.symm hCD
    · exact offC p hp
/-- the things of a tuple -/
noncomputable def TupSrcT (prog : Program) (w : World) (A : Around) (h₀ : Heap) (L : Addr) (m : Str → Option Value) (env : Env) (ct elt : Expr) (y : Str) (scope : Scope) (cl : List (Str × Addr)) (Fin : Shared → List Value → List (Addr × Obj) → Prop) (xv : Value) (s₁ : Shared) : Prop :=
  ∃ ax its news o, xv = .ref ax ∧ A.handled = none ∧ Fr h₀ L s₁.heap m ∧ News h₀ L s₁.heap news ∧ (ax, o) ∈ news ∧ o.cls = .type "tuple" ∧ (∃ k, o.data = .seq its k) ∧ its.size ≤ sizeLine ∧
    ∀ g, CompRestT prog w A h₀ L m env ct elt y scope cl { s₁ with heap := g } (fun nw => (ax, o) ∈ nw) (fun i v => its[i]? = some v) (Fin { s₁ with heap := g }) its.size 0 [] news
theorem Assign_ListCompT_tup {ct elt iter : Expr} {x y : Str} {px py : Pos} {scope : Scope} {cl : List (Str × Addr)} {pos spos : Pos} {Q : Flow → Shared → Prop} (F₀ : Fr h₀ L s.heap m) (hLe : env.locals = L)
    (hsw : swapsWith (.ListComp elt [⟨.Name x px, iter, [ct], 0⟩] scope pos) (some (.Name y py)) spos.line env = pure true)
    (hclos : closureFor scope env = pure cl) (hcell : ∀ z ∈ scope.names, z.2 ≠ .cell) (hkind : scope.kind = .function)
    (hnames : ∀ z ∈ scope.names, z.2 = .local → scope.names.lookup z.1 = some .local) (hx : scope.names.lookup x = some .local)
    (hy : env.kindOf y = some .local) (hp : (env.scope.kind == .class || (env.scope.kind == .module && env.locals != env.globals)) = false)
    (h : wpAny (model prog w) A (eval iter env) (TupSrcT prog w A h₀ L m env ct elt x scope cl (fun s₂ => FinA h₀ L m s₂ y Q)) E s)
    (hs : ∀ x, foldedSetIterable iter env x = pure x := by intro _; rfl) :
    wpAny (model prog w) A (exec (.Assign [.Name y py] (.ListComp elt [⟨.Name x px, iter, [ct], 0⟩] scope pos) spos) env) Q E s := by
  subst hLe
  rw [exec_Assign_Name_used _ _ _ _ hsw]
  refine wpAny_bind (wpAny_standAt (wpAny_bind ?_))
  show wpAny _ A (do let _ ← comprehension (.ListComp elt [⟨.Name x px, iter, [ct], 0⟩] scope pos) scope env _ (newList []) false (eval iter env) (some (assign (.Name y py) env))) _ _ s
  refine wpAny_bind (wpAny_mono (wpAny_comprehension_free (use := some (assign (.Name y py) env)) (Q := fun _ s' => Q .next s') rfl hs hclos hkind hnames
    (wpAny_mono h (fun xv s₁ h₁ => ?_) fun _ _ e => e)) (fun _ s' hq => wpAny_pure (wpAny_pure hq)) fun _ _ e => e)
  obtain ⟨ax, its, news, o, rfl, hh, F, N, hm, hc, hd, hsz, R⟩ := h₁
  have hl : s₁.heap.IsTuple ax its := ⟨o, (N _ hm).1, hc, hd⟩
  have hlt : ax < s₁.heap.objs.size := Heap.lt_size (N _ hm).1
  refine wpAny_pyIter_tuple hl ?_
  have up : ∀ b o, s₁.heap.get? b = some o → (s₁.heap.push { cls := .type "tuple_iterator", data := .fields #[.ref ax, .int 0 0] }).get? b = some o := fun b o e => Heap.get?_push_of_some _ e
  refine block_T (S := fun nw => (ax, o) ∈ nw) (Walks.tuple hh s₁.heap.objs.size ax (Nat.ne_of_lt hlt) its) hsz (fun i h st => by obtain ⟨o, e, _⟩ := st.1; exact ⟨o, e⟩) (fun i h h' o2 nw st e e' _ N2 S2 => by
      obtain ⟨o', q, r⟩ := st.1; rw [e] at q; cases q; exact ⟨⟨o2, e', r⟩, ⟨o, (N2 _ S2).1, hc, hd⟩⟩) hcell hkind hx ⟨⟨_, Heap.get?_push_size _ rfl, rfl, rfl⟩, ⟨o, up _ _ (N _ hm).1, hc, hd⟩⟩ (fun b hb => ?_)
    (F.keeps up) (N.grown up) (Nat.ne_of_lt F.ns.lt) (next_is_new F) (fun p hp => Nat.ne_of_lt (Heap.lt_size (N p hp).1)) hm (R _) ?_
  · show b < (s₁.heap.push _).objs.size
    rw [Heap.size_push]
    rcases List.mem_cons.mp hb with rfl | hb
    · exact Nat.lt_succ_self _
    · rw [List.mem_singleton.mp hb]; exact Nat.lt_succ_of_lt hlt
  · intro D C h' tk m' ys news' F' N' o1 hn hC₀ hD₀ hCL hDL hCD offC fin
    show wpAny _ A (assign (.Name y py) env (.ref D)) _ _ _
    refine wpAny_assign_Name (wpAny_storeName_local hy F'.ns (fun h₂ hn₂ hs₂ => ?_) hp)
    have hL₀ : h₀.get? env.locals = none := Heap.get?_none_of_le F'.above
    have F₂ : Fr h₀ env.locals h₂ (fun z => if z = y then some (.ref D) else m z) := ⟨hn₂, fun b o e => hs₂.extBut b o (fun q => by rw [q, hL₀] at e; cases e) (F'.keep b o e), F'.above⟩
    refine ⟨m', hn.sameBut hs₂ hCL, fun h'' hs'' => fin D h'' _ (F₂.change hs'' hCL hC₀) (fun p hp => ?_) o1⟩
    have z : h₂.get? p.1 = some p.2 := hs₂.extBut _ _ (N' p hp).2.1 (N' p hp).1
    refine ⟨hs''.extBut _ _ ?_ z, (N' p hp).2⟩
    rcases List.mem_cons.mp hp with rfl | hp
    · exact Ne.symm hCD
    · exact offC p hp
end
theorem cn {L : Nat} (a b : Nat) (h : Nat.beq a b = false) : L + a ≠ L + b := fun e => Nat.ne_of_beq_eq_false h (Nat.add_left_cancel e)
theorem cg {L k : Nat} (a : Nat) (h : 173 < L) (hk : Nat.ble k 173 = true) : L + a ≠ k := Nat.ne_of_gt (Nat.lt_of_le_of_lt (Nat.le_of_ble_eq_true hk) (Nat.lt_of_lt_of_le h (Nat.le_add_right L a)))
/-- the locals of law -/
noncomputable def wl2 (script runs written text word primes games below told : Option Value) : Str → Option Value :=
  fun y => if y = "script" then script else if y = "runs" then runs else if y = "written" then written else if y = "text" then text else if y = "word" then word else if y = "primes" then primes else if y = "games" then games else if y = "below" then below else if y = "told" then told else none
/-- the runs -/
noncomputable def rsOf (ns : List Int) : List Nat := [5, 2] ++ (ns.take 3).map fun x => (x % 5).toNat
theorem tails_mem : ∀ t : List Nat, t.length ≤ 3 → (∀ x ∈ t, x < 5) → t ∈ tails
  | [], _, _ => by decide
  | [a], _, h => by
    have ha := h a (.head _)
    unfold tails
    simp only [List.mem_append, List.mem_map, List.mem_flatMap, List.mem_range]
    exact .inl (.inl (.inr ⟨a, ha, rfl⟩))
  | [a, b], _, h => by
    have ha := h a (.head _)
    have hb := h b (.tail _ (.head _))
    unfold tails
    simp only [List.mem_append, List.mem_map, List.mem_flatMap, List.mem_range]
    exact .inl (.inr ⟨a, ha, b, hb, rfl⟩)
  | [a, b, c], _, h => by
    have ha := h a (.head _)
    have hb := h b (.tail _ (.head _))
    have hc := h c (.tail _ (.tail _ (.head _)))
    unfold tails
    simp only [List.mem_append, List.mem_map, List.mem_flatMap, List.mem_range]
    exact .inr ⟨a, ha, b, hb, c, hc, rfl⟩
  | _ :: _ :: _ :: _ :: _, h, _ => by simp at h
/-- all that is known of the runs -/
structure Rk (rs : List Nat) : Prop where
  len : 2 ≤ rs.length ∧ rs.length ≤ 5
  r5 : ∀ r ∈ rs, r ≤ 5
  sum : rs.sum < 20
  ne : wlOf rs ≠ []
  game : ∀ p ∈ prs rs.sum, GOk (S1 rs) (S2 rs) (pcsOf rs) p rs.sum
  first : prod (w1 rs) = prod (rs.map fct)
  second : fct rs.sum / prod (rs.map fct) = prod (w2 rs) ∧ fct rs.sum % prod (rs.map fct) = 0
  b1 : ∀ i, i < (w1 rs).length → prod ((w1 rs).take i) < 2 ^ 60
  b2 : ∀ i, i < (w2 rs).length → prod ((w2 rs).take i) < 2 ^ 60
  b3 : ∀ i, i < rs.length → prod ((rs.map fct).take i) < 2 ^ 60
  b4 : 0 < prod (rs.map fct) ∧ prod (rs.map fct) < 2 ^ 59 ∧ fct rs.sum < 2 ^ 59
theorem rk_of (ns : List Int) : Rk (rsOf ns) := by
  have h1 : ((ns.take 3).map fun x => (x % 5).toNat).length ≤ 3 := by rw [List.length_map, List.length_take]; exact Nat.min_le_left _ _
  have h2 : ∀ x ∈ (ns.take 3).map (fun x => (x % 5).toNat), x < 5 := fun x hx => by
    obtain ⟨y, _, rfl⟩ := List.mem_map.mp hx
    omega
  have h := List.all_eq_true.mp ok_all _ (tails_mem _ h1 h2)
  rw [show 5 :: 2 :: (ns.take 3).map (fun x => (x % 5).toNat) = rsOf ns from rfl] at h
  unfold ok2B at h
  simp only [Bool.and_eq_true, decide_eq_true_eq, List.all_eq_true] at h
  obtain ⟨⟨⟨⟨⟨⟨a1, a2⟩, a3⟩, a4⟩, a5⟩, a6⟩, a7⟩ := h
  have hm : 2 ∈ prs (rsOf ns).sum := by
    unfold prs
    rw [List.mem_filter]
    refine ⟨.head _, decide_eq_true ?_⟩
    unfold rsOf
    simp only [List.cons_append, List.nil_append, List.sum_cons]
    omega
  refine ⟨⟨?_, ?_⟩, fun r hr => ?_, ((gOk_of (a1 2 hm)).sum).2, ?_, fun p hp => gOk_of (a1 p hp), a2, a3, fun i hi => a4 i (List.mem_range.mpr hi), fun i hi => a5 i (List.mem_range.mpr hi), fun i hi => a6 i (List.mem_range.mpr hi), a7⟩
  · unfold rsOf; simp
  · unfold rsOf; rw [List.length_append]; simp only [List.length_cons, List.length_nil]; omega
  · unfold rsOf at hr
    rcases List.mem_append.mp hr with hr | hr
    · simp only [List.mem_cons, List.not_mem_nil, or_false] at hr; omega
    · have := h2 r hr; omega
  · unfold rsOf
    intro e
    simp [wlOf, List.replicate] at e
theorem lens_bl : ∀ rs : List Nat, ((rs.map blank).map (·.length)).sum = rs.sum
  | [] => rfl
  | r :: t => by rw [List.map_cons, List.map_cons, List.sum_cons, lens_bl t, List.sum_cons, Tx_len, List.length_replicate]
theorem lit_qe : Str.ofString "\"end" = Tx [34, 101, 110, 100] := by decide +kernel
theorem lit_bs : Str.ofString "\\" = Tx [92] := by decide +kernel
theorem lit_ne : Str.ofString "\nend" = Tx [10, 101, 110, 100] := by decide +kernel
theorem add_T2 {prog : Program} {w : World} {A : Around} {E : Value → Shared → Prop} {s : Shared} {t u : Tok} {Q : Value → Shared → Prop} {x y : Str} {a b : List Nat} (hx : x = Tx a) (hy : y = Tx b) (hs : a.length + b.length ≤ 1000000) (h : ∀ t' k, Q (.str (Tx (a ++ b)) t') { s with toks := k }) : wpAny (model prog w) A (binaryOp .Add (.str x t) (.str y u)) Q E s := by
  subst hx
  exact add_Tx hy hs h
theorem join_wlT {prog : Program} {w : World} {A : Around} {E : Value → Shared → Prop} {s : Shared} {t : Tok} {Q : Value → Shared → Prop} {D : Addr} {its : List Value} {rs : List Nat} (hl : s.heap.IsList D its.toArray) (hi : StrsAre its (rs.map blank)) (hw : rs.sum + rs.length ≤ 1048576)
    (h : ∀ t' k, Q (.str (Tx (wlOf rs)) t') { s with toks := k }) : wpAny (model prog w) A (call (.builtin "str.join") [.str (Str.ofString "\t") t, .ref D]) Q E s := by
  refine join_listW hl (by simpa using hi) (by decide) (by rw [lens_bl, List.length_map]; exact hw) ?_
  rw [join_wl]; exact h
section
variable {w : World} {dp un : Nat} {gd : Option (List Code)} {env : Env} {outer : List Env} {A₀ : Around} {base h₀ : Heap} {L : Addr} {m : Str → Option Value} {tp : Program} {tl : List Str} {mean : ExcName → Option Value} {mg mb : Str → Option Value} {s : Shared} {Q E : Value → Shared → Prop}
/-- a call of _law_game -/
theorem game_use {a : LexA} {text : Str} {adr : List Addr} {RO : Nat → List (Addr × Obj) → Prop} {c : Int} {p : Nat} {aa blk : List (Addr × Obj)} {P : Addr} {its : List Value} {kP : Nat} {qs : List Nat} {pr tot : Nat} {tpr : Tok} {bg : Int} {tb : Tok} {xl xp : Addr} {S S' : WsSt} {bL bP T3 T4 : List (Addr × Obj)}
    (Rd : Reader w a.rd text adr RO) (O : a.Ok adr) (M : MachSt w a RO (c + nlTo text p) "\n\t\r " [] p blk) (off : ∀ q ∈ aa, q.1 ∉ a.adrs ++ adr) (hp : p ≤ text.length) (htl : text.length < 2000) (hcod : codes text p = [])
    (hm : ∀ q ∈ (P, listOf its.toArray kP) :: (bL ++ bP), q ∈ aa) (hi : StrsAre its (qs.map blank)) (WL : WsAt w xl S bL) (WP : WsAt w xp S' bP) (S3 : TabSt 37 35 4 "_int2digits.<locals>.inner" T3) (S4 : TabSt 44 50 4 "_digits2int.<locals>.inner" T4) (G : GOk S S' qs pr tot)
    (offTM : ∀ r ∈ T3 ++ T4, r.1 ∉ a.adrs ++ adr) (offT : ∀ q ∈ aa, ∀ r ∈ T3 ++ T4, q.1 ≠ r.1)
    (B : Below A₀ base outer h₀) (F : Fr h₀ L s.heap m) (X : (hd.heap_1 w.params).In h₀) (N : News h₀ L s.heap (aa ++ ((T3 ++ T4) ++ blk))) (T : Top tp tl mean mg mb h₀) (hf : env.frame = some L) (hke : env.scope.kind = .function)
    (hd : dp + 180 < recursionLimit) (hu : un + 1500 < cLine)
    (ret : ∀ g t1 t2 k T3' T4' blk2 p' h' tk', p' ≤ text.length → codes text p' = [] → MachSt w a RO (c + nlTo text p') "\n\t\r " [] p' blk2 → TabSt 37 35 4 "_int2digits.<locals>.inner" T3' → TabSt 44 50 4 "_digits2int.<locals>.inner" T4' →
      (∀ r ∈ T3' ++ T4', r.1 ∉ a.adrs ++ adr) → (∀ q ∈ aa, ∀ r ∈ T3' ++ T4', q.1 ≠ r.1) → (∀ q ∈ aa ++ ((T3' ++ T4') ++ blk2), q.1 ≠ g) → Fr h₀ L h' m →
      News h₀ L h' ((g, listOf #[.int ((pr ^ (alones pr qs).length : Nat) : Int) t1, .int ((pr ^ togLen pr qs : Nat) : Int) t2] k) :: (aa ++ ((T3' ++ T4') ++ blk2))) → Q (.ref g) { s with heap := h', toks := tk' }) :
    wpAny (model Challenge.rw_pe0259_02.row.prog w) (Ar dp un gd (env :: outer)) (call (.ref 207) [.ref a.x, .ref P, .int (pr : Int) tpr, .int bg tb, .ref xl, .ref xp]) Q E s := by
  refine use_g (game_c w a text adr RO Rd O c p blk M hp htl hcod P its kP qs hi pr tot tpr bg tb xl xp S S' bL bP T3 T4 WL WP S3 S4 G (off _ (hm _ (.head _))) (fun q hq => ?gk) (fun q hq => offT q (hm q hq))) (oth := aa.filter fun p => decide (p.1 ∉ ((P, listOf its.toArray kP) :: (bL ++ bP)).map Prod.fst)) B F X N T hf hke (fun q hq => ?gs) (fun q hq => List.mem_append_left _ (List.mem_filter.mp hq).1) (fun q hq r hr => ?gd) hd hu ?gr
  case gk =>
    rcases List.mem_append.mp hq with hq | hq
    · exact off q (hm q (.tail _ hq))
    · exact offTM q hq
  case gs =>
    rcases List.mem_cons.mp hq with rfl | hq
    · exact List.mem_append_left _ (hm _ (.head _))
    · rcases List.mem_append.mp hq with hq | hq
      · rcases List.mem_append.mp hq with hq | hq
        · exact List.mem_append_left _ (hm q (.tail _ hq))
        · exact List.mem_append_right _ (List.mem_append_left _ hq)
      · exact List.mem_append_right _ (List.mem_append_right _ hq)
  case gd =>
    have h := List.mem_filter.mp hq
    have h2 : ∀ r ∈ (P, listOf its.toArray kP) :: (bL ++ bP), q.1 ≠ r.1 := fun r hr e => of_decide_eq_true h.2 (e ▸ List.mem_map_of_mem hr)
    rcases List.mem_cons.mp hr with rfl | hr
    · exact h2 _ (.head _)
    · rcases List.mem_append.mp hr with hr | hr
      · rcases List.mem_append.mp hr with hr | hr
        · exact h2 r (.tail _ hr)
        · exact offT q h.1 r hr
      · exact (of_adrs M Rd (off q h.1) r hr).symm
  case gr =>
    rintro v blk' h' tk' F' N' ne - ⟨g, t1, t2, k, T3', T4', blk2, p', rfl, hp', hc', M', S3', S4', hg, hA', hT', rfl⟩
    have sel2 : ∀ q ∈ (P, listOf its.toArray kP) :: (((bL ++ bP) ++ (T3' ++ T4')) ++ blk2), q ∈ (g, listOf #[.int ((pr ^ (alones pr qs).length : Nat) : Int) t1, .int ((pr ^ togLen pr qs : Nat) : Int) t2] k) :: (P, listOf its.toArray kP) :: (((bL ++ bP) ++ (T3' ++ T4')) ++ blk2) := fun q hq => .tail _ hq
    have selK : ∀ q ∈ (P, listOf its.toArray kP) :: (bL ++ bP), q ∈ (P, listOf its.toArray kP) :: (((bL ++ bP) ++ (T3' ++ T4')) ++ blk2) := fun q hq => by
      rcases List.mem_cons.mp hq with rfl | hq
      · exact .head _
      · exact .tail _ (List.mem_append_left _ (List.mem_append_left _ hq))
    have selT : ∀ q ∈ T3' ++ T4', q ∈ (P, listOf its.toArray kP) :: (((bL ++ bP) ++ (T3' ++ T4')) ++ blk2) := fun q hq => .tail _ (List.mem_append_left _ (List.mem_append_right _ hq))
    have selB : ∀ q ∈ blk2, q ∈ (P, listOf its.toArray kP) :: (((bL ++ bP) ++ (T3' ++ T4')) ++ blk2) := fun q hq => .tail _ (List.mem_append_right _ hq)
    have two : ∀ q ∈ aa, q ∈ (P, listOf its.toArray kP) :: (bL ++ bP) ∨ q ∈ aa.filter fun p => decide (p.1 ∉ ((P, listOf its.toArray kP) :: (bL ++ bP)).map Prod.fst) := fun q hq => by
      by_cases e : q.1 ∈ ((P, listOf its.toArray kP) :: (bL ++ bP)).map Prod.fst
      · obtain ⟨z, hz, e2⟩ := List.mem_map.mp e
        obtain rfl : q = z := News.one N (List.mem_append_left _ hq) (List.mem_append_left _ (hm z hz)) e2.symm
        exact .inl hz
      · exact .inr (List.mem_filter.mpr ⟨hq, decide_eq_true e⟩)
    refine ret g t1 t2 k T3' T4' blk2 p' h' tk' hp' hc' M' S3' S4' hA' (fun q hq r hr => ?_) (fun q hq => ?_) F' (fun q hq => ?_)
    · rcases two q hq with h | h
      · exact hT' q h r hr
      · exact (ne r (sel2 r (selT r hr)) q h).symm
    · rcases List.mem_append.mp hq with hq | hq
      · rcases two q hq with h | h
        · exact hg q (selK q h)
        · exact (ne _ (.head _) q h).symm
      · rcases List.mem_append.mp hq with hq | hq
        · exact hg q (selT q hq)
        · exact hg q (selB q hq)
    · rcases List.mem_cons.mp hq with rfl | hq
      · exact N' _ (.head _)
      · rcases List.mem_append.mp hq with hq | hq
        · rcases two q hq with h | h
          · exact N' q (List.mem_append_left _ (sel2 q (selK q h)))
          · exact N' q (List.mem_append_right _ h)
        · rcases List.mem_append.mp hq with hq | hq
          · exact N' q (List.mem_append_left _ (sel2 q (selT q hq)))
          · exact N' q (List.mem_append_left _ (sel2 q (selB q hq)))
end
/-- lists of two numbers -/
inductive PrsAre (news : List (Addr × Obj)) : List Value → List (Nat × Nat) → Prop
  | nil : PrsAre news [] []
  | cons {g : Addr} {x y : Nat} {t1 t2 : Tok} {k : Nat} {vs : List Value} {xs : List (Nat × Nat)} (h : (g, listOf #[.int (x : Int) t1, .int (y : Int) t2] k) ∈ news) (r : PrsAre news vs xs) : PrsAre news (.ref g :: vs) ((x, y) :: xs)
theorem PrsAre.up {n1 n2 : List (Addr × Obj)} {vs : List Value} {xs : List (Nat × Nat)} (h : PrsAre n1 vs xs) (u : ∀ q ∈ n1, q ∈ n2) : PrsAre n2 vs xs := by
  induction h with
  | nil => exact .nil
  | cons a r ih => exact .cons (u _ a) ih
theorem PrsAre.snoc {news : List (Addr × Obj)} {vs : List Value} {xs : List (Nat × Nat)} (h : PrsAre news vs xs) {g : Addr} {x y : Nat} {t1 t2 : Tok} {k : Nat} (hg : (g, listOf #[.int (x : Int) t1, .int (y : Int) t2] k) ∈ news) : PrsAre news (vs ++ [.ref g]) (xs ++ [(x, y)]) := by
  induction h with
  | nil => exact .cons hg .nil
  | cons a r ih => exact .cons a ih
theorem PrsAre.length {news : List (Addr × Obj)} {vs : List Value} {xs : List (Nat × Nat)} (h : PrsAre news vs xs) : vs.length = xs.length := by
  induction h with
  | nil => rfl
  | cons a r ih => rw [List.length_cons, List.length_cons, ih]
theorem PrsAre.at {news : List (Addr × Obj)} {vs : List Value} {xs : List (Nat × Nat)} (h : PrsAre news vs xs) {i : Nat} {v : Value} (hv : vs[i]? = some v) : ∃ g x y t1 t2 k, xs[i]? = some (x, y) ∧ v = .ref g ∧ (g, listOf #[.int (x : Int) t1, .int (y : Int) t2] k) ∈ news := by
  induction h generalizing i with
  | nil => simp at hv
  | cons a r ih =>
    cases i with
    | zero => exact ⟨_, _, _, _, _, _, rfl, (Option.some.inj hv).symm, a⟩
    | succ i => exact ih hv
/-- what a game tells -/
noncomputable def toldG (rs : List Nat) (p : Nat) : Nat × Nat := (p ^ (alones p (pcsOf rs)).length, p ^ togLen p (pcsOf rs))
/-- while the games are played -/
noncomputable def GmsJ (w : World) (a : LexA) (text : Str) (adr : List Addr) (RO : Nat → List (Addr × Obj) → Prop) (AE : List (Addr × Obj)) (xs : List (Nat × Nat)) (ys : List Value) (news : List (Addr × Obj)) : Prop :=
  ∃ A T3 T4 p blk, (∀ q ∈ AE, q ∈ A) ∧ (∀ q ∈ A, q.1 ∉ a.adrs ++ adr) ∧ p ≤ text.length ∧ codes text p = [] ∧ MachSt w a RO (1 + nlTo text p) "\n\t\r " [] p blk ∧ TabSt 37 35 4 "_int2digits.<locals>.inner" T3 ∧ TabSt 44 50 4 "_digits2int.<locals>.inner" T4 ∧
    (∀ r ∈ T3 ++ T4, r.1 ∉ a.adrs ++ adr) ∧ (∀ q ∈ A, ∀ r ∈ T3 ++ T4, q.1 ≠ r.1) ∧ PrsAre A ys xs ∧ news = A ++ ((T3 ++ T4) ++ blk)
theorem ends_of {h₀ h' : Heap} {L : Addr} {T3 T4 nw : List (Addr × Obj)} {tab : Array Value} (S3 : TabSt 37 35 4 "_int2digits.<locals>.inner" T3) (S4 : TabSt 44 50 4 "_digits2int.<locals>.inner" T4) (N : News h₀ L h' nw) (h1 : (173, tabObj tab) ∈ nw) (h2 : ∀ p ∈ T3 ++ T4, p ∈ nw) :
    ∃ p2 p3, News h₀ L h' [(173, tabObj tab), (44, tabObj p2), (37, tabObj p3)] := by
  obtain ⟨p3, m3⟩ := tab_head S3
  obtain ⟨p2, m2⟩ := tab_head S4
  refine ⟨p2, p3, List.forall_mem_cons.mpr ⟨N _ h1, List.forall_mem_cons.mpr ⟨N _ (h2 _ (List.mem_append_right _ m2)), List.forall_mem_cons.mpr ⟨N _ (h2 _ (List.mem_append_left _ m3)), List.forall_mem_nil _⟩⟩⟩⟩
theorem pair_eqv (a b c d : Int) : PyData.eqv (.tuple [.int a, .int b]) (.tuple [.int c, .int d]) = decide (a = c ∧ b = d) := by
  simp only [PyData.eqv, PyData.eqvAll]
  by_cases h : a = c <;> by_cases h' : b = d <;> simp [h, h']
theorem pair_shaped (a b : Int) : SeqAt.shaped (.tuple [.int a, .int b]) = true := by
  simp [SeqAt.shaped, PyData.canLay0, PyData.canLayAll0, PyData.depth, PyData.depthAll]
theorem eq_pairs {prog : Program} {w : World} {A : Around} {E : Value → Shared → Prop} {s : Shared} {Q : Value → Shared → Prop} {x y : Addr} {o1 o2 : Obj} {n1 n2 : Nat} {a b c d : Int} {t1 t2 t3 t4 : Tok}
    (e1 : s.heap.get? x = some o1) (c1 : o1.cls = .type "tuple") (d1 : o1.data = .seq #[.int a t1, .int b t2] n1) (e2 : s.heap.get? y = some o2) (c2 : o2.cls = .type "tuple") (d2 : o2.data = .seq #[.int c t3, .int d t4] n2) (hu : A.units + 64 < cLine)
    (h : Q (.bool (decide (a = c ∧ b = d))) s) : wpAny (model prog w) A (compareOp .Eq (.ref x) (.ref y)) Q E s :=
  eq_dataH (reads_tuple_at e1 c1 d1 (.cons (.int _ _) (.cons (.int _ _) .nil))) (reads_tuple_at e2 c2 d2 (.cons (.int _ _) (.cons (.int _ _) .nil))) (pair_shaped _ _) (pair_shaped _ _) hu (by rw [pair_eqv]; exact h)

section
variable {w : World} {dp un : Nat} {gd : Option (List Code)} {outer : List Env} {A₀ : Around} {base h₀ : Heap} {L fa : Addr} {cd : Value} {tp : Program} {tl : List Str} {mean : ExcName → Option Value} {mg mb : Str → Option Value} {s : Shared} {Q : Flow → Shared → Prop} {E : Value → Shared → Prop} {rest : List Stmt} {scope : Scope}
theorem stI2 (hdef : lawRest ((hd.heap_1 w.params).lookup 212) 17 = some (rest, scope)) (B : Below A₀ base outer h₀) (X : (hd.heap_1 w.params).In h₀) (T : Top tp tl mean mg mb h₀)
    {sc : Addr}
    {T3 T4 : List (Addr × Obj)} {tab : Array Value} (S3 : TabSt 37 35 4 "_int2digits.<locals>.inner" T3) (S4 : TabSt 44 50 4 "_digits2int.<locals>.inner" T4)
    {rs : List Nat} (R : Rk rs) {W : List (Addr × Obj)} (hWt : (173, tabObj tab) ∈ W) {Dg : Addr} {us : List Value} {kg : Nat} (hus : PrsAre W us ((prs rs.sum).map (toldG rs)))
    {runs written text word primes : Option Value} {tbl : Tok} {Dt : Addr} {tq tr : Tok}
    (F : Fr h₀ L s.heap (wl2 (some (.ref sc)) runs written text word primes (some (.ref Dg)) (some (.int ((prod (rs.map fct) : Nat) : Int) tbl)) (some (.ref Dt))))
    (N : News h₀ L s.heap ((Dt, { cls := .type "tuple", data := .seq #[.int ((prod (w2 rs) : Nat) : Int) tq, .int 0 tr] }) :: (Dg, listOf us.toArray kg) :: (W ++ (T3 ++ T4))))
    (hL : 173 < L) (hd' : dp + 250 < recursionLimit) (hu : un + 2500 < cLine) (hQ : LawEnd h₀ L Q s) :
    wpAny (model Challenge.rw_pe0259_02.row.prog w) (Ar dp un gd (envOfC "law" scope L fa cd :: outer)) (execs rest (envOfC "law" scope L fa cd)) Q E s := by
  revert hdef
  k_fill
  intro hdef
  refine' law_out ?hl hdef ?_
  (case hl => k_is)
  clear hdef
  intro hdef
  cases hdef
  have codeHd := codeHd_of_K (c := 41) (P := 37) X (by kernel_rfl)
  (try dsimp only [List.drop]); (try k_fold)
  unfold wl2 at F
  have hfirst := R.first
  have hul0 := hus.length
  have hul : us.length ≤ 8 := by
    rw [hul0, List.length_map]
    unfold prs
    exact Nat.le_trans (List.length_filter_le _ _) (by decide)
  obtain ⟨xs, hxs⟩ : ∃ xs, xs = (prs rs.sum).map (toldG rs) := ⟨_, rfl⟩
  have hw1 : w1 rs = xs.map Prod.fst := by rw [hxs, List.map_map]; rfl
  have hw2 : w2 rs = xs.map Prod.snd := by rw [hxs, List.map_map]; rfl
  have hb1 := R.b1
  have hb2 := R.b2
  rw [← hxs] at hus hul0
  rw [hw1] at hb1 hfirst
  rw [hw2] at hb2 N
  rw [← hfirst] at F
  clear hxs hw1 hw2 R hfirst
  have hus2 := hus.up (n2 := W ++ (T3 ++ T4)) (fun z hz => List.mem_append_left _ hz)
  have hWe : ∀ z ∈ (173, tabObj tab) :: (T3 ++ T4), z ∈ W ++ (T3 ++ T4) := List.forall_mem_cons.mpr ⟨List.mem_append_left _ hWt, fun z hz => List.mem_append_right _ hz⟩
  obtain ⟨V, hV⟩ : ∃ V, V = W ++ (T3 ++ T4) := ⟨_, rfl⟩
  rw [← hV] at hus2 hWe N
  clear hus hV
  ((repeat' ((fail_if_success (with_reducible show wpAny _ _ (eval (Expr.ListComp _ _ _ _) _) _ _ _)); (first | (k_unfold; (try dsimp only)) | ((with_reducible first | show wpAny _ _ (exec _ _) _ _ _ | show wpAny _ _ (execs _ _) _ _ _); k_fold) | (k_end; wrow_close) | walk1 | (dsimp only; walk1) | (leave1; (try dsimp only))))) <;> (repeat (k_unfold; (try dsimp only))))
  rename Fr _ _ _ _ => F2
  rename News _ _ _ _ => N2
  refine LCg.ListComp_U (F₀ := F2) (by with_unfolding_all rfl) (by decide) (by rfl) (by decide) (by rfl) ?_
  ((repeat' ((fail_if_success (with_reducible show LCg.CompSrc _ _ _ _ _ _ _ _ _ _ _ _ _ _)); (first | (k_unfold; (try dsimp only)) | ((with_reducible first | show wpAny _ _ (exec _ _) _ _ _ | show wpAny _ _ (execs _ _) _ _ _); k_fold) | (k_end; wrow_close) | walk1 | (dsimp only; walk1) | (leave1; (try dsimp only))))) <;> (repeat (k_unfold; (try dsimp only))))
  rename Fr _ _ _ _ => F3
  rename News _ _ _ _ => N3
  obtain ⟨NW, hNW⟩ : ∃ NW, NW = (Dt, { cls := .type "tuple", data := .seq #[.int ((prod (xs.map Prod.snd) : Nat) : Int) tq, .int 0 tr] }) :: (Dg, listOf us.toArray kg) :: V := ⟨_, rfl⟩
  refine LCg.CompSrc.ledger (k := kg) (its := us.toArray) (news := NW) rfl F3 (by rw [hNW]; exact N3) (by rw [hNW]; exact .tail _ (.head _)) (by rw [List.size_toArray, sizeLine_eq]; omega) (fun g' => ?_)
  refine rest_of us.toArray.size (fun i ys news => IntsAre ys (((xs.take i).map Prod.fst).map fun q : Nat => (q : Int)) ∧ news = NW) ?_ ?_ _ 0 [] _ (Nat.zero_add _) ⟨.nil, rfl⟩
  · rintro i ys news v I oI C oC D m₂ h9 tk9 E' hi2 ⟨hys, rfl⟩ hv hns hx F11 N11 o3' ne
    obtain ⟨g, x, y, t1, t2, kk, hxx, rfl, hg⟩ := hus2.at (by simpa using hv)
    subst hNW
    have N12 : News h₀ L h9 ((g, listOf #[.int (x : Int) t1, .int (y : Int) t2] kk) :: (I, oI) :: (C, oC) :: (D, LCg.lst ys) :: (Dt, { cls := .type "tuple", data := .seq #[.int ((prod (xs.map Prod.snd) : Nat) : Int) tq, .int 0 tr] }) :: (Dg, listOf us.toArray kg) :: V) := List.forall_mem_cons.mpr ⟨N11 _ (mem_skip [(_, _), (_, _), (_, _), (_, _), (_, _)] hg), N11⟩
    clear N11
    clear F3 N3
    try clear F2 N2
    (try dsimp only); (try k_fold)
    ((repeat' ((fail_if_success (with_reducible show LCg.CompEnd _ _ _ _ _ _ _ _ _ _ _ _ _ _)); (first | (k_unfold; (try dsimp only)) | ((with_reducible first | show wpAny _ _ (exec _ _) _ _ _ | show wpAny _ _ (execs _ _) _ _ _); k_fold) | (k_end; wrow_close) | walk1 | (dsimp only; walk1) | (leave1; (try dsimp only))))) <;> (repeat (k_unfold; (try dsimp only))))
    rename Fr _ _ _ _ => F14
    rename News _ _ _ _ => N14
    refine LCg.CompEnd.intro F14 N14 _ (fun q hq => .tail _ hq) o3' (.inr ⟨_, .tail _ (.head _), rfl, _, rfl⟩) ⟨?_, rfl⟩
    rw [List.take_add_one, hxx]
    show IntsAre _ (List.map _ (List.map _ (_ ++ [(x, y)])))
    rw [List.map_append, List.map_append]
    exact hys.append (.cons _ _ .nil)
  · rintro ys news ⟨hys, rfl⟩ Da h9 tk9 F11 N11 oD
    rw [List.size_toArray, hul0, List.take_length] at hys
    subst hNW
    clear F3 N3
    try clear F2 N2
    (try dsimp only); (try k_fold)
    ((repeat' ((fail_if_success (with_reducible show wpAny _ _ (call (Value.ref 195) _) _ _ _)); (first | (k_unfold; (try dsimp only)) | ((with_reducible first | show wpAny _ _ (exec _ _) _ _ _ | show wpAny _ _ (execs _ _) _ _ _); k_fold) | (k_end; wrow_close) | walk1 | (dsimp only; walk1) | (leave1; (try dsimp only))))) <;> (repeat (k_unfold; (try dsimp only))))
    rename Fr _ _ _ _ => F12
    rename News _ _ _ _ => N12
    refine use_more (prodl_c w Da ys ys.length _ hys hb1) (fun n v b hb => ⟨[], hb.2⟩) B F12 X N12 T rfl rfl (List.forall_mem_cons.mpr ⟨.head _, List.forall_mem_nil _⟩) (by k_room) (by k_units) ?_
    rintro v nb h13 tk13 F13 N13 - ⟨⟨t13, rfl⟩, hnb⟩
    obtain rfl : nb = [] := List.append_cancel_right (hnb.trans rfl)
    clear F12 N12
    (try dsimp only)
    ((repeat' ((fail_if_success (with_reducible show wpAny _ _ (eval (Expr.ListComp _ _ _ _) _) _ _ _)); (first | (k_unfold; (try dsimp only)) | ((with_reducible first | show wpAny _ _ (exec _ _) _ _ _ | show wpAny _ _ (execs _ _) _ _ _); k_fold) | (k_end; wrow_close) | walk1 | (dsimp only; walk1) | (leave1; (try dsimp only))))) <;> (repeat (k_unfold; (try dsimp only))))
    rotate_left
    · rename (_ : Int) ≠ _ => hne
      exact absurd rfl hne
    rename Fr _ _ _ _ => F14
    rename News _ _ _ _ => N14
    try clear F13 N13
    have N15 := cb_drop (news := (Dt, { cls := .type "tuple", data := .seq #[.int ((prod (xs.map Prod.snd) : Nat) : Int) tq, .int 0 tr] }) :: (Dg, listOf us.toArray kg) :: V) N14 (fun q hq => List.Mem.tail _ hq)
    clear N14
    refine LCg.ListComp_U (F₀ := F14) (by with_unfolding_all rfl) (by decide) (by rfl) (by decide) (by rfl) ?_
    ((repeat' ((fail_if_success (with_reducible show LCg.CompSrc _ _ _ _ _ _ _ _ _ _ _ _ _ _)); (first | (k_unfold; (try dsimp only)) | ((with_reducible first | show wpAny _ _ (exec _ _) _ _ _ | show wpAny _ _ (execs _ _) _ _ _); k_fold) | (k_end; wrow_close) | walk1 | (dsimp only; walk1) | (leave1; (try dsimp only))))) <;> (repeat (k_unfold; (try dsimp only))))
    rename Fr _ _ _ _ => F16
    rename News _ _ _ _ => N16
    obtain ⟨NW, hNW⟩ : ∃ NW, NW = (Dt, { cls := .type "tuple", data := .seq #[.int ((prod (xs.map Prod.snd) : Nat) : Int) tq, .int 0 tr] }) :: (Dg, listOf us.toArray kg) :: V := ⟨_, rfl⟩
    refine LCg.CompSrc.ledger (k := kg) (its := us.toArray) (news := NW) rfl F16 (by rw [hNW]; exact N16) (by rw [hNW]; exact .tail _ (.head _)) (by rw [List.size_toArray, sizeLine_eq]; omega) (fun g' => ?_)
    refine rest_of us.toArray.size (fun i ys news => IntsAre ys (((xs.take i).map Prod.snd).map fun q : Nat => (q : Int)) ∧ news = NW) ?_ ?_ _ 0 [] _ (Nat.zero_add _) ⟨.nil, rfl⟩
    · rintro i ys news v I oI C oC D m₂ h9 tk9 E' hi2 ⟨hys, rfl⟩ hv hns hx F11 N11 o3' ne
      obtain ⟨g, x, y, t1, t2, kk, hxx, rfl, hg⟩ := hus2.at (by simpa using hv)
      subst hNW
      have N12 : News h₀ L h9 ((g, listOf #[.int (x : Int) t1, .int (y : Int) t2] kk) :: (I, oI) :: (C, oC) :: (D, LCg.lst ys) :: (Dt, { cls := .type "tuple", data := .seq #[.int ((prod (xs.map Prod.snd) : Nat) : Int) tq, .int 0 tr] }) :: (Dg, listOf us.toArray kg) :: V) := List.forall_mem_cons.mpr ⟨N11 _ (mem_skip [(_, _), (_, _), (_, _), (_, _), (_, _)] hg), N11⟩
      clear N11
      clear F16 N16
      try clear F14 N15
      (try dsimp only); (try k_fold)
      ((repeat' ((fail_if_success (with_reducible show LCg.CompEnd _ _ _ _ _ _ _ _ _ _ _ _ _ _)); (first | (k_unfold; (try dsimp only)) | ((with_reducible first | show wpAny _ _ (exec _ _) _ _ _ | show wpAny _ _ (execs _ _) _ _ _); k_fold) | (k_end; wrow_close) | walk1 | (dsimp only; walk1) | (leave1; (try dsimp only))))) <;> (repeat (k_unfold; (try dsimp only))))
      rename Fr _ _ _ _ => F17
      rename News _ _ _ _ => N17
      refine LCg.CompEnd.intro F17 N17 _ (fun q hq => .tail _ hq) o3' (.inr ⟨_, .tail _ (.head _), rfl, _, rfl⟩) ⟨?_, rfl⟩
      rw [List.take_add_one, hxx]
      show IntsAre _ (List.map _ (List.map _ (_ ++ [(x, y)])))
      rw [List.map_append, List.map_append]
      exact hys.append (.cons _ _ .nil)
    · rintro ys news ⟨hys, rfl⟩ Dz h9 tk9 F11 N11 oD
      rw [List.size_toArray, hul0, List.take_length] at hys
      subst hNW
      clear F16 N16
      try clear F14 N15
      (try dsimp only); (try k_fold)
      ((repeat' ((fail_if_success (with_reducible show wpAny _ _ (call (Value.ref 195) _) _ _ _)); (first | (k_unfold; (try dsimp only)) | ((with_reducible first | show wpAny _ _ (exec _ _) _ _ _ | show wpAny _ _ (execs _ _) _ _ _); k_fold) | (k_end; wrow_close) | walk1 | (dsimp only; walk1) | (leave1; (try dsimp only))))) <;> (repeat (k_unfold; (try dsimp only))))
      rename Fr _ _ _ _ => F12
      rename News _ _ _ _ => N12
      refine use_more (prodl_c w Dz ys ys.length _ hys hb2) (fun n v b hb => ⟨[], hb.2⟩) B F12 X N12 T rfl rfl (List.forall_mem_cons.mpr ⟨.head _, List.forall_mem_nil _⟩) (by k_room) (by k_units) ?_
      rintro v nb h18 tk18 F18 N18 - ⟨⟨t18, rfl⟩, hnb⟩
      obtain rfl : nb = [] := List.append_cancel_right (hnb.trans rfl)
      clear F12 N12
      (try dsimp only)
      simp only [List.nil_append] at N18
      ((repeat' ((fail_if_success (with_reducible show wpAny _ _ (compareOp _ _ _) _ _ _)); (first | (k_unfold; (try dsimp only)) | ((with_reducible first | show wpAny _ _ (exec _ _) _ _ _ | show wpAny _ _ (execs _ _) _ _ _); k_fold) | (k_end; wrow_close) | walk1 | (dsimp only; walk1) | (leave1; (try dsimp only))))) <;> (repeat (k_unfold; (try dsimp only))))
      rename Fr _ _ _ _ => F19
      rename News _ _ _ _ => N19
      refine eq_pairs (News.get N19 (by k_mem)) rfl rfl (News.get N19 (by k_mem)) rfl rfl (by k_units) ?_
      rw [decide_eq_true ⟨rfl, rfl⟩]
      (try dsimp only)
      ((repeat' (first | (k_unfold; (try dsimp only)) | ((with_reducible first | show wpAny _ _ (exec _ _) _ _ _ | show wpAny _ _ (execs _ _) _ _ _); k_fold) | (k_end; wrow_close) | walk1 | (dsimp only; walk1) | (leave1; (try dsimp only)))) <;> (repeat (k_unfold; (try dsimp only))))
      (try dsimp only)
      rename Fr _ _ _ _ => F20
      rename News _ _ _ _ => N20
      obtain ⟨p2, p3, N10⟩ := ends_of (tab := tab) S3 S4 N20 (mem_skip [(_, _), (_, _), (_, _), (_, _)] (hWe _ (.head _))) (fun p hp => mem_skip [(_, _), (_, _), (_, _), (_, _)] (hWe p (.tail _ hp)))
      exact hQ _ _ _ _ _ _ F20 N10
end
theorem fct_sm : ∀ {n : Nat}, n < 20 → ∀ i, i < n → prod (((List.range n).map (· + 1)).take i) < 2 ^ 60 := fun {n} h i hi =>
  (by decide +kernel : ∀ n ∈ List.range 20, ∀ i ∈ List.range 20, i < n → prod (((List.range n).map (· + 1)).take i) < 2 ^ 60) n (List.mem_range.mpr h) i (List.mem_range.mpr (Nat.lt_trans hi h)) hi

section
variable {w : World} {dp un : Nat} {gd : Option (List Code)} {outer : List Env} {A₀ : Around} {base h₀ : Heap} {L fa : Addr} {cd : Value} {tp : Program} {tl : List Str} {mean : ExcName → Option Value} {mg mb : Str → Option Value} {s : Shared} {Q : Flow → Shared → Prop} {E : Value → Shared → Prop} {rest : List Stmt} {scope : Scope}
theorem stH2 (hdef : lawRest ((hd.heap_1 w.params).lookup 212) 16 = some (rest, scope)) (B : Below A₀ base outer h₀) (X : (hd.heap_1 w.params).In h₀) (T : Top tp tl mean mg mb h₀)
    {sc : Addr}
    {T3 T4 : List (Addr × Obj)} {tab : Array Value} (S3 : TabSt 37 35 4 "_int2digits.<locals>.inner" T3) (S4 : TabSt 44 50 4 "_digits2int.<locals>.inner" T4)
    {rs : List Nat} (R : Rk rs) {o4 : Obj} {tt : Tok} (k4 : cellIs o4 (some (.int ((rs.sum : Nat) : Int) tt)))
    {W : List (Addr × Obj)} (hWt : (173, tabObj tab) ∈ W) {Dg : Addr} {us : List Value} {kg : Nat} (hus : PrsAre W us ((prs rs.sum).map (toldG rs)))
    {runs written text word primes : Option Value} {tbl : Tok}
    (F : Fr h₀ L s.heap (wl2 (some (.ref sc)) runs written text word primes (some (.ref Dg)) (some (.int ((prod (rs.map fct) : Nat) : Int) tbl)) none))
    (N : News h₀ L s.heap (((Dg, listOf us.toArray kg) :: (L + 1 + 1 + 1 + 1, o4) :: W) ++ (T3 ++ T4)))
    (offT : ∀ q ∈ (Dg, listOf us.toArray kg) :: (L + 1 + 1 + 1 + 1, o4) :: W, ∀ r ∈ T3 ++ T4, q.1 ≠ r.1)
    (hL : 173 < L) (hd' : dp + 250 < recursionLimit) (hu : un + 2500 < cLine) (hQ : LawEnd h₀ L Q s) :
    wpAny (model Challenge.rw_pe0259_02.row.prog w) (Ar dp un gd (envOfC "law" scope L fa cd :: outer)) (execs rest (envOfC "law" scope L fa cd)) Q E s := by
  revert hdef
  k_fill
  intro hdef
  refine' law_out ?hl hdef ?_
  (case hl => k_is)
  clear hdef
  intro hdef
  cases hdef
  have codeHd := codeHd_of_K (c := 41) (P := 37) X (by kernel_rfl)
  (try dsimp only [List.drop]); (try k_fold)
  unfold wl2 at F
  have hRs := R.sum
  have hb4 := R.b4
  have hsec := R.second
  obtain ⟨W2, hW2⟩ : ∃ W2, W2 = W ++ (T3 ++ T4) := ⟨_, rfl⟩
  have N0 : News h₀ L s.heap ((Dg, listOf us.toArray kg) :: (L + 1 + 1 + 1 + 1, o4) :: W2) := fun z hz => N z (by rw [hW2] at hz; exact hz)
  clear N
  have hz := next_is_new F
  have hzL : @Ne Nat s.heap.objs.size L := (Nat.ne_of_lt F.ns.lt).symm
  ((repeat' ((fail_if_success (with_reducible show wpAny _ _ (call (Value.ref 195) _) _ _ _)); (first | (k_unfold; (try dsimp only)) | ((with_reducible first | show wpAny _ _ (exec _ _) _ _ _ | show wpAny _ _ (execs _ _) _ _ _); k_fold) | (k_end; wrow_close) | walk1 | (dsimp only; walk1) | (leave1; (try dsimp only))))) <;> (repeat (k_unfold; (try dsimp only))))
  rename IsRange _ _ _ _ _ _ _ _ => hr
  rename Fr _ _ _ _ => F2
  rename News _ _ _ _ => N2
  refine use_more (prodr_c w _ rs.sum _ _ _ (by omega) (fct_sm hRs)) (fun n v b hb => ⟨[], hb.2⟩) (news := (s.heap.objs.size, rngO (((rs.sum : Nat) : Int) + 1) _ _ _) :: (Dg, listOf us.toArray kg) :: (L + 1 + 1 + 1 + 1, o4) :: W2) B F2 X (List.forall_mem_cons.mpr ⟨⟨hr, hzL, hz⟩, N2⟩) T rfl rfl (List.forall_mem_cons.mpr ⟨.head _, List.forall_mem_nil _⟩) (by k_room) (by k_units) ?_
  rintro v13 nb h13 tk13 F13 N13 - ⟨⟨t13, rfl⟩, hnb⟩
  obtain rfl : nb = [] := List.append_cancel_right (hnb.trans rfl)
  clear F2 N2
  try clear F
  try clear N0
  (try dsimp only)
  ((repeat' ((fail_if_success (with_reducible show wpAny _ _ (call (Value.ref 63) _) _ _ _)); (first | (k_unfold; (try dsimp only)) | ((with_reducible first | show wpAny _ _ (exec _ _) _ _ _ | show wpAny _ _ (execs _ _) _ _ _); k_fold) | (k_end; wrow_close) | walk1 | (dsimp only; walk1) | (leave1; (try dsimp only))))) <;> (repeat (k_unfold; (try dsimp only))))
  rename Fr _ _ _ _ => F14
  rename News _ _ _ _ => N14
  refine dm_use (aa := (Dg, listOf us.toArray kg) :: (L + 1 + 1 + 1 + 1, o4) :: W) (T3 := T3) (T4 := T4) S3 S4 offT (by exact_mod_cast hb4.1) (by rw [Int.natAbs_natCast]; exact hb4.2.2) (by rw [Int.natAbs_natCast]; exact hb4.2.1) B F14 X (fun z hz => N14 z (by rw [hW2]; exact .tail _ hz)) T rfl rfl (by k_room) (by k_units) ?_
  intro Dt T5 T6 tq tr h15 tk15 S5 S6 offT5 offD offD' F15 N15
  clear F14 N14
  try clear F13 N13
  (try dsimp only)
  ((repeat' ((fail_if_success (with_reducible show wpAny _ _ (execs (Stmt.Return _ _ :: _) _) _ _ _)); (first | (k_unfold; (try dsimp only)) | ((with_reducible first | show wpAny _ _ (exec _ _) _ _ _ | show wpAny _ _ (execs _ _) _ _ _); k_fold) | (k_end; wrow_close) | walk1 | (dsimp only; walk1) | (leave1; (try dsimp only))))) <;> (repeat (k_unfold; (try dsimp only))))
  rename Fr _ _ _ _ => F16
  rename News _ _ _ _ => N16
  have e1 : ((prod ((List.range rs.sum).map (· + 1)) : Nat) : Int) / ((prod (rs.map fct) : Nat) : Int) = ((prod (w2 rs) : Nat) : Int) := by rw [← Int.natCast_ediv]; exact congrArg Int.ofNat hsec.1
  have e2 : ((prod ((List.range rs.sum).map (· + 1)) : Nat) : Int) % ((prod (rs.map fct) : Nat) : Int) = 0 := by rw [← Int.natCast_emod]; exact congrArg Int.ofNat hsec.2
  rw [e1, e2] at N16
  have F17 := Fr.congr (m' := wl2 (some (.ref sc)) runs written text word primes (some (.ref Dg)) (some (.int ((prod (rs.map fct) : Nat) : Int) tbl)) (some (.ref Dt))) F16 (by (intro y; unfold wl2; (rcases Classical.em (y = "script") with rfl | h0); exact rfl; (rcases Classical.em (y = "runs") with rfl | h1); exact rfl; (rcases Classical.em (y = "written") with rfl | h2); exact rfl; (rcases Classical.em (y = "text") with rfl | h3); exact rfl; (rcases Classical.em (y = "word") with rfl | h4); exact rfl; (rcases Classical.em (y = "primes") with rfl | h5); exact rfl; (rcases Classical.em (y = "games") with rfl | h6); exact rfl; (rcases Classical.em (y = "below") with rfl | h7); exact rfl; (rcases Classical.em (y = "told") with rfl | h8); exact rfl; (try simp only [if_neg h0, if_neg h1, if_neg h2, if_neg h3, if_neg h4, if_neg h5, if_neg h6, if_neg h7, if_neg h8]); (first | done | exact rfl | (show List.lookup y (_ :: _) = none; simp only [List.lookup, beq_eq_false_iff_ne.mpr h0, beq_eq_false_iff_ne.mpr h1, beq_eq_false_iff_ne.mpr h2, beq_eq_false_iff_ne.mpr h3, beq_eq_false_iff_ne.mpr h4, beq_eq_false_iff_ne.mpr h5, beq_eq_false_iff_ne.mpr h6, beq_eq_false_iff_ne.mpr h7, beq_eq_false_iff_ne.mpr h8]) | (simp only [List.lookup, beq_eq_false_iff_ne.mpr h0, beq_eq_false_iff_ne.mpr h1, beq_eq_false_iff_ne.mpr h2, beq_eq_false_iff_ne.mpr h3, beq_eq_false_iff_ne.mpr h4, beq_eq_false_iff_ne.mpr h5, beq_eq_false_iff_ne.mpr h6, beq_eq_false_iff_ne.mpr h7, beq_eq_false_iff_ne.mpr h8]; done))))
  refine stI2 (s := { s with heap := _, toks := _ }) (tq := tq) (tr := tr) (kg := kg) (tab := tab) (W := W) (by exact rfl) B X T S5 S6 R hWt hus F17 (fun z hz => N16 z ?_) hL hd' hu hQ
  rcases List.mem_cons.mp hz with rfl | hz
  · exact .head _
  · rcases List.mem_cons.mp hz with rfl | hz
    · exact .tail _ (.head _)
    · exact .tail _ (.tail _ (.tail _ hz))
end
theorem pairs_read {h : Heap} {news : List (Addr × Obj)} {us : List Value} {xs : List (Nat × Nat)} (P : PrsAre news us xs) (hn : ∀ q ∈ news, h.get? q.1 = some q.2) : ∃ as, ReadsAll h us (xs.map fun q => PyData.list [.int q.1, .int q.2]) as := by
  induction P with
  | nil => exact ⟨[], .nil⟩
  | cons a r ih =>
    obtain ⟨as, ih⟩ := ih
    exact ⟨_, .cons (.list (hn _ a) rfl rfl (.cons (.int _ _) (.cons (.int _ _) .nil))) ih⟩
theorem pairs_lay : ∀ xs : List (Nat × Nat), PyData.canLayAll0 (xs.map fun q => PyData.list [.int q.1, .int q.2]) = true
  | [] => rfl
  | x :: r => by
    rw [List.map_cons]
    simp only [PyData.canLayAll0, PyData.canLay0, pairs_lay r, Bool.and_self, Bool.true_and, Bool.and_true]
theorem pairs_none (xs : List (Nat × Nat)) : ((xs.map fun q => PyData.list [.int q.1, .int q.2]).any fun y => PyData.eqv y (.list [])) = false := by
  rw [List.any_eq_false]
  intro y hy
  obtain ⟨q, _, rfl⟩ := List.mem_map.mp hy
  simp [PyData.eqv, PyData.eqvAll]
theorem in_pairs {prog : Program} {w : World} {A : Around} {E : Value → Shared → Prop} {s : Shared} {Q : Value → Shared → Prop} {news : List (Addr × Obj)} {us : List Value} {xs : List (Nat × Nat)} {x y : Addr} {k k2 : Nat} (P : PrsAre news us xs) (hn : ∀ q ∈ news, s.heap.get? q.1 = some q.2)
    (hx : s.heap.get? x = some (listOf us.toArray k)) (hy : s.heap.get? y = some (listOf #[] k2)) (hu : A.units + 10 < cLine) (h : Q (.bool false) s) : wpAny (model prog w) A (compareOp .In (.ref y) (.ref x)) Q E s := by
  obtain ⟨as, r⟩ := pairs_read P hn
  refine SeqAt.in_list_reads (.list hx rfl rfl (by simpa using r)) (.list hy rfl rfl .nil) (pairs_lay xs) rfl ?_ (by rw [pairs_none]; exact h)
  refine Nat.lt_of_le_of_lt (Nat.add_le_add_left (Nat.min_le_right _ _) _) ?_
  have e : (PyData.list []).depth ≤ 2 := by decide
  omega

section
variable {w : World} {dp un : Nat} {gd : Option (List Code)} {outer : List Env} {A₀ : Around} {base h₀ : Heap} {L fa : Addr} {cd : Value} {tp : Program} {tl : List Str} {mean : ExcName → Option Value} {mg mb : Str → Option Value} {s : Shared} {Q : Flow → Shared → Prop} {E : Value → Shared → Prop} {rest : List Stmt} {scope : Scope}
theorem stG2 (hdef : lawRest ((hd.heap_1 w.params).lookup 212) 14 = some (rest, scope)) (B : Below A₀ base outer h₀) (X : (hd.heap_1 w.params).In h₀) (T : Top tp tl mean mg mb h₀)
    {sc : Addr} {vs : List Value} {ns : List Int} (hsc : h₀.IsList sc vs.toArray) (hi : IntsAre vs ns) (hl : ns.length ≤ 63)
    {T3 T4 : List (Addr × Obj)} {tab : Array Value} (S3 : TabSt 37 35 4 "_int2digits.<locals>.inner" T3) (S4 : TabSt 44 50 4 "_digits2int.<locals>.inner" T4)
    {rs : List Nat} (R : Rk rs) {Dr : Addr} {rv : List Value} {kr : Nat} (hrv : IntsAre rv (rs.map fun q : Nat => (q : Int))) {o4 : Obj} {tt : Tok} (k4 : cellIs o4 (some (.int ((rs.sum : Nat) : Int) tt)))
    {W : List (Addr × Obj)} (hWt : (173, tabObj tab) ∈ W) (hWr : (Dr, listOf rv.toArray kr) ∈ W) {Dg : Addr} {us : List Value} {kg : Nat} (hus : PrsAre W us ((prs rs.sum).map (toldG rs)))
    {written text word primes : Option Value}
    (F : Fr h₀ L s.heap (wl2 (some (.ref sc)) (some (.ref Dr)) written text word primes (some (.ref Dg)) none none))
    (N : News h₀ L s.heap (((Dg, listOf us.toArray kg) :: (L + 1 + 1 + 1 + 1, o4) :: W) ++ (T3 ++ T4)))
    (offT : ∀ q ∈ (Dg, listOf us.toArray kg) :: (L + 1 + 1 + 1 + 1, o4) :: W, ∀ r ∈ T3 ++ T4, q.1 ≠ r.1)
    (hL : 173 < L) (hd' : dp + 250 < recursionLimit) (hu : un + 2500 < cLine) (hQ : LawEnd h₀ L Q s) :
    wpAny (model Challenge.rw_pe0259_02.row.prog w) (Ar dp un gd (envOfC "law" scope L fa cd :: outer)) (execs rest (envOfC "law" scope L fa cd)) Q E s := by
  revert hdef
  k_fill
  intro hdef
  refine' law_out ?hl hdef ?_
  (case hl => k_is)
  clear hdef
  intro hdef
  cases hdef
  have codeHd := codeHd_of_K (c := 41) (P := 37) X (by kernel_rfl)
  (try dsimp only [List.drop]); (try k_fold)
  unfold wl2 at F
  have hRs := R.sum
  have hrl : rv.length = rs.length := by rw [hrv.length, List.length_map]
  have hRl := R.len
  have hul : us.length ≤ 8 := by
    rw [hus.length, List.length_map]
    unfold prs
    exact Nat.le_trans (List.length_filter_le _ _) (by decide)
  have N0 : News h₀ L s.heap ((Dg, listOf us.toArray kg) :: (L + 1 + 1 + 1 + 1, o4) :: (Dr, listOf rv.toArray kr) :: (W ++ (T3 ++ T4))) := fun z hz => N z (by
    rcases List.mem_cons.mp hz with rfl | hz
    · exact .head _
    · rcases List.mem_cons.mp hz with rfl | hz
      · exact .tail _ (.head _)
      · rcases List.mem_cons.mp hz with rfl | hz
        · exact .tail _ (.tail _ (List.mem_append_left _ hWr))
        · exact .tail _ (.tail _ hz))
  clear N
  ((repeat' ((fail_if_success (with_reducible show wpAny _ _ (compareOp _ _ _) _ _ _)); (first | (k_unfold; (try dsimp only)) | ((with_reducible first | show wpAny _ _ (exec _ _) _ _ _ | show wpAny _ _ (execs _ _) _ _ _); k_fold) | (k_end; wrow_close) | walk1 | (dsimp only; walk1) | (leave1; (try dsimp only))))) <;> (repeat (k_unfold; (try dsimp only))))
  rename Fr _ _ _ _ => F1
  rename News _ _ _ _ => N1
  refine in_pairs hus (fun z hz => (N1 z (.tail _ (.tail _ (.tail _ (.tail _ (List.mem_append_left _ hz)))))).1) (News.get N1 (.tail _ (.head _))) (News.get N1 (.head _)) (by k_units) ?_
  (try dsimp only)
  ((repeat' ((fail_if_success (with_reducible show wpAny _ _ (eval (Expr.ListComp _ _ _ _) _) _ _ _)); (first | (k_unfold; (try dsimp only)) | ((with_reducible first | show wpAny _ _ (exec _ _) _ _ _ | show wpAny _ _ (execs _ _) _ _ _); k_fold) | (k_end; wrow_close) | walk1 | (dsimp only; walk1) | (leave1; (try dsimp only))))) <;> (repeat (k_unfold; (try dsimp only))))
  rename Fr _ _ _ _ => F2
  rename News _ _ _ _ => N2
  try clear F1
  try clear N1
  try clear F N0
  have N3 := cb_drop N2 (fun q hq => List.Mem.tail _ hq)
  clear N2
  refine LCg.ListComp_U (F₀ := F2) (by with_unfolding_all rfl) (by decide) (by rfl) (by decide) (by rfl) ?_
  ((repeat' ((fail_if_success (with_reducible show LCg.CompSrc _ _ _ _ _ _ _ _ _ _ _ _ _ _)); (first | (k_unfold; (try dsimp only)) | ((with_reducible first | show wpAny _ _ (exec _ _) _ _ _ | show wpAny _ _ (execs _ _) _ _ _); k_fold) | (k_end; wrow_close) | walk1 | (dsimp only; walk1) | (leave1; (try dsimp only))))) <;> (repeat (k_unfold; (try dsimp only))))
  rename Fr _ _ _ _ => F3
  rename News _ _ _ _ => N4
  obtain ⟨NW, hNW⟩ : ∃ NW, NW = (Dg, listOf us.toArray kg) :: (L + 1 + 1 + 1 + 1, o4) :: (Dr, listOf rv.toArray kr) :: (W ++ (T3 ++ T4)) := ⟨_, rfl⟩
  refine LCg.CompSrc.ledger (k := kr) (its := rv.toArray) (news := NW) rfl F3 (by rw [hNW]; exact N4) (by rw [hNW]; exact .tail _ (.tail _ (.head _))) (by rw [List.size_toArray, sizeLine_eq]; omega) (fun g' => ?_)
  refine rest_of rv.toArray.size (fun i ys news => IntsAre ys (((rs.take i).map fct).map fun q : Nat => (q : Int)) ∧ news = NW) ?_ ?_ _ 0 [] _ (Nat.zero_add _) ⟨.nil, rfl⟩
  · rintro i ys news v I oI C oC D m₂ h9 tk9 E' hi2 ⟨hys, rfl⟩ hv hns hx F11 N11 o3' ne
    obtain ⟨tx', x, hxx, rfl⟩ := ints_at1 hrv (by simpa using hv)
    rw [List.getElem?_map] at hxx
    obtain ⟨q, hq, rfl⟩ := Option.map_eq_some_iff.mp hxx
    have hqb := R.r5 q (List.mem_of_getElem? hq)
    have hz := next_is_new F11
    have hzL : @Ne Nat h9.objs.size L := (Nat.ne_of_lt F11.ns.lt).symm
    subst hNW
    clear F3 N4
    try clear F2 N3
    (try dsimp only); (try k_fold)
    ((repeat' ((fail_if_success (with_reducible show wpAny _ _ (call (Value.ref 195) _) _ _ _)); (first | (k_unfold; (try dsimp only)) | ((with_reducible first | show wpAny _ _ (exec _ _) _ _ _ | show wpAny _ _ (execs _ _) _ _ _); k_fold) | (k_end; wrow_close) | walk1 | (dsimp only; walk1) | (leave1; (try dsimp only))))) <;> (repeat (k_unfold; (try dsimp only))))
    rename IsRange _ _ _ _ _ _ _ _ => hr
    rename Fr _ _ _ _ => F12
    rename News _ _ _ _ => N12
    refine use_more (prodr_c w _ q _ _ _ (by omega) (fct_sm (by omega))) (fun n v b hb => ⟨[], hb.2⟩) (news := (h9.objs.size, rngO ((q : Int) + 1) _ _ _) :: (I, oI) :: (C, oC) :: (D, LCg.lst ys) :: (Dg, listOf us.toArray kg) :: (L + 1 + 1 + 1 + 1, o4) :: (Dr, listOf rv.toArray kr) :: (W ++ (T3 ++ T4))) B F12 X (List.forall_mem_cons.mpr ⟨⟨hr, hzL, hz⟩, N12⟩) T rfl rfl (List.forall_mem_cons.mpr ⟨.head _, List.forall_mem_nil _⟩) (by k_room) (by k_units) ?_
    rintro v13 nb h13 tk13 F13 N13 - ⟨⟨t13, rfl⟩, hnb⟩
    obtain rfl : nb = [] := List.append_cancel_right (hnb.trans rfl)
    clear F12 N12
    (try dsimp only)
    ((repeat' ((fail_if_success (with_reducible show LCg.CompEnd _ _ _ _ _ _ _ _ _ _ _ _ _ _)); (first | (k_unfold; (try dsimp only)) | ((with_reducible first | show wpAny _ _ (exec _ _) _ _ _ | show wpAny _ _ (execs _ _) _ _ _); k_fold) | (k_end; wrow_close) | walk1 | (dsimp only; walk1) | (leave1; (try dsimp only))))) <;> (repeat (k_unfold; (try dsimp only))))
    rename Fr _ _ _ _ => F14
    rename News _ _ _ _ => N14
    refine LCg.CompEnd.intro F14 N14 _ (fun q hq => .tail _ hq) o3' (.inr ⟨_, .tail _ (.tail _ (.head _)), rfl, _, rfl⟩) ⟨?_, rfl⟩
    rw [List.take_add_one, hq]
    show IntsAre _ (List.map _ (List.map _ (_ ++ [q])))
    rw [List.map_append, List.map_append]
    exact hys.append (.cons _ _ .nil)
  · rintro ys news ⟨hys, rfl⟩ Db h9 tk9 F11 N11 oD
    rw [List.size_toArray, hrl, List.take_length] at hys
    subst hNW
    clear F3 N4
    try clear F2 N3
    (try dsimp only); (try k_fold)
    ((repeat' ((fail_if_success (with_reducible show wpAny _ _ (call (Value.ref 195) _) _ _ _)); (first | (k_unfold; (try dsimp only)) | ((with_reducible first | show wpAny _ _ (exec _ _) _ _ _ | show wpAny _ _ (execs _ _) _ _ _); k_fold) | (k_end; wrow_close) | walk1 | (dsimp only; walk1) | (leave1; (try dsimp only))))) <;> (repeat (k_unfold; (try dsimp only))))
    rename Fr _ _ _ _ => F12
    rename News _ _ _ _ => N12
    refine use_more (prodl_c w Db ys ys.length (rs.map fct) hys (fun i hi => R.b3 i (by rwa [List.length_map] at hi))) (fun n v b hb => ⟨[], hb.2⟩) B F12 X N12 T rfl rfl (List.forall_mem_cons.mpr ⟨.head _, List.forall_mem_nil _⟩) (by k_room) (by k_units) ?_
    rintro v nb h13 tk13 F13 N13 - ⟨⟨t13, rfl⟩, hnb⟩
    obtain rfl : nb = [] := List.append_cancel_right (hnb.trans rfl)
    clear F12 N12
    (try dsimp only)
    ((repeat' ((fail_if_success (with_reducible show wpAny _ _ (execs (Stmt.Assign [Expr.Name (Str.ofString "told") _] _ _ :: _) _) _ _ _)); (first | (k_unfold; (try dsimp only)) | ((with_reducible first | show wpAny _ _ (exec _ _) _ _ _ | show wpAny _ _ (execs _ _) _ _ _); k_fold) | (k_end; wrow_close) | walk1 | (dsimp only; walk1) | (leave1; (try dsimp only))))) <;> (repeat (k_unfold; (try dsimp only))))
    rename Fr _ _ _ _ => F14
    rename News _ _ _ _ => N14
    have F15 := Fr.congr (m' := wl2 (some (.ref sc)) (some (.ref Dr)) written text word primes (some (.ref Dg)) (some (.int ((prod (rs.map fct) : Nat) : Int) t13)) none) F14 (by (intro y; unfold wl2; (rcases Classical.em (y = "script") with rfl | h0); exact rfl; (rcases Classical.em (y = "runs") with rfl | h1); exact rfl; (rcases Classical.em (y = "written") with rfl | h2); exact rfl; (rcases Classical.em (y = "text") with rfl | h3); exact rfl; (rcases Classical.em (y = "word") with rfl | h4); exact rfl; (rcases Classical.em (y = "primes") with rfl | h5); exact rfl; (rcases Classical.em (y = "games") with rfl | h6); exact rfl; (rcases Classical.em (y = "below") with rfl | h7); exact rfl; (rcases Classical.em (y = "told") with rfl | h8); exact rfl; (try simp only [if_neg h0, if_neg h1, if_neg h2, if_neg h3, if_neg h4, if_neg h5, if_neg h6, if_neg h7, if_neg h8]); (first | done | exact rfl | (show List.lookup y (_ :: _) = none; simp only [List.lookup, beq_eq_false_iff_ne.mpr h0, beq_eq_false_iff_ne.mpr h1, beq_eq_false_iff_ne.mpr h2, beq_eq_false_iff_ne.mpr h3, beq_eq_false_iff_ne.mpr h4, beq_eq_false_iff_ne.mpr h5, beq_eq_false_iff_ne.mpr h6, beq_eq_false_iff_ne.mpr h7, beq_eq_false_iff_ne.mpr h8]) | (simp only [List.lookup, beq_eq_false_iff_ne.mpr h0, beq_eq_false_iff_ne.mpr h1, beq_eq_false_iff_ne.mpr h2, beq_eq_false_iff_ne.mpr h3, beq_eq_false_iff_ne.mpr h4, beq_eq_false_iff_ne.mpr h5, beq_eq_false_iff_ne.mpr h6, beq_eq_false_iff_ne.mpr h7, beq_eq_false_iff_ne.mpr h8]; done))))
    refine stH2 (s := { s with heap := _, toks := _ }) (kg := kg) (tab := tab) (W := W) (o4 := o4) (by exact rfl) B X T S3 S4 R k4 hWt hus F15 (fun z hz => N14 z ?_) offT hL hd' hu hQ
    rcases List.mem_cons.mp hz with rfl | hz
    · exact .tail _ (.head _)
    · rcases List.mem_cons.mp hz with rfl | hz
      · exact .tail _ (.tail _ (.head _))
      · exact .tail _ (.tail _ (.tail _ (.tail _ hz)))
end

section
variable {w : World} {dp un : Nat} {gd : Option (List Code)} {outer : List Env} {A₀ : Around} {base h₀ : Heap} {L fa : Addr} {cd : Value} {tp : Program} {tl : List Str} {mean : ExcName → Option Value} {mg mb : Str → Option Value} {s : Shared} {Q : Flow → Shared → Prop} {E : Value → Shared → Prop} {rest : List Stmt} {scope : Scope}
theorem stF2 (hdef : lawRest ((hd.heap_1 w.params).lookup 212) 13 = some (rest, scope)) (B : Below A₀ base outer h₀) (X : (hd.heap_1 w.params).In h₀) (T : Top tp tl mean mg mb h₀)
    {sc : Addr} {vs : List Value} {ns : List Int} (hsc : h₀.IsList sc vs.toArray) (hi : IntsAre vs ns) (hl : ns.length ≤ 63)
    {T3 T4 : List (Addr × Obj)} {tab : Array Value} (S3 : TabSt 37 35 4 "_int2digits.<locals>.inner" T3) (S4 : TabSt 44 50 4 "_digits2int.<locals>.inner" T4)
    {la : LexA} {adr : List Addr} {RO : Nat → List (Addr × Obj) → Prop} {txt : Str} {p : Nat} {blk : List (Addr × Obj)} (Rd : Reader w la.rd txt adr RO) (O : la.Ok adr) (M : MachSt w la RO (1 + nlTo txt p) "\n\t\r " [] p blk) (hp : p ≤ txt.length) (htl : txt.length < 2000) (hcod : codes txt p = [])
    {rs : List Nat} (R : Rk rs) {Dr : Addr} {rv : List Value} {kr : Nat} (hrv : IntsAre rv (rs.map fun q : Nat => (q : Int))) {bg : Int} {tb : Tok} {o1 o2 o3 o4 o5 o6 : Obj} (k1 : cellIs o1 (some (.int bg tb))) (k2 : cellIs o2 (some (.ref la.x)))
    {Dp : Addr} {yp : List Value} {kp : Nat} (hyp : StrsAre yp ((pcsOf rs).map blank)) (k3 : cellIs o3 (some (.ref Dp))) {tt : Tok} (k4 : cellIs o4 (some (.int ((rs.sum : Nat) : Int) tt))) {xL xP : Addr} {bL bP : List (Addr × Obj)} (WL : WsAt w xL (S1 rs) bL) (WP : WsAt w xP (S2 rs) bP) (k5 : cellIs o5 (some (.ref xL))) (k6 : cellIs o6 (some (.ref xP)))
    {Dq : Addr} {ys : List Value} {kq : Nat} (hys : IntsAre ys ((prs rs.sum).map fun q : Nat => (q : Int)))
    {written text word : Option Value}
    (F : Fr h₀ L s.heap (wl2 (some (.ref sc)) (some (.ref Dr)) written text word (some (.ref Dq)) none none none))
    (N : News h₀ L s.heap (((Dq, listOf ys.toArray kq) :: ([(L + 1 + 1 + 1 + 1 + 1 + 1, o6), (L + 1 + 1 + 1 + 1 + 1, o5), (L + 1 + 1 + 1 + 1, o4), (L + 1 + 1 + 1, o3), (L + 1 + 1, o2), (L + 1, o1), (173, tabObj tab), (Dp, listOf yp.toArray kp), (Dr, listOf rv.toArray kr)] ++ (bL ++ bP))) ++ ((T3 ++ T4) ++ blk)))
    (offM : ∀ q ∈ (Dq, listOf ys.toArray kq) :: ([(L + 1 + 1 + 1 + 1 + 1 + 1, o6), (L + 1 + 1 + 1 + 1 + 1, o5), (L + 1 + 1 + 1 + 1, o4), (L + 1 + 1 + 1, o3), (L + 1 + 1, o2), (L + 1, o1), (173, tabObj tab), (Dp, listOf yp.toArray kp), (Dr, listOf rv.toArray kr)] ++ (bL ++ bP)), q.1 ∉ la.adrs ++ adr) (offTM : ∀ r ∈ T3 ++ T4, r.1 ∉ la.adrs ++ adr) (offT : ∀ q ∈ (Dq, listOf ys.toArray kq) :: ([(L + 1 + 1 + 1 + 1 + 1 + 1, o6), (L + 1 + 1 + 1 + 1 + 1, o5), (L + 1 + 1 + 1 + 1, o4), (L + 1 + 1 + 1, o3), (L + 1 + 1, o2), (L + 1, o1), (173, tabObj tab), (Dp, listOf yp.toArray kp), (Dr, listOf rv.toArray kr)] ++ (bL ++ bP)), ∀ r ∈ T3 ++ T4, q.1 ≠ r.1)
    (hL : 173 < L) (hd' : dp + 250 < recursionLimit) (hu : un + 2500 < cLine) (hQ : LawEnd h₀ L Q s) :
    wpAny (model Challenge.rw_pe0259_02.row.prog w) (Ar dp un gd (envOfC "law" scope L fa cd :: outer)) (execs rest (envOfC "law" scope L fa cd)) Q E s := by
  revert hdef
  k_fill
  intro hdef
  refine' law_out ?hl hdef ?_
  (case hl => k_is)
  clear hdef
  intro hdef
  cases hdef
  have codeHd := codeHd_of_K (c := 41) (P := 37) X (by kernel_rfl)
  (try dsimp only [List.drop]); (try k_fold)
  unfold wl2 at F
  have hRs := R.sum
  have hyl : ys.length ≤ 8 := by
    rw [hys.length, List.length_map]
    unfold prs
    exact Nat.le_trans (List.length_filter_le _ _) (by decide)
  obtain ⟨AQ, hAQ⟩ : ∃ AQ, AQ = (Dq, listOf ys.toArray kq) :: ([(L + 1 + 1 + 1 + 1 + 1 + 1, o6), (L + 1 + 1 + 1 + 1 + 1, o5), (L + 1 + 1 + 1 + 1, o4), (L + 1 + 1 + 1, o3), (L + 1 + 1, o2), (L + 1, o1), (173, tabObj tab), (Dp, listOf yp.toArray kp), (Dr, listOf rv.toArray kr)] ++ (bL ++ bP)) := ⟨_, rfl⟩
  ((repeat' ((fail_if_success (with_reducible show wpAny _ _ (exec (Stmt.Assign _ (Expr.ListComp _ _ _ _) _) _) _ _ _)); (first | (k_unfold; (try dsimp only)) | ((with_reducible first | show wpAny _ _ (exec _ _) _ _ _ | show wpAny _ _ (execs _ _) _ _ _); k_fold) | (k_end; wrow_close) | walk1 | (dsimp only; walk1) | (leave1; (try dsimp only))))) <;> (repeat (k_unfold; (try dsimp only))))
  refine LCg.Assign_ListComp_U (F₀ := F) (by rfl) (by with_unfolding_all rfl) (by with_unfolding_all rfl) (by decide) (by rfl) (by decide) (by rfl) (by rfl) (by rfl) ?_
  ((repeat' ((fail_if_success (with_reducible show LCg.CompSrc _ _ _ _ _ _ _ _ _ _ _ _ _ _)); (first | (k_unfold; (try dsimp only)) | ((with_reducible first | show wpAny _ _ (exec _ _) _ _ _ | show wpAny _ _ (execs _ _) _ _ _); k_fold) | (k_end; wrow_close) | walk1 | (dsimp only; walk1) | (leave1; (try dsimp only))))) <;> (repeat (k_unfold; (try dsimp only))))
  rename Fr _ _ _ _ => F2
  rename News _ _ _ _ => N2
  refine LCg.CompSrc.ledger (k := kq) (its := ys.toArray) rfl F2 N2 (.head _) (by rw [List.size_toArray, sizeLine_eq]; omega) (fun g' => ?_)
  refine rest_of ys.toArray.size (fun i us news => GmsJ w la txt adr RO AQ (((prs rs.sum).take i).map (toldG rs)) us news) ?_ ?_ _ 0 [] _ (Nat.zero_add _) ?_
  · rintro i us news v I oI C oC D m₂ h9 tk9 E' hi2 ⟨A, T3', T4', p', blk', hA, offA, hp', hc', M', S3', S4', offTM', offT', hus, rfl⟩ hv hns hx F11 N11 o3' ne
    obtain ⟨tx', x, hxx, rfl⟩ := ints_at1 hys (by simpa using hv)
    rw [List.getElem?_map] at hxx
    obtain ⟨q, hq, rfl⟩ := Option.map_eq_some_iff.mp hxx
    have N12 : News h₀ L h9 ((I, oI) :: (C, oC) :: (D, LCg.lst us) :: (L + 1 + 1 + 1 + 1 + 1 + 1, o6) :: (L + 1 + 1 + 1 + 1 + 1, o5) :: (L + 1 + 1 + 1, o3) :: (L + 1 + 1, o2) :: (L + 1, o1) :: (A ++ ((T3' ++ T4') ++ blk'))) := fun z hz => N11 z (by
      have m : ∀ z ∈ [(L + 1 + 1 + 1 + 1 + 1 + 1, o6), (L + 1 + 1 + 1 + 1 + 1, o5), (L + 1 + 1 + 1 + 1, o4), (L + 1 + 1 + 1, o3), (L + 1 + 1, o2), (L + 1, o1), (173, tabObj tab), (Dp, listOf yp.toArray kp), (Dr, listOf rv.toArray kr)], z ∈ (I, oI) :: (C, oC) :: (D, LCg.lst us) :: (A ++ ((T3' ++ T4') ++ blk')) := fun z hz => .tail _ (.tail _ (.tail _ (List.mem_append_left _ (hA z (by rw [hAQ]; exact .tail _ (List.mem_append_left _ hz))))))
      rcases List.mem_cons.mp hz with rfl | hz
      · exact .head _
      · rcases List.mem_cons.mp hz with rfl | hz
        · exact .tail _ (.head _)
        · rcases List.mem_cons.mp hz with rfl | hz
          · exact .tail _ (.tail _ (.head _))
          · rcases List.mem_cons.mp hz with rfl | hz
            · exact m _ (by k_mem)
            · rcases List.mem_cons.mp hz with rfl | hz
              · exact m _ (by k_mem)
              · rcases List.mem_cons.mp hz with rfl | hz
                · exact m _ (by k_mem)
                · rcases List.mem_cons.mp hz with rfl | hz
                  · exact m _ (by k_mem)
                  · rcases List.mem_cons.mp hz with rfl | hz
                    · exact m _ (by k_mem)
                    · exact .tail _ (.tail _ (.tail _ hz)))
    clear N11
    try clear F2 N2
    try clear F
    try clear N
    (try dsimp only); (try k_fold)
    ((repeat' ((fail_if_success (with_reducible show wpAny _ _ (call (Value.ref 207) _) _ _ _)); (first | (k_unfold; (try dsimp only)) | ((with_reducible first | show wpAny _ _ (exec _ _) _ _ _ | show wpAny _ _ (execs _ _) _ _ _); k_fold) | (k_end; wrow_close) | walk1 | (dsimp only; walk1) | (leave1; (try dsimp only))))) <;> (repeat (k_unfold; (try dsimp only))))
    have om := LCg.Off3.mem o3'
    have omA : ∀ z ∈ A, z.1 ≠ I ∧ z.1 ≠ C ∧ z.1 ≠ D := fun z hz => om z (List.mem_append_left _ hz)
    have omT : ∀ z ∈ T3' ++ T4', z.1 ≠ I ∧ z.1 ≠ C ∧ z.1 ≠ D := fun z hz => om z (List.mem_append_right _ (List.mem_append_left _ hz))
    have omB : ∀ z ∈ blk', z.1 ≠ I ∧ z.1 ≠ C ∧ z.1 ≠ D := fun z hz => om z (List.mem_append_right _ (List.mem_append_right _ hz))
    have dI : I ∉ la.adrs ++ adr := not_adrs M' Rd (fun r hr => (omB r hr).1)
    have dC : C ∉ la.adrs ++ adr := not_adrs M' Rd (fun r hr => (omB r hr).2.1)
    have dD : D ∉ la.adrs ++ adr := not_adrs M' Rd (fun r hr => (omB r hr).2.2)
    refine game_use (aa := (I, oI) :: (C, oC) :: (D, LCg.lst us) :: A) (P := Dp) (its := yp) (kP := kp) (qs := pcsOf rs) (tot := rs.sum) (c := 1) Rd O M' (List.forall_mem_cons.mpr ⟨dI, List.forall_mem_cons.mpr ⟨dC, List.forall_mem_cons.mpr ⟨dD, offA⟩⟩⟩) hp' htl hc' (fun z hz => .tail _ (.tail _ (.tail _ (hA z (by
      rw [hAQ]
      rcases List.mem_cons.mp hz with rfl | hz
      · exact .tail _ (List.mem_append_left _ (by k_mem))
      · exact .tail _ (List.mem_append_right _ hz)))))) hyp WL WP S3' S4' (R.game q (List.mem_of_getElem? hq)) offTM'
      (List.forall_mem_cons.mpr ⟨fun r hr => (omT r hr).1.symm, List.forall_mem_cons.mpr ⟨fun r hr => (omT r hr).2.1.symm, List.forall_mem_cons.mpr ⟨fun r hr => (omT r hr).2.2.symm, offT'⟩⟩⟩) B F11 X (fun z hz => N12 z (by
      rcases List.mem_cons.mp hz with rfl | hz
      · exact .head _
      · rcases List.mem_cons.mp hz with rfl | hz
        · exact .tail _ (.head _)
        · rcases List.mem_cons.mp hz with rfl | hz
          · exact .tail _ (.tail _ (.head _))
          · exact mem_skip [(_, _), (_, _), (_, _), (_, _), (_, _), (_, _), (_, _), (_, _)] hz)) T rfl rfl (by k_room) (by k_units) ?_
    intro g t1 t2 kg T5 T6 blk5 p5 h13 tk13 hp5 hc5 M5 S5 S6 offTM5 offT5 hg F13 N13
    clear F11 N12
    (try dsimp only)
    ((repeat' ((fail_if_success (with_reducible show LCg.CompEnd _ _ _ _ _ _ _ _ _ _ _ _ _ _)); (first | (k_unfold; (try dsimp only)) | ((with_reducible first | show wpAny _ _ (exec _ _) _ _ _ | show wpAny _ _ (execs _ _) _ _ _); k_fold) | (k_end; wrow_close) | walk1 | (dsimp only; walk1) | (leave1; (try dsimp only))))) <;> (repeat (k_unfold; (try dsimp only))))
    rename Fr _ _ _ _ => F14
    rename News _ _ _ _ => N14
    have hgA : ∀ z ∈ A, z.1 ≠ g := fun z hz => hg z (.tail _ (.tail _ (.tail _ (List.mem_append_left _ hz))))
    have hgT : ∀ z ∈ T5 ++ T6, z.1 ≠ g := fun z hz => hg z (.tail _ (.tail _ (.tail _ (List.mem_append_right _ (List.mem_append_left _ hz)))))
    have hgB : ∀ z ∈ blk5, z.1 ≠ g := fun z hz => hg z (.tail _ (.tail _ (.tail _ (List.mem_append_right _ (List.mem_append_right _ hz)))))
    refine LCg.CompEnd.intro F14 N14 (((g, listOf #[.int ((q ^ (alones q (pcsOf rs)).length : Nat) : Int) t1, .int ((q ^ togLen q (pcsOf rs) : Nat) : Int) t2] kg) :: A) ++ ((T5 ++ T6) ++ blk5)) (fun z hz => ?_) (LCg.Off3.of fun z hz => ?_)
      (.inr ⟨_, List.mem_append_left _ (.tail _ (hA (Dq, listOf ys.toArray kq) (by rw [hAQ]; exact .head _))), rfl, _, rfl⟩)
      ⟨_, T5, T6, p5, blk5, fun z hz => .tail _ (hA z hz), List.forall_mem_cons.mpr ⟨not_adrs M5 Rd hgB, offA⟩, hp5, hc5, M5, S5, S6, offTM5, List.forall_mem_cons.mpr ⟨fun r hr => (hgT r hr).symm, fun z hz => offT5 z (.tail _ (.tail _ (.tail _ hz)))⟩, ?_, rfl⟩
    · rcases List.mem_cons.mp hz with rfl | hz
      · exact .tail _ (.head _)
      · rcases List.mem_cons.mp hz with rfl | hz
        · exact .tail _ (.tail _ (.head _))
        · rcases List.mem_cons.mp hz with rfl | hz
          · exact .tail _ (.tail _ (.tail _ (.head _)))
          · rcases List.mem_cons.mp hz with rfl | hz
            · exact .head _
            · exact .tail _ (.tail _ (.tail _ (.tail _ hz)))
    · rcases List.mem_cons.mp hz with rfl | hz
      · exact ⟨(hg (I, oI) (.head _)).symm, (hg (C, oC) (.tail _ (.head _))).symm, (hg (D, _) (.tail _ (.tail _ (.head _)))).symm⟩
      · rcases List.mem_append.mp hz with hz | hz
        · exact omA z hz
        · rcases List.mem_append.mp hz with hz | hz
          · exact ⟨(offT5 (I, oI) (.head _) z hz).symm, (offT5 (C, oC) (.tail _ (.head _)) z hz).symm, (offT5 (D, _) (.tail _ (.tail _ (.head _))) z hz).symm⟩
          · exact ⟨of_adrs M5 Rd dI z hz, of_adrs M5 Rd dC z hz, of_adrs M5 Rd dD z hz⟩
    · rw [List.take_add_one, hq]
      show PrsAre _ _ (List.map _ (_ ++ [q]))
      rw [List.map_append]
      exact PrsAre.snoc (hus.up fun z hz => .tail _ hz) (.head _)
  · rintro us news ⟨A, T5, T6, p5, blk5, hA, offA, hp5, hc5, M5, S5, S6, offTM5, offT5, hus, rfl⟩ Dg h9 tk9 F11 N11 oD
    have om := Off1_mem oD
    rw [List.size_toArray, hys.length, List.length_map, List.take_length] at hus
    try clear F2 N2
    try clear F
    try clear N
    (try dsimp only); (try k_fold)
    ((repeat' ((fail_if_success (with_reducible show wpAny _ _ (execs (Stmt.If _ _ _ _ :: _) _) _ _ _)); (first | (k_unfold; (try dsimp only)) | ((with_reducible first | show wpAny _ _ (exec _ _) _ _ _ | show wpAny _ _ (execs _ _) _ _ _); k_fold) | (k_end; wrow_close) | walk1 | (dsimp only; walk1) | (leave1; (try dsimp only))))) <;> (repeat (k_unfold; (try dsimp only))))
    rename Fr _ _ _ _ => F12
    rename News _ _ _ _ => N12
    have F13 := Fr.congr (m' := wl2 (some (.ref sc)) (some (.ref Dr)) written text word (some (.ref Dq)) (some (.ref Dg)) none none) F12 (by (intro y; unfold wl2; (rcases Classical.em (y = "script") with rfl | h0); exact rfl; (rcases Classical.em (y = "runs") with rfl | h1); exact rfl; (rcases Classical.em (y = "written") with rfl | h2); exact rfl; (rcases Classical.em (y = "text") with rfl | h3); exact rfl; (rcases Classical.em (y = "word") with rfl | h4); exact rfl; (rcases Classical.em (y = "primes") with rfl | h5); exact rfl; (rcases Classical.em (y = "games") with rfl | h6); exact rfl; (rcases Classical.em (y = "below") with rfl | h7); exact rfl; (rcases Classical.em (y = "told") with rfl | h8); exact rfl; (try simp only [if_neg h0, if_neg h1, if_neg h2, if_neg h3, if_neg h4, if_neg h5, if_neg h6, if_neg h7, if_neg h8]); (first | done | exact rfl | (show List.lookup y (_ :: _) = none; simp only [List.lookup, beq_eq_false_iff_ne.mpr h0, beq_eq_false_iff_ne.mpr h1, beq_eq_false_iff_ne.mpr h2, beq_eq_false_iff_ne.mpr h3, beq_eq_false_iff_ne.mpr h4, beq_eq_false_iff_ne.mpr h5, beq_eq_false_iff_ne.mpr h6, beq_eq_false_iff_ne.mpr h7, beq_eq_false_iff_ne.mpr h8]) | (simp only [List.lookup, beq_eq_false_iff_ne.mpr h0, beq_eq_false_iff_ne.mpr h1, beq_eq_false_iff_ne.mpr h2, beq_eq_false_iff_ne.mpr h3, beq_eq_false_iff_ne.mpr h4, beq_eq_false_iff_ne.mpr h5, beq_eq_false_iff_ne.mpr h6, beq_eq_false_iff_ne.mpr h7, beq_eq_false_iff_ne.mpr h8]; done))))
    have m : ∀ z ∈ [(L + 1 + 1 + 1 + 1 + 1 + 1, o6), (L + 1 + 1 + 1 + 1 + 1, o5), (L + 1 + 1 + 1 + 1, o4), (L + 1 + 1 + 1, o3), (L + 1 + 1, o2), (L + 1, o1), (173, tabObj tab), (Dp, listOf yp.toArray kp), (Dr, listOf rv.toArray kr)], z ∈ A := fun z hz => hA z (by rw [hAQ]; exact .tail _ (List.mem_append_left _ hz))
    refine stG2 (s := { s with heap := _, toks := _ }) (kr := kr) (kg := us.length) (tab := tab) (o4 := o4) (W := A ++ blk5) (by exact rfl) B X T hsc hi hl S5 S6 R hrv k4 (List.mem_append_left _ (m _ (by k_mem))) (List.mem_append_left _ (m _ (by k_mem))) (hus.up fun z hz => List.mem_append_left _ hz) F13 (fun z hz => N12 z ?_) ?_ hL hd' hu hQ
    · rcases List.mem_append.mp hz with hz | hz
      · rcases List.mem_cons.mp hz with rfl | hz
        · exact .head _
        · rcases List.mem_cons.mp hz with rfl | hz
          · exact .tail _ (List.mem_append_left _ (m _ (by k_mem)))
          · rcases List.mem_append.mp hz with hz | hz
            · exact .tail _ (List.mem_append_left _ hz)
            · exact .tail _ (List.mem_append_right _ (List.mem_append_right _ hz))
      · exact .tail _ (List.mem_append_right _ (List.mem_append_left _ hz))
    · refine List.forall_mem_cons.mpr ⟨fun r hr => (om r (List.mem_append_right _ (List.mem_append_left _ hr))).symm, List.forall_mem_cons.mpr ⟨offT5 (_, o4) (m _ (by k_mem)), fun z hz => ?_⟩⟩
      rcases List.mem_append.mp hz with hz | hz
      · exact offT5 z hz
      · exact fun r hr => of_adrs M5 Rd (offTM5 r hr) z hz
  · exact ⟨AQ, T3, T4, p, blk, fun q hq => hq, hAQ ▸ offM, hp, hcod, M, S3, S4, offTM, hAQ ▸ offT, .nil, by rw [hAQ]⟩
end

section
variable {w : World} {dp un : Nat} {gd : Option (List Code)} {outer : List Env} {A₀ : Around} {base h₀ : Heap} {L fa : Addr} {cd : Value} {tp : Program} {tl : List Str} {mean : ExcName → Option Value} {mg mb : Str → Option Value} {s : Shared} {Q : Flow → Shared → Prop} {E : Value → Shared → Prop} {rest : List Stmt} {scope : Scope}
theorem stE2 (hdef : lawRest ((hd.heap_1 w.params).lookup 212) 12 = some (rest, scope)) (B : Below A₀ base outer h₀) (X : (hd.heap_1 w.params).In h₀) (T : Top tp tl mean mg mb h₀)
    {sc : Addr} {vs : List Value} {ns : List Int} (hsc : h₀.IsList sc vs.toArray) (hi : IntsAre vs ns) (hl : ns.length ≤ 63)
    {T3 T4 : List (Addr × Obj)} {tab : Array Value} (S3 : TabSt 37 35 4 "_int2digits.<locals>.inner" T3) (S4 : TabSt 44 50 4 "_digits2int.<locals>.inner" T4)
    {la : LexA} {adr : List Addr} {RO : Nat → List (Addr × Obj) → Prop} {txt : Str} {p : Nat} {blk : List (Addr × Obj)} (Rd : Reader w la.rd txt adr RO) (O : la.Ok adr) (M : MachSt w la RO (1 + nlTo txt p) "\n\t\r " [] p blk) (hp : p ≤ txt.length) (htl : txt.length < 2000) (hcod : codes txt p = [])
    {rs : List Nat} (R : Rk rs) {Dr : Addr} {rv : List Value} {kr : Nat} (hrv : IntsAre rv (rs.map fun q : Nat => (q : Int))) {bg : Int} {tb : Tok} {o1 o2 o3 o4 o5 o6 : Obj} (k1 : cellIs o1 (some (.int bg tb))) (k2 : cellIs o2 (some (.ref la.x)))
    {Dp : Addr} {yp : List Value} {kp : Nat} (hyp : StrsAre yp ((pcsOf rs).map blank)) (k3 : cellIs o3 (some (.ref Dp))) {tt : Tok} (k4 : cellIs o4 (some (.int ((rs.sum : Nat) : Int) tt))) {xL xP : Addr} {bL bP : List (Addr × Obj)} (WL : WsAt w xL (S1 rs) bL) (WP : WsAt w xP (S2 rs) bP) (k5 : cellIs o5 (some (.ref xL))) (k6 : cellIs o6 (some (.ref xP)))
    {written text word : Option Value}
    (F : Fr h₀ L s.heap (wl2 (some (.ref sc)) (some (.ref Dr)) written text word none none none none))
    (N : News h₀ L s.heap ([(L + 1 + 1 + 1 + 1 + 1 + 1, o6), (L + 1 + 1 + 1 + 1 + 1, o5), (L + 1 + 1 + 1 + 1, o4), (L + 1 + 1 + 1, o3), (L + 1 + 1, o2), (L + 1, o1), (173, tabObj tab), (Dp, listOf yp.toArray kp), (Dr, listOf rv.toArray kr)] ++ ((bL ++ bP) ++ ((T3 ++ T4) ++ blk))))
    (offM : ∀ q ∈ [(L + 1 + 1 + 1 + 1 + 1 + 1, o6), (L + 1 + 1 + 1 + 1 + 1, o5), (L + 1 + 1 + 1 + 1, o4), (L + 1 + 1 + 1, o3), (L + 1 + 1, o2), (L + 1, o1), (173, tabObj tab), (Dp, listOf yp.toArray kp), (Dr, listOf rv.toArray kr)] ++ (bL ++ bP), q.1 ∉ la.adrs ++ adr) (offTM : ∀ r ∈ T3 ++ T4, r.1 ∉ la.adrs ++ adr) (offT : ∀ q ∈ [(L + 1 + 1 + 1 + 1 + 1 + 1, o6), (L + 1 + 1 + 1 + 1 + 1, o5), (L + 1 + 1 + 1 + 1, o4), (L + 1 + 1 + 1, o3), (L + 1 + 1, o2), (L + 1, o1), (173, tabObj tab), (Dp, listOf yp.toArray kp), (Dr, listOf rv.toArray kr)] ++ (bL ++ bP), ∀ r ∈ T3 ++ T4, q.1 ≠ r.1)
    (hL : 173 < L) (hd' : dp + 250 < recursionLimit) (hu : un + 2500 < cLine) (hQ : LawEnd h₀ L Q s) :
    wpAny (model Challenge.rw_pe0259_02.row.prog w) (Ar dp un gd (envOfC "law" scope L fa cd :: outer)) (execs rest (envOfC "law" scope L fa cd)) Q E s := by
  revert hdef
  k_fill
  intro hdef
  refine' law_out ?hl hdef ?_
  (case hl => k_is)
  clear hdef
  intro hdef
  cases hdef
  have codeHd := codeHd_of_K (c := 41) (P := 37) X (by kernel_rfl)
  (try dsimp only [List.drop]); (try k_fold)
  unfold wl2 at F
  have hRs := R.sum
  obtain ⟨W, hW⟩ : ∃ W, W = [(L + 1 + 1 + 1 + 1 + 1 + 1, o6), (L + 1 + 1 + 1 + 1 + 1, o5), (L + 1 + 1 + 1, o3), (L + 1 + 1, o2), (L + 1, o1), (173, tabObj tab), (Dp, listOf yp.toArray kp), (Dr, listOf rv.toArray kr)] ++ ((bL ++ bP) ++ ((T3 ++ T4) ++ blk)) := ⟨_, rfl⟩
  have N0 : News h₀ L s.heap ((L + 1 + 1 + 1 + 1, o4) :: W) := fun z hz => N z (by
    rw [hW] at hz
    rcases List.mem_cons.mp hz with rfl | hz
    · k_mem
    · rcases List.mem_append.mp hz with hz | hz
      · simp only [List.mem_cons, List.not_mem_nil, or_false] at hz
        rcases hz with rfl | rfl | rfl | rfl | rfl | rfl | rfl | rfl <;> k_mem
      · exact List.mem_append_right _ hz)
  clear N
  ((repeat' ((fail_if_success (with_reducible show wpAny _ _ (exec (Stmt.Assign _ (Expr.ListComp _ _ _ _) _) _) _ _ _)); (first | (k_unfold; (try dsimp only)) | ((with_reducible first | show wpAny _ _ (exec _ _) _ _ _ | show wpAny _ _ (execs _ _) _ _ _); k_fold) | (k_end; wrow_close) | walk1 | (dsimp only; walk1) | (leave1; (try dsimp only))))) <;> (repeat (k_unfold; (try dsimp only))))
  refine Assign_ListCompT_tup (F₀ := F) (by rfl) (by with_unfolding_all rfl) (by with_unfolding_all rfl) (by decide) (by rfl) (by decide) (by rfl) (by rfl) (by rfl) ?_
  ((repeat' ((fail_if_success (with_reducible show TupSrcT _ _ _ _ _ _ _ _ _ _ _ _ _ _ _)); (first | (k_unfold; (try dsimp only)) | ((with_reducible first | show wpAny _ _ (exec _ _) _ _ _ | show wpAny _ _ (execs _ _) _ _ _); k_fold) | (k_end; wrow_close) | walk1 | (dsimp only; walk1) | (leave1; (try dsimp only))))) <;> (repeat (k_unfold; (try dsimp only))))
  rename Addr => Dt
  rename Fr _ _ _ _ => F2
  rename News _ _ _ _ => N2
  obtain ⟨pv, hpv, hpl, N3⟩ : ∃ pv : List Value, IntsAre pv ([2, 3, 5, 7, 11, 13, 17, 19].map fun q : Nat => (q : Int)) ∧ pv.length = 8 ∧ News h₀ L _ ((Dt, { cls := .type "tuple", data := .seq pv.toArray }) :: (L + 1 + 1 + 1 + 1, o4) :: W) :=
    ⟨[_, _, _, _, _, _, _, _], .cons _ _ (.cons _ _ (.cons _ _ (.cons _ _ (.cons _ _ (.cons _ _ (.cons _ _ (.cons _ _ .nil))))))), rfl, N2⟩
  clear N2
  try clear N0
  obtain ⟨NW, hNW⟩ : ∃ NW, NW = (Dt, { cls := .type "tuple", data := .seq pv.toArray }) :: (L + 1 + 1 + 1 + 1, o4) :: W := ⟨_, rfl⟩
  refine ⟨Dt, pv.toArray, NW, { cls := .type "tuple", data := .seq pv.toArray }, rfl, rfl, F2, by rw [hNW]; exact N3, by rw [hNW]; exact .head _, rfl, ⟨_, rfl⟩, by rw [List.size_toArray, hpl, sizeLine_eq]; decide, fun g' => ?_⟩
  refine restT_of pv.toArray.size (fun i ys news => IntsAre ys ((([2, 3, 5, 7, 11, 13, 17, 19].take i).filter (· ≤ rs.sum)).map fun q : Nat => (q : Int)) ∧ news = NW) ?_ ?_ _ 0 [] _ (Nat.zero_add _) ⟨.nil, rfl⟩
  · rintro i ys news v I oI C oC D m₂ h9 tk9 E' hi2 ⟨hys, rfl⟩ hv hns hx F11 N11 o3' ne
    obtain ⟨tx', x, hxx, rfl⟩ := ints_at1 hpv (by simpa using hv)
    rw [List.getElem?_map] at hxx
    obtain ⟨q, hq, rfl⟩ := Option.map_eq_some_iff.mp hxx
    subst hNW
    clear N3
    try clear F2
    (try dsimp only); (try k_fold)
    ((repeat' ((fail_if_success (with_reducible show LCg.CompEnd _ _ _ _ _ _ _ _ _ _ _ _ _ _)); (first | (k_unfold; (try dsimp only)) | ((with_reducible first | show wpAny _ _ (exec _ _) _ _ _ | show wpAny _ _ (execs _ _) _ _ _); k_fold) | (k_end; wrow_close) | walk1 | (dsimp only; walk1) | (leave1; (try dsimp only))))) <;> (repeat (k_unfold; (try dsimp only))))
    · rename (_ : Int) ≤ _ => hq0
      rename Fr _ _ _ _ => F13
      rename News _ _ _ _ => N13
      refine LCg.CompEnd.intro F13 N13 _ (fun q hq => hq) o3' (.head _) ⟨?_, rfl⟩
      rw [List.take_add_one, hq]
      show IntsAre _ (List.map _ (List.filter _ (_ ++ [q])))
      rw [List.filter_append, List.filter_cons_of_pos (by simp; omega), List.filter_nil, List.map_append]
      exact hys.append (.cons _ _ .nil)
    · rename ¬ (_ : Int) ≤ _ => hq0
      rename Fr _ _ _ _ => F13
      rename News _ _ _ _ => N13
      refine LCg.CompEnd.intro F13 N13 _ (fun q hq => hq) o3' (.head _) ⟨?_, rfl⟩
      rw [List.take_add_one, hq]
      show IntsAre _ (List.map _ (List.filter _ (_ ++ [q])))
      rw [List.filter_append, List.filter_cons_of_neg (by simp; omega), List.filter_nil, List.append_nil]
      exact hys
  · rintro ys news ⟨hys, rfl⟩ Dq h9 tk9 F11 N11 oD
    rw [List.size_toArray, hpl] at hys
    have hys2 : IntsAre ys ((prs rs.sum).map fun q : Nat => (q : Int)) := hys
    have om := Off1_mem oD
    subst hNW
    clear N3
    try clear F2
    (try dsimp only); (try k_fold)
    ((repeat' ((fail_if_success (with_reducible show wpAny _ _ (execs (Stmt.Assign [Expr.Name (Str.ofString "games") _] _ _ :: _) _) _ _ _)); (first | (k_unfold; (try dsimp only)) | ((with_reducible first | show wpAny _ _ (exec _ _) _ _ _ | show wpAny _ _ (execs _ _) _ _ _); k_fold) | (k_end; wrow_close) | walk1 | (dsimp only; walk1) | (leave1; (try dsimp only))))) <;> (repeat (k_unfold; (try dsimp only))))
    rename Fr _ _ _ _ => F12
    rename News _ _ _ _ => N12
    have F13 := Fr.congr (m' := wl2 (some (.ref sc)) (some (.ref Dr)) written text word (some (.ref Dq)) none none none) F12 (by (intro y; unfold wl2; (rcases Classical.em (y = "script") with rfl | h0); exact rfl; (rcases Classical.em (y = "runs") with rfl | h1); exact rfl; (rcases Classical.em (y = "written") with rfl | h2); exact rfl; (rcases Classical.em (y = "text") with rfl | h3); exact rfl; (rcases Classical.em (y = "word") with rfl | h4); exact rfl; (rcases Classical.em (y = "primes") with rfl | h5); exact rfl; (rcases Classical.em (y = "games") with rfl | h6); exact rfl; (rcases Classical.em (y = "below") with rfl | h7); exact rfl; (rcases Classical.em (y = "told") with rfl | h8); exact rfl; (try simp only [if_neg h0, if_neg h1, if_neg h2, if_neg h3, if_neg h4, if_neg h5, if_neg h6, if_neg h7, if_neg h8]); (first | done | exact rfl | (show List.lookup y (_ :: _) = none; simp only [List.lookup, beq_eq_false_iff_ne.mpr h0, beq_eq_false_iff_ne.mpr h1, beq_eq_false_iff_ne.mpr h2, beq_eq_false_iff_ne.mpr h3, beq_eq_false_iff_ne.mpr h4, beq_eq_false_iff_ne.mpr h5, beq_eq_false_iff_ne.mpr h6, beq_eq_false_iff_ne.mpr h7, beq_eq_false_iff_ne.mpr h8]) | (simp only [List.lookup, beq_eq_false_iff_ne.mpr h0, beq_eq_false_iff_ne.mpr h1, beq_eq_false_iff_ne.mpr h2, beq_eq_false_iff_ne.mpr h3, beq_eq_false_iff_ne.mpr h4, beq_eq_false_iff_ne.mpr h5, beq_eq_false_iff_ne.mpr h6, beq_eq_false_iff_ne.mpr h7, beq_eq_false_iff_ne.mpr h8]; done))))
    have mAE : ∀ z ∈ [(L + 1 + 1 + 1 + 1 + 1 + 1, o6), (L + 1 + 1 + 1 + 1 + 1, o5), (L + 1 + 1 + 1 + 1, o4), (L + 1 + 1 + 1, o3), (L + 1 + 1, o2), (L + 1, o1), (173, tabObj tab), (Dp, listOf yp.toArray kp), (Dr, listOf rv.toArray kr)] ++ ((bL ++ bP) ++ ((T3 ++ T4) ++ blk)), z ∈ (Dt, { cls := .type "tuple", data := .seq pv.toArray }) :: (L + 1 + 1 + 1 + 1, o4) :: W := fun z hz => by
      rw [hW]
      rcases List.mem_append.mp hz with hz | hz
      · simp only [List.mem_cons, List.not_mem_nil, or_false] at hz
        rcases hz with rfl | rfl | rfl | rfl | rfl | rfl | rfl | rfl | rfl <;> k_mem
      · exact .tail _ (.tail _ (List.mem_append_right _ hz))
    refine stF2 (s := { s with heap := _, toks := _ }) (kr := kr) (kq := ys.length) (kp := kp) (tab := tab) (by exact rfl) B X T hsc hi hl S3 S4 Rd O M hp htl hcod R hrv k1 k2 hyp k3 k4 WL WP k5 k6 hys2 F13 (fun z hz => N12 z ?_) (fun z hz => ?_) offTM (fun z hz => ?_) hL hd' hu hQ
    · rcases List.mem_append.mp hz with hz | hz
      · rcases List.mem_cons.mp hz with rfl | hz
        · exact .head _
        · refine .tail _ (mAE z ?_)
          rcases List.mem_append.mp hz with hz | hz
          · exact List.mem_append_left _ hz
          · exact List.mem_append_right _ (List.mem_append_left _ hz)
      · exact .tail _ (mAE z (List.mem_append_right _ (List.mem_append_right _ hz)))
    · rcases List.mem_cons.mp hz with rfl | hz
      · exact not_adrs M Rd (fun r hr => om r (mAE r (List.mem_append_right _ (List.mem_append_right _ (List.mem_append_right _ hr)))))
      · exact offM z hz
    · rcases List.mem_cons.mp hz with rfl | hz
      · exact fun r hr => (om r (mAE r (List.mem_append_right _ (List.mem_append_right _ (List.mem_append_left _ hr))))).symm
      · exact offT z hz
end

section
variable {w : World} {dp un : Nat} {gd : Option (List Code)} {outer : List Env} {A₀ : Around} {base h₀ : Heap} {L fa : Addr} {cd : Value} {tp : Program} {tl : List Str} {mean : ExcName → Option Value} {mg mb : Str → Option Value} {s : Shared} {Q : Flow → Shared → Prop} {E : Value → Shared → Prop} {rest : List Stmt} {scope : Scope}
theorem stD2 (hdef : lawRest ((hd.heap_1 w.params).lookup 212) 9 = some (rest, scope)) (B : Below A₀ base outer h₀) (X : (hd.heap_1 w.params).In h₀) (T : Top tp tl mean mg mb h₀)
    {sc : Addr} {vs : List Value} {ns : List Int} (hsc : h₀.IsList sc vs.toArray) (hi : IntsAre vs ns) (hl : ns.length ≤ 63)
    {T3 T4 : List (Addr × Obj)} {tab : Array Value} (S3 : TabSt 37 35 4 "_int2digits.<locals>.inner" T3) (S4 : TabSt 44 50 4 "_digits2int.<locals>.inner" T4)
    {la : LexA} {adr : List Addr} {RO : Nat → List (Addr × Obj) → Prop} {txt : Str} {p : Nat} {blk : List (Addr × Obj)} (Rd : Reader w la.rd txt adr RO) (O : la.Ok adr) (M : MachSt w la RO (1 + nlTo txt p) "\n\t\r " [] p blk) (hp : p ≤ txt.length) (htl : txt.length < 2000) (hcod : codes txt p = [])
    {rs : List Nat} (R : Rk rs) {Dr : Addr} {rv : List Value} {kr : Nat} (hrv : IntsAre rv (rs.map fun q : Nat => (q : Int))) {bg : Int} {tb : Tok} {o1 o2 o3 o4 o5 o6 : Obj} (k1 : cellIs o1 (some (.int bg tb))) (k2 : cellIs o2 (some (.ref la.x)))
    {Dp : Addr} {yp : List Value} {kp : Nat} (hyp : StrsAre yp ((pcsOf rs).map blank)) (k3 : cellIs o3 (some (.ref Dp))) (k4 : cellIs o4 none) (k5 : cellIs o5 none) (k6 : cellIs o6 none) {t9 : Tok} {written text : Option Value}
    (F : Fr h₀ L s.heap (wl2 (some (.ref sc)) (some (.ref Dr)) written text (some (.str (Tx (wlOf rs)) t9)) none none none none))
    (N : News h₀ L s.heap ((Dp, listOf yp.toArray kp) :: (Dr, listOf rv.toArray kr) :: [(173, tabObj tab), (L + 1 + 1 + 1 + 1 + 1 + 1, o6), (L + 1 + 1 + 1 + 1 + 1, o5), (L + 1 + 1 + 1 + 1, o4), (L + 1 + 1 + 1, o3), (L + 1 + 1, o2), (L + 1, o1)] ++ (blk ++ (T3 ++ T4))))
    (offM : ∀ q ∈ (Dp, listOf yp.toArray kp) :: (Dr, listOf rv.toArray kr) :: [(173, tabObj tab), (L + 1 + 1 + 1 + 1 + 1 + 1, o6), (L + 1 + 1 + 1 + 1 + 1, o5), (L + 1 + 1 + 1 + 1, o4), (L + 1 + 1 + 1, o3), (L + 1 + 1, o2), (L + 1, o1)], q.1 ∉ la.adrs ++ adr) (offTM : ∀ r ∈ T3 ++ T4, r.1 ∉ la.adrs ++ adr) (offT : ∀ q ∈ (Dp, listOf yp.toArray kp) :: (Dr, listOf rv.toArray kr) :: [(173, tabObj tab), (L + 1 + 1 + 1 + 1 + 1 + 1, o6), (L + 1 + 1 + 1 + 1 + 1, o5), (L + 1 + 1 + 1 + 1, o4), (L + 1 + 1 + 1, o3), (L + 1 + 1, o2), (L + 1, o1)], ∀ r ∈ T3 ++ T4, q.1 ≠ r.1) (offA : ∀ q ∈ [(173, tabObj tab), (L + 1 + 1 + 1 + 1 + 1 + 1, o6), (L + 1 + 1 + 1 + 1 + 1, o5), (L + 1 + 1 + 1 + 1, o4), (L + 1 + 1 + 1, o3), (L + 1 + 1, o2), (L + 1, o1)], q.1 ≠ Dr ∧ q.1 ≠ Dp)
    (hL : 173 < L) (hd' : dp + 250 < recursionLimit) (hu : un + 2500 < cLine) (hQ : LawEnd h₀ L Q s) :
    wpAny (model Challenge.rw_pe0259_02.row.prog w) (Ar dp un gd (envOfC "law" scope L fa cd :: outer)) (execs rest (envOfC "law" scope L fa cd)) Q E s := by
  revert hdef
  k_fill
  intro hdef
  refine' law_out ?hl hdef ?_
  (case hl => k_is)
  clear hdef
  intro hdef
  cases hdef
  have codeHd := codeHd_of_K (c := 41) (P := 37) X (by kernel_rfl)
  (try dsimp only [List.drop]); (try k_fold)
  unfold wl2 at F
  have hL' : @LT.lt Nat _ 173 L := hL
  have hRl := R.len
  have hrl : rv.length = rs.length := by rw [hrv.length, List.length_map]
  have hRs := R.sum
  have hlen := wl_len rs
  have hws := wl_ws rs
  obtain ⟨W, hW⟩ : ∃ W, W = [(Dp, listOf yp.toArray kp), (173, tabObj tab), (L + 1 + 1 + 1, o3), (L + 1 + 1, o2), (L + 1, o1)] ++ (blk ++ (T3 ++ T4)) := ⟨_, rfl⟩
  have N0 : News h₀ L s.heap ((L + 1 + 1 + 1 + 1 + 1 + 1, o6) :: (L + 1 + 1 + 1 + 1 + 1, o5) :: (L + 1 + 1 + 1 + 1, o4) :: (Dr, listOf rv.toArray kr) :: W) := fun z hz => N z (by
    rw [hW] at hz
    rcases List.mem_cons.mp hz with rfl | hz
    · k_mem
    · rcases List.mem_cons.mp hz with rfl | hz
      · k_mem
      · rcases List.mem_cons.mp hz with rfl | hz
        · k_mem
        · rcases List.mem_cons.mp hz with rfl | hz
          · k_mem
          · rcases List.mem_append.mp hz with hz | hz
            · simp only [List.mem_cons, List.not_mem_nil, or_false] at hz
              rcases hz with rfl | rfl | rfl | rfl | rfl <;> k_mem
            · exact List.mem_append_right _ hz)
  have hcell : ∀ (x : Addr) (o : Obj), (x, o) ∈ [(173, tabObj tab), (L + 1 + 1 + 1 + 1 + 1 + 1, o6), (L + 1 + 1 + 1 + 1 + 1, o5), (L + 1 + 1 + 1 + 1, o4), (L + 1 + 1 + 1, o3), (L + 1 + 1, o2), (L + 1, o1)] → x ≠ 173 → x ≠ L + 1 + 1 + 1 → x ≠ L + 1 + 1 → x ≠ L + 1 → ∀ z ∈ W, z.1 ≠ x := fun x o hx x1 x2 x3 x4 z hz => by
    rw [hW] at hz
    rcases List.mem_append.mp hz with hz | hz
    · simp only [List.mem_cons, List.not_mem_nil, or_false] at hz
      rcases hz with rfl | rfl | rfl | rfl | rfl
      · exact (offA _ hx).2.symm
      · exact x1.symm
      · exact x2.symm
      · exact x3.symm
      · exact x4.symm
    · rcases List.mem_append.mp hz with hz | hz
      · exact of_adrs M Rd (offM (x, o) (.tail _ (.tail _ hx))) z hz
      · exact (offT (x, o) (.tail _ (.tail _ hx)) z hz).symm
  have hW4 := hcell (L + 1 + 1 + 1 + 1) o4 (by k_mem) (cg 4 hL' rfl) (cn 4 3 rfl) (cn 4 2 rfl) (cn 4 1 rfl)
  have hW5 := hcell (L + 1 + 1 + 1 + 1 + 1) o5 (by k_mem) (cg 5 hL' rfl) (cn 5 3 rfl) (cn 5 2 rfl) (cn 5 1 rfl)
  have hW6 := hcell (L + 1 + 1 + 1 + 1 + 1 + 1) o6 (by k_mem) (cg 6 hL' rfl) (cn 6 3 rfl) (cn 6 2 rfl) (cn 6 1 rfl)
  have d4 : Dr ≠ L + 1 + 1 + 1 + 1 := (offA (L + 1 + 1 + 1 + 1, o4) (by k_mem)).1.symm
  have d5 : Dr ≠ L + 1 + 1 + 1 + 1 + 1 := (offA (L + 1 + 1 + 1 + 1 + 1, o5) (by k_mem)).1.symm
  have d6 : Dr ≠ L + 1 + 1 + 1 + 1 + 1 + 1 := (offA (L + 1 + 1 + 1 + 1 + 1 + 1, o6) (by k_mem)).1.symm
  have d45 : L + 1 + 1 + 1 + 1 ≠ L + 1 + 1 + 1 + 1 + 1 := cn 4 5 rfl
  have d46 : L + 1 + 1 + 1 + 1 ≠ L + 1 + 1 + 1 + 1 + 1 + 1 := cn 4 6 rfl
  have d56 : L + 1 + 1 + 1 + 1 + 1 ≠ L + 1 + 1 + 1 + 1 + 1 + 1 := cn 5 6 rfl
  clear N
  ((repeat' ((fail_if_success (with_reducible show wpAny _ _ (call (Value.builtin "sum") _) _ _ _)); (first | (k_unfold; (try dsimp only)) | ((with_reducible first | show wpAny _ _ (exec _ _) _ _ _ | show wpAny _ _ (execs _ _) _ _ _); k_fold) | (k_end; wrow_close) | walk1 | (dsimp only; walk1) | (leave1; (try dsimp only))))) <;> (repeat (k_unfold; (try dsimp only))))
  rename Fr _ _ _ _ => F1
  rename News _ _ _ _ => N1
  refine LSm.sum_ints F1 N1 rfl (News.isList N1 (by k_mem)) hrv (fun h2 tk2 t2 F2 N2 => ?_)
  rw [sum_cast]
  clear F1 N1
  (try dsimp only)
  ((repeat' ((fail_if_success (with_reducible show wpAny _ _ (call (Value.ref 167) _) _ _ _)); (first | (k_unfold; (try dsimp only)) | ((with_reducible first | show wpAny _ _ (exec _ _) _ _ _ | show wpAny _ _ (execs _ _) _ _ _); k_fold) | (k_end; wrow_close) | walk1 | (dsimp only; walk1) | (leave1; (try dsimp only))))) <;> (repeat (k_unfold; (try dsimp only))))
  rename Obj => o7
  rename (Obj.data o7 = Data.cell _) => k7
  rename Fr _ _ _ _ => F3
  rename News _ _ _ _ => N3
  try clear F2
  try clear N2
  refine use_g (ws_new w (Tx (wlOf rs)) _ (by rw [Tx_len]; omega) (by rw [Tx_cps]; exact hws)) (oth := (L + 1 + 1 + 1 + 1 + 1 + 1, o6) :: (L + 1 + 1 + 1 + 1 + 1, o5) :: (L + 1 + 1 + 1 + 1, o7) :: (Dr, listOf rv.toArray kr) :: W) B F3 X N3 T rfl rfl (fun p hp => nomatch hp) (fun p hp => hp) (fun p hp q hq => nomatch hq) (by k_room) (by k_units) ?_
  rintro v4 bL h4 tk4 F4 N4 ne4 - ⟨xL, rfl, WL⟩
  rw [Tx_cps] at WL
  have hb5 : ∀ z ∈ bL ++ W, z.1 ≠ L + 1 + 1 + 1 + 1 + 1 := fun z hz => (List.mem_append.mp hz).elim (fun h => ne4 z h _ (.tail _ (.head _))) (hW5 z)
  have N5 : News h₀ L h4 ((L + 1 + 1 + 1 + 1 + 1 + 1, o6) :: (L + 1 + 1 + 1 + 1 + 1, o5) :: (L + 1 + 1 + 1 + 1, o7) :: (Dr, listOf rv.toArray kr) :: (bL ++ W)) := fun z hz => N4 z (by
    rcases List.mem_cons.mp hz with rfl | hz
    · exact List.mem_append_right _ (.head _)
    · rcases List.mem_cons.mp hz with rfl | hz
      · exact List.mem_append_right _ (.tail _ (.head _))
      · rcases List.mem_cons.mp hz with rfl | hz
        · exact List.mem_append_right _ (.tail _ (.tail _ (.head _)))
        · rcases List.mem_cons.mp hz with rfl | hz
          · exact List.mem_append_right _ (.tail _ (.tail _ (.tail _ (.head _))))
          · rcases List.mem_append.mp hz with hz | hz
            · exact List.mem_append_left _ hz
            · exact List.mem_append_right _ (.tail _ (.tail _ (.tail _ (.tail _ hz)))))
  clear F3 N3 N4
  (try dsimp only)
  ((repeat' ((fail_if_success (with_reducible show wpAny _ _ (call (Value.builtin "len") _) _ _ _)); (first | (k_unfold; (try dsimp only)) | ((with_reducible first | show wpAny _ _ (exec _ _) _ _ _ | show wpAny _ _ (execs _ _) _ _ _); k_fold) | (k_end; wrow_close) | walk1 | (dsimp only; walk1) | (leave1; (try dsimp only))))) <;> (repeat (k_unfold; (try dsimp only))))
  rename Obj => o8
  rename (Obj.data o8 = Data.cell _) => k8
  rename Fr _ _ _ _ => F6
  rename News _ _ _ _ => N6
  try clear F4
  try clear N5
  refine len_list (News.isList N6 (by k_mem)) (by rw [List.size_toArray, hrl]; omega) ?_
  rw [List.size_toArray, hrl]
  (try dsimp only)
  ((repeat' ((fail_if_success (with_reducible show wpAny _ _ (binaryOp Operator.Mult (Value.str _ _) (Value.int (_ - _) _)) _ _ _)); (first | (k_unfold; (try dsimp only)) | ((with_reducible first | show wpAny _ _ (exec _ _) _ _ _ | show wpAny _ _ (execs _ _) _ _ _); k_fold) | (k_end; wrow_close) | walk1 | (dsimp only; walk1) | (leave1; (try dsimp only))))) <;> (repeat (k_unfold; (try dsimp only))))
  rw [show ((rs.length : Nat) : Int) - 1 = ((rs.length - 1 : Nat) : Int) from by omega]
  ((repeat' ((fail_if_success (with_reducible show wpAny _ _ (binaryOp Operator.Add (Value.str _ _) _) _ _ _)); (first | (k_unfold; (try dsimp only)) | ((with_reducible first | show wpAny _ _ (exec _ _) _ _ _ | show wpAny _ _ (execs _ _) _ _ _); k_fold) | (k_end; wrow_close) | walk1 | (dsimp only; walk1) | (leave1; (try dsimp only))))) <;> (repeat (k_unfold; (try dsimp only))))
  refine add_T2 (a := List.replicate rs.sum 32) (b := List.replicate (rs.length - 1) 9) (by rw [lit_s, Tx_mul1]) (by rw [lit_t2, Tx_mul1]) (by rw [List.length_replicate, List.length_replicate]; omega) ?_
  intro t10 k10
  (try dsimp only)
  ((repeat' ((fail_if_success (with_reducible show wpAny _ _ (call (Value.ref 167) _) _ _ _)); (first | (k_unfold; (try dsimp only)) | ((with_reducible first | show wpAny _ _ (exec _ _) _ _ _ | show wpAny _ _ (execs _ _) _ _ _); k_fold) | (k_end; wrow_close) | walk1 | (dsimp only; walk1) | (leave1; (try dsimp only))))) <;> (repeat (k_unfold; (try dsimp only))))
  rename Fr _ _ _ _ => F7
  rename News _ _ _ _ => N7
  try clear F6
  try clear N6
  refine use_g (ws_new w (Tx (List.replicate rs.sum 32 ++ List.replicate (rs.length - 1) 9)) _ (by rw [Tx_len, List.length_append, List.length_replicate, List.length_replicate]; omega) (by
    rw [Tx_cps]
    intro c hc
    rcases List.mem_append.mp hc with hc | hc
    · exact .inl (List.mem_replicate.mp hc).2
    · exact .inr (List.mem_replicate.mp hc).2)) (oth := (L + 1 + 1 + 1 + 1 + 1 + 1, o6) :: (L + 1 + 1 + 1 + 1 + 1, o8) :: (L + 1 + 1 + 1 + 1, o7) :: (Dr, listOf rv.toArray kr) :: (bL ++ W)) B F7 X N7 T rfl rfl (fun p hp => nomatch hp) (fun p hp => hp) (fun p hp q hq => nomatch hq) (by k_room) (by k_units) ?_
  rintro v11 bP h11 tk11 F8 N8 ne8 - ⟨xP, rfl, WP⟩
  rw [Tx_cps] at WP
  have hb6 : ∀ z ∈ bP ++ (bL ++ W), z.1 ≠ L + 1 + 1 + 1 + 1 + 1 + 1 := fun z hz => (List.mem_append.mp hz).elim (fun h => ne8 z h _ (.head _)) (fun hz => (List.mem_append.mp hz).elim (fun h => ne4 z h _ (.head _)) (hW6 z))
  have N9 : News h₀ L h11 ((L + 1 + 1 + 1 + 1 + 1 + 1, o6) :: (L + 1 + 1 + 1 + 1 + 1, o8) :: (L + 1 + 1 + 1 + 1, o7) :: (Dr, listOf rv.toArray kr) :: (bP ++ (bL ++ W))) := fun z hz => N8 z (by
    rcases List.mem_cons.mp hz with rfl | hz
    · exact List.mem_append_right _ (.head _)
    · rcases List.mem_cons.mp hz with rfl | hz
      · exact List.mem_append_right _ (.tail _ (.head _))
      · rcases List.mem_cons.mp hz with rfl | hz
        · exact List.mem_append_right _ (.tail _ (.tail _ (.head _)))
        · rcases List.mem_cons.mp hz with rfl | hz
          · exact List.mem_append_right _ (.tail _ (.tail _ (.tail _ (.head _))))
          · rcases List.mem_append.mp hz with hz | hz
            · exact List.mem_append_left _ hz
            · exact List.mem_append_right _ (.tail _ (.tail _ (.tail _ (.tail _ hz)))))
  clear F7 N7 N8
  (try dsimp only)
  ((repeat' ((fail_if_success (with_reducible show wpAny _ _ (execs (Stmt.Assign [Expr.Name (Str.ofString "primes") _] _ _ :: _) _) _ _ _)); (first | (k_unfold; (try dsimp only)) | ((with_reducible first | show wpAny _ _ (exec _ _) _ _ _ | show wpAny _ _ (execs _ _) _ _ _); k_fold) | (k_end; wrow_close) | walk1 | (dsimp only; walk1) | (leave1; (try dsimp only))))) <;> (repeat (k_unfold; (try dsimp only))))
  rename Obj => o9
  rename (Obj.data o9 = Data.cell _) => k9
  rename Fr _ _ _ _ => F10
  rename News _ _ _ _ => N10
  have oth4 : ∀ r ∈ blk ++ (T3 ++ T4), r ∈ (L + 1 + 1 + 1 + 1 + 1 + 1, o6) :: (L + 1 + 1 + 1 + 1 + 1, o5) :: (L + 1 + 1 + 1 + 1, o7) :: (Dr, listOf rv.toArray kr) :: W := fun r hr => by
    rw [hW]
    exact mem_skip [(_, _), (_, _), (_, _), (_, _), (_, _), (_, _), (_, _), (_, _), (_, _)] hr
  have oth8 : ∀ r ∈ blk ++ (T3 ++ T4), r ∈ (L + 1 + 1 + 1 + 1 + 1 + 1, o6) :: (L + 1 + 1 + 1 + 1 + 1, o8) :: (L + 1 + 1 + 1 + 1, o7) :: (Dr, listOf rv.toArray kr) :: (bL ++ W) := fun r hr => by
    rw [hW]
    exact mem_skip [(_, _), (_, _), (_, _), (_, _)] (List.mem_append_right _ (mem_skip [(_, _), (_, _), (_, _), (_, _), (_, _)] hr))
  have off2 : ∀ q ∈ bL ++ bP, ∀ r ∈ blk ++ (T3 ++ T4), q.1 ≠ r.1 := fun q hq r hr => by
    rcases List.mem_append.mp hq with hq | hq
    · exact ne4 q hq r (oth4 r hr)
    · exact ne8 q hq r (oth8 r hr)
  have mE : ∀ (P : Addr → Prop), (∀ q ∈ (Dp, listOf yp.toArray kp) :: (Dr, listOf rv.toArray kr) :: [(173, tabObj tab), (L + 1 + 1 + 1 + 1 + 1 + 1, o6), (L + 1 + 1 + 1 + 1 + 1, o5), (L + 1 + 1 + 1 + 1, o4), (L + 1 + 1 + 1, o3), (L + 1 + 1, o2), (L + 1, o1)], P q.1) → ∀ q ∈ [(L + 1 + 1 + 1 + 1 + 1 + 1, o9), (L + 1 + 1 + 1 + 1 + 1, o8), (L + 1 + 1 + 1 + 1, o7), (L + 1 + 1 + 1, o3), (L + 1 + 1, o2), (L + 1, o1), (173, tabObj tab), (Dp, listOf yp.toArray kp), (Dr, listOf rv.toArray kr)], P q.1 := fun P h => by
    exact List.forall_mem_cons.mpr ⟨h (_, o6) (by k_mem), List.forall_mem_cons.mpr ⟨h (_, o5) (by k_mem), List.forall_mem_cons.mpr ⟨h (_, o4) (by k_mem), List.forall_mem_cons.mpr ⟨h (_, o3) (by k_mem), List.forall_mem_cons.mpr ⟨h (_, o2) (by k_mem), List.forall_mem_cons.mpr ⟨h (_, o1) (by k_mem), List.forall_mem_cons.mpr ⟨h (173, _) (by k_mem), List.forall_mem_cons.mpr ⟨h _ (.head _), List.forall_mem_cons.mpr ⟨h _ (.tail _ (.head _)), List.forall_mem_nil _⟩⟩⟩⟩⟩⟩⟩⟩⟩
  refine stE2 (s := { s with heap := _, toks := _ }) (kr := kr) (kp := kp) (tab := tab) (o4 := o7) (o5 := o8) (o6 := o9) (bL := bL) (bP := bP) (by exact rfl) B X T hsc hi hl S3 S4 Rd O M hp htl hcod R hrv k1 k2 hyp k3 k7 WL WP k8 k9 F10 (fun z hz => N10 z ?_) (fun z hz => ?_) offTM (fun z hz => ?_) hL hd' hu hQ
  · rw [hW]
    rcases List.mem_append.mp hz with hz | hz
    · simp only [List.mem_cons, List.not_mem_nil, or_false] at hz
      rcases hz with rfl | rfl | rfl | rfl | rfl | rfl | rfl | rfl | rfl
      · k_mem
      · k_mem
      · k_mem
      all_goals first | exact .tail _ (.tail _ (.tail _ (.head _))) | exact mem_skip [(_, _), (_, _), (_, _), (_, _)] (List.mem_append_right _ (List.mem_append_right _ (by k_mem)))
    · refine mem_skip [(_, _), (_, _), (_, _), (_, _)] ?_
      rcases List.mem_append.mp hz with hz | hz
      · rcases List.mem_append.mp hz with hz | hz
        · exact List.mem_append_right _ (List.mem_append_left _ hz)
        · exact List.mem_append_left _ hz
      · refine List.mem_append_right _ (List.mem_append_right _ (mem_skip [(_, _), (_, _), (_, _), (_, _), (_, _)] ?_))
        rcases List.mem_append.mp hz with hz | hz
        · exact List.mem_append_right _ hz
        · exact List.mem_append_left _ hz
  · rcases List.mem_append.mp hz with hz | hz
    · exact mE (· ∉ la.adrs ++ adr) offM z hz
    · exact not_adrs M Rd (fun r hr => (off2 z hz r (List.mem_append_left _ hr)).symm)
  · rcases List.mem_append.mp hz with hz | hz
    · exact mE (fun x => ∀ r ∈ T3 ++ T4, x ≠ r.1) offT z hz
    · exact fun r hr => off2 z hz r (List.mem_append_right _ hr)
end

theorem cut_len : ∀ rs : List Nat, rs.length + 1 = (rs.filter (0 < ·)).length + (1 + rs.count 0)
  | [] => rfl
  | 0 :: t => by
    have := cut_len t
    rw [List.filter_cons_of_neg (by decide), List.count_cons_self, List.length_cons]; omega
  | (r + 1) :: t => by
    have := cut_len t
    rw [List.filter_cons_of_pos (by simp), List.count_cons_of_ne (by omega), List.length_cons, List.length_cons]; omega
theorem cut_pcs {rs : List Nat} (h : rs ≠ []) : (List.range (rs.length + 1)).map (cutW (wlOf rs)) = (pcsOf rs).map blank := by
  rw [cut_len, cut_wl rs _ h]
  unfold pcsOf
  rw [List.map_append, List.map_replicate]; rfl
theorem count_cast (l : List Nat) : (l.map fun q : Nat => (q : Int)).count 0 = l.count 0 := by
  induction l with
  | nil => rfl
  | cons x r ih =>
    rw [List.map_cons, List.count_cons, List.count_cons, ih]
    congr 1
    by_cases h : x = 0
    · subst h; rfl
    · have : ¬ (x : Int) = 0 := by omega
      simp [h, this]
theorem rep_strs (x : Str) (t : Tok) (n : Nat) : StrsAre (List.replicate n (Value.str x t)) (List.replicate n x) := by
  induction n with
  | zero => exact .nil
  | succ n ih => exact .cons _ _ ih
section
variable {w : World} {dp un : Nat} {gd : Option (List Code)} {outer : List Env} {A₀ : Around} {base h₀ : Heap} {L fa : Addr} {cd : Value} {tp : Program} {tl : List Str} {mean : ExcName → Option Value} {mg mb : Str → Option Value} {s : Shared} {Q : Flow → Shared → Prop} {E : Value → Shared → Prop} {rest : List Stmt} {scope : Scope}
theorem stC2 (hdef : lawRest ((hd.heap_1 w.params).lookup 212) 7 = some (rest, scope)) (B : Below A₀ base outer h₀) (X : (hd.heap_1 w.params).In h₀) (T : Top tp tl mean mg mb h₀)
    {sc : Addr} {vs : List Value} {ns : List Int} (hsc : h₀.IsList sc vs.toArray) (hi : IntsAre vs ns) (hl : ns.length ≤ 63)
    {T3 T4 : List (Addr × Obj)} {tab : Array Value} (S3 : TabSt 37 35 4 "_int2digits.<locals>.inner" T3) (S4 : TabSt 44 50 4 "_digits2int.<locals>.inner" T4)
    {la : LexA} {adr : List Addr} {RO : Nat → List (Addr × Obj) → Prop} {txt : Str} {p : Nat} {blk : List (Addr × Obj)} (Rd : Reader w la.rd txt adr RO) (O : la.Ok adr) (M : MachSt w la RO (1 + nlTo txt p) "\n\t\r " [] p blk) (hp : p ≤ txt.length) (htl : txt.length < 2000) (hcod : codes txt p = [])
    {rs : List Nat} (R : Rk rs) {Dr : Addr} {rv : List Value} {kr : Nat} (hrv : IntsAre rv (rs.map fun q : Nat => (q : Int))) {bg : Int} {tb : Tok} {o1 o2 o3 o4 o5 o6 : Obj} (k1 : cellIs o1 (some (.int bg tb))) (k2 : cellIs o2 (some (.ref la.x)))
    {cc cc2 : Addr} {oc : Obj} {cvs : Array Value} {tq : Tok} (htab : tab = mtab cc cc2) (hcc : ∀ p l, RO p l → (cc, oc) ∈ l) (hcd : oc.data = .fields cvs) (hcv : cvs[1]? = some (.str "_law_machine.<locals>._law_read_on" tq)) (hc0 : (173 : Nat) < cc)
    (k3 : cellIs o3 none) (k4 : cellIs o4 none) (k5 : cellIs o5 none) (k6 : cellIs o6 none) {t9 : Tok} {written text : Option Value}
    (F : Fr h₀ L s.heap (wl2 (some (.ref sc)) (some (.ref Dr)) written text (some (.str (Tx (wlOf rs)) t9)) none none none none))
    (N : News h₀ L s.heap ((Dr, listOf rv.toArray kr) :: [(173, tabObj tab), (L + 1 + 1 + 1 + 1 + 1 + 1, o6), (L + 1 + 1 + 1 + 1 + 1, o5), (L + 1 + 1 + 1 + 1, o4), (L + 1 + 1 + 1, o3), (L + 1 + 1, o2), (L + 1, o1)] ++ (blk ++ (T3 ++ T4))))
    (offM : ∀ q ∈ (Dr, listOf rv.toArray kr) :: [(173, tabObj tab), (L + 1 + 1 + 1 + 1 + 1 + 1, o6), (L + 1 + 1 + 1 + 1 + 1, o5), (L + 1 + 1 + 1 + 1, o4), (L + 1 + 1 + 1, o3), (L + 1 + 1, o2), (L + 1, o1)], q.1 ∉ la.adrs ++ adr) (offTM : ∀ r ∈ T3 ++ T4, r.1 ∉ la.adrs ++ adr) (offT : ∀ q ∈ (Dr, listOf rv.toArray kr) :: [(173, tabObj tab), (L + 1 + 1 + 1 + 1 + 1 + 1, o6), (L + 1 + 1 + 1 + 1 + 1, o5), (L + 1 + 1 + 1 + 1, o4), (L + 1 + 1 + 1, o3), (L + 1 + 1, o2), (L + 1, o1)], ∀ r ∈ T3 ++ T4, q.1 ≠ r.1) (offA : ∀ q ∈ [(173, tabObj tab), (L + 1 + 1 + 1 + 1 + 1 + 1, o6), (L + 1 + 1 + 1 + 1 + 1, o5), (L + 1 + 1 + 1 + 1, o4), (L + 1 + 1 + 1, o3), (L + 1 + 1, o2), (L + 1, o1)], q.1 ≠ Dr)
    (hL : 173 < L) (hd' : dp + 250 < recursionLimit) (hu : un + 2500 < cLine) (hQ : LawEnd h₀ L Q s) :
    wpAny (model Challenge.rw_pe0259_02.row.prog w) (Ar dp un gd (envOfC "law" scope L fa cd :: outer)) (execs rest (envOfC "law" scope L fa cd)) Q E s := by
  revert hdef
  k_fill
  intro hdef
  refine' law_out ?hl hdef ?_
  (case hl => k_is)
  clear hdef
  intro hdef
  cases hdef
  have codeHd := codeHd_of_K (c := 41) (P := 37) X (by kernel_rfl)
  (try dsimp only [List.drop]); (try k_fold)
  unfold wl2 at F
  have hL' : @LT.lt Nat _ 173 L := hL
  have hRl := R.len
  have hrl : rv.length = rs.length := by rw [hrv.length, List.length_map]
  have hRs := R.sum
  have hlen := wl_len rs
  obtain ⟨W, hW⟩ : ∃ W, W = [(L + 1 + 1 + 1 + 1 + 1 + 1, o6), (L + 1 + 1 + 1 + 1 + 1, o5), (L + 1 + 1 + 1 + 1, o4), (L + 1 + 1, o2), (L + 1, o1)] ++ (blk ++ (T3 ++ T4)) := ⟨_, rfl⟩
  have N0 : News h₀ L s.heap ((L + 1 + 1 + 1, o3) :: (173, tabObj tab) :: (Dr, listOf rv.toArray kr) :: W) := fun z hz => N z (by
    rw [hW] at hz
    rcases List.mem_cons.mp hz with rfl | hz
    · k_mem
    · rcases List.mem_cons.mp hz with rfl | hz
      · k_mem
      · rcases List.mem_cons.mp hz with rfl | hz
        · k_mem
        · rcases List.mem_append.mp hz with hz | hz
          · simp only [List.mem_cons, List.not_mem_nil, or_false] at hz
            rcases hz with rfl | rfl | rfl | rfl | rfl <;> k_mem
          · exact List.mem_append_right _ hz)
  have hblk : ∀ z ∈ blk, z ∈ W := fun z hz => by rw [hW]; exact List.mem_append_right _ (List.mem_append_left _ hz)
  have hW3 : ∀ z ∈ W, z.1 ≠ L + 1 + 1 + 1 := by
    rw [hW]
    intro z hz
    rcases List.mem_append.mp hz with hz | hz
    · simp only [List.mem_cons, List.not_mem_nil, or_false] at hz
      rcases hz with rfl | rfl | rfl | rfl | rfl
      · exact cn 6 3 rfl
      · exact cn 5 3 rfl
      · exact cn 4 3 rfl
      · exact cn 2 3 rfl
      · exact cn 1 3 rfl
    · rcases List.mem_append.mp hz with hz | hz
      · exact of_adrs M Rd (offM (L + 1 + 1 + 1, o3) (by k_mem)) z hz
      · exact (offT (L + 1 + 1 + 1, o3) (by k_mem) z hz).symm
  clear N
  ((repeat' ((fail_if_success (with_reducible show wpAny _ _ (call (Value.builtin "len") _) _ _ _)); (first | (k_unfold; (try dsimp only)) | ((with_reducible first | show wpAny _ _ (exec _ _) _ _ _ | show wpAny _ _ (execs _ _) _ _ _); k_fold) | (k_end; wrow_close) | walk1 | (dsimp only; walk1) | (leave1; (try dsimp only))))) <;> (repeat (k_unfold; (try dsimp only))))
  rename Fr _ _ _ _ => F1
  rename News _ _ _ _ => N1
  refine len_list (News.isList N1 (.tail _ (.tail _ (.head _)))) (by rw [List.size_toArray, hrl]; omega) ?_
  rw [List.size_toArray, hrl]
  (try dsimp only)
  ((repeat' ((fail_if_success (with_reducible show wpAny _ _ (call (Value.ref 183) _) _ _ _)); (first | (k_unfold; (try dsimp only)) | ((with_reducible first | show wpAny _ _ (exec _ _) _ _ _ | show wpAny _ _ (execs _ _) _ _ _); k_fold) | (k_end; wrow_close) | walk1 | (dsimp only; walk1) | (leave1; (try dsimp only))))) <;> (repeat (k_unfold; (try dsimp only))))
  rename Fr _ _ _ _ => F2
  rename News _ _ _ _ => N2
  rw [show ((rs.length : Nat) : Int) + 1 = ((rs.length + 1 : Nat) : Int) from rfl]
  subst htab
  obtain ⟨lt6, tw6, k6', l6, its6, hl6, hi6, hb6⟩ := id M
  have hcm : (cc, oc) ∈ W := hblk _ (by rw [hb6]; exact List.mem_append_right _ (hcc p l6 hl6))
  refine use_more (cut_c w (wlOf rs) t9 _ (rs.length + 1) (by omega) (by omega) cc cc2 oc cvs tq hcd hcv hc0) (fun n v b hb => ?_) B F2 X N2 T rfl rfl (List.forall_mem_cons.mpr ⟨.tail _ (.head _), List.forall_mem_cons.mpr ⟨.tail _ (.tail _ (.tail _ hcm)), List.forall_mem_nil _⟩⟩) (by k_room) (by k_units) ?_
  · obtain ⟨D, ys, k, -, -, -, -, rfl⟩ := hb
    exact ⟨[(D, _)], rfl⟩
  rintro v3 nb h3 tk3 F3 N3 ne3 ⟨Dp, yp, kp, rfl, hyp, d1, d2, hnb⟩
  obtain rfl : nb = [(Dp, listOf (List.toArray yp) kp)] := List.append_cancel_right (hnb.trans rfl)
  rw [cut_pcs (fun e => by rw [e] at hRl; simp at hRl)] at hyp
  have hDp : ∀ q ∈ (L + 1 + 1 + 1, o3) :: (173, tabObj (mtab cc cc2)) :: (Dr, listOf rv.toArray kr) :: W, q.1 ≠ Dp := fun q hq e => by
    by_cases h : q.1 ∈ [(173, tabObj (mtab cc cc2)), (cc, oc)].map Prod.fst
    · simp only [List.map_cons, List.map_nil, List.mem_cons, List.not_mem_nil, or_false] at h
      rcases h with h | h
      · exact d1 (e.symm.trans h)
      · exact d2 (e.symm.trans h)
    · exact ne3 _ (.head _) q hq h e.symm
  clear F2 N2
  try clear F1
  try clear N1
  have e3 : Dp ≠ L + 1 + 1 + 1 := (hDp (L + 1 + 1 + 1, o3) (.head _)).symm
  have e4 : Dr ≠ L + 1 + 1 + 1 := (offA (L + 1 + 1 + 1, o3) (by k_mem)).symm
  have e5 : (173 : Addr) ≠ L + 1 + 1 + 1 := Ne.symm (cg 3 hL' rfl)
  simp only [List.cons_append, List.nil_append] at N3
  have hypl : yp.length = (pcsOf rs).length := by rw [hyp.length, List.length_map]
  (try dsimp only)
  ((repeat' ((fail_if_success (with_reducible show wpAny _ _ (eval (Expr.ListComp _ _ _ _) _) _ _ _)); (first | (k_unfold; (try dsimp only)) | ((with_reducible first | show wpAny _ _ (exec _ _) _ _ _ | show wpAny _ _ (execs _ _) _ _ _); k_fold) | (k_end; wrow_close) | walk1 | (dsimp only; walk1) | (leave1; (try dsimp only))))) <;> (repeat (k_unfold; (try dsimp only))))
  rename Obj => o7
  rename (Obj.data o7 = Data.cell _) => k7
  rename Fr _ _ _ _ => F4
  rename News _ _ _ _ => N4
  try clear F3
  try clear N3
  refine LCt.ListComp_T (F₀ := F4) (by with_unfolding_all rfl) (by decide) (by rfl) (by decide) (by rfl) ?_
  ((repeat' ((fail_if_success (with_reducible show LCt.CompSrcT _ _ _ _ _ _ _ _ _ _ _ _ _ _ _)); (first | (k_unfold; (try dsimp only)) | ((with_reducible first | show wpAny _ _ (exec _ _) _ _ _ | show wpAny _ _ (execs _ _) _ _ _); k_fold) | (k_end; wrow_close) | walk1 | (dsimp only; walk1) | (leave1; (try dsimp only))))) <;> (repeat (k_unfold; (try dsimp only))))
  rename Fr _ _ _ _ => F5
  rename News _ _ _ _ => N5
  obtain ⟨NW, hNW⟩ : ∃ NW, NW = (Dp, listOf (List.toArray yp) kp) :: (L + 1 + 1 + 1, o7) :: (173, tabObj (mtab cc cc2)) :: (Dr, listOf rv.toArray kr) :: W := ⟨_, rfl⟩
  refine LCt.CompSrcT.ledger (k := kr) (its := rv.toArray) (news := NW) rfl F5 (by rw [hNW]; exact N5) (by rw [hNW]; k_mem) (by rw [List.size_toArray, sizeLine_eq]; omega) (fun g' => ?_)
  refine restT_of rv.toArray.size (fun i ys news => StrsAre ys (((rs.take i).filter (0 < ·)).map blank) ∧ news = NW) ?_ ?_ _ 0 [] _ (Nat.zero_add _) ⟨.nil, rfl⟩
  · rintro i ys news v I oI C oC D m₂ h9 tk9 E' hi2 ⟨hys, rfl⟩ hv hns hx F11 N11 o3' ne
    obtain ⟨tx', x, hxx, rfl⟩ := ints_at1 hrv (by simpa using hv)
    rw [List.getElem?_map] at hxx
    obtain ⟨q, hq, rfl⟩ := Option.map_eq_some_iff.mp hxx
    have hqb := R.r5 q (List.mem_of_getElem? hq)
    subst hNW
    clear F5 N5
    try clear F4 N4
    (try dsimp only); (try k_fold)
    ((repeat' ((fail_if_success (with_reducible show LCg.CompEnd _ _ _ _ _ _ _ _ _ _ _ _ _ _)); (first | (k_unfold; (try dsimp only)) | ((with_reducible first | show wpAny _ _ (exec _ _) _ _ _ | show wpAny _ _ (execs _ _) _ _ _); k_fold) | (k_end; wrow_close) | walk1 | (dsimp only; walk1) | (leave1; (try dsimp only))))) <;> (repeat (k_unfold; (try dsimp only))))
    · rename (0 : Int) < _ => hq0
      rename Fr _ _ _ _ => F13
      rename News _ _ _ _ => N13
      refine LCg.CompEnd.intro F13 N13 _ (fun q hq => hq) o3' (.inr ⟨_, by k_mem, rfl, _, rfl⟩) ⟨?_, rfl⟩
      rw [List.take_add_one, hq, lit_s, Tx_mul1]
      show StrsAre _ (List.map _ (List.filter _ (_ ++ [q])))
      rw [List.filter_append, List.filter_cons_of_pos (by simp; omega), List.filter_nil, List.map_append]
      exact kct_snoc hys
    · rename ¬ (0 : Int) < _ => hq0
      rename Fr _ _ _ _ => F13
      rename News _ _ _ _ => N13
      refine LCg.CompEnd.intro F13 N13 _ (fun q hq => hq) o3' (.inr ⟨_, by k_mem, rfl, _, rfl⟩) ⟨?_, rfl⟩
      rw [List.take_add_one, hq]
      show StrsAre _ (List.map _ (List.filter _ (_ ++ [q])))
      rw [List.filter_append, List.filter_cons_of_neg (by simp; omega), List.filter_nil, List.append_nil]
      exact hys
  · rintro ys news ⟨hys, rfl⟩ Dz h9 tk9 F11 N11 oD
    subst hNW
    rw [List.size_toArray, hrl, List.take_length] at hys
    clear F5 N5
    try clear F4 N4
    (try dsimp only); (try k_fold)
    ((repeat' ((fail_if_success (with_reducible show wpAny _ _ (call (Value.builtin "list.count") _) _ _ _)); (first | (k_unfold; (try dsimp only)) | ((with_reducible first | show wpAny _ _ (exec _ _) _ _ _ | show wpAny _ _ (execs _ _) _ _ _); k_fold) | (k_end; wrow_close) | walk1 | (dsimp only; walk1) | (leave1; (try dsimp only))))) <;> (repeat (k_unfold; (try dsimp only))))
    rename Fr _ _ _ _ => F6
    rename News _ _ _ _ => N6
    refine count_list_ints (News.isList N6 (by k_mem)) hrv ?_
    rw [count_cast]
    (try dsimp only)
    ((repeat' ((fail_if_success (with_reducible show wpAny _ _ (binaryOp Operator.Mult (Value.ref _) _) _ _ _)); (first | (k_unfold; (try dsimp only)) | ((with_reducible first | show wpAny _ _ (exec _ _) _ _ _ | show wpAny _ _ (execs _ _) _ _ _); k_fold) | (k_end; wrow_close) | walk1 | (dsimp only; walk1) | (leave1; (try dsimp only))))) <;> (repeat (k_unfold; (try dsimp only))))
    rename Fr _ _ _ _ => F7
    rename News _ _ _ _ => N7
    have hcl : rs.count 0 ≤ rs.length := List.count_le_length
    rw [show (1 : Int) + ((rs.count 0 : Nat) : Int) = ((1 + rs.count 0 : Nat) : Int) from rfl]
    refine mul_new F7 N7 (.head _) (by omega) (fun De h8 F8 N8 ne8 => ?_)
    clear F7 N7
    try clear F6 N6
    (try dsimp only)
    ((repeat' ((fail_if_success (with_reducible show wpAny _ _ (binaryOp Operator.Add (Value.ref _) (Value.ref _)) _ _ _)); (first | (k_unfold; (try dsimp only)) | ((with_reducible first | show wpAny _ _ (exec _ _) _ _ _ | show wpAny _ _ (execs _ _) _ _ _); k_fold) | (k_end; wrow_close) | walk1 | (dsimp only; walk1) | (leave1; (try dsimp only))))) <;> (repeat (k_unfold; (try dsimp only))))
    rename Fr _ _ _ _ => F9
    rename News _ _ _ _ => N9
    have hyl : ys.length ≤ rs.length := by rw [hys.length, List.length_map]; exact List.length_filter_le _ _
    refine add_new F9 N9 (l := Dz) (b := De) (by k_mem) (.head _) (by rw [List.length_replicate]; omega) (fun Df h10 F10 N10 ne10 => ?_)
    clear F9 N9
    try clear F8 N8
    (try dsimp only)
    ((repeat' ((fail_if_success (with_reducible show wpAny _ _ (compareOp CmpOp.NotEq _ _) _ _ _)); (first | (k_unfold; (try dsimp only)) | ((with_reducible first | show wpAny _ _ (exec _ _) _ _ _ | show wpAny _ _ (execs _ _) _ _ _); k_fold) | (k_end; wrow_close) | walk1 | (dsimp only; walk1) | (leave1; (try dsimp only))))) <;> (repeat (k_unfold; (try dsimp only))))
    rename Fr _ _ _ _ => F12
    rename News _ _ _ _ => N12
    have hst : ∀ tt, StrsAre (ys ++ List.replicate (1 + rs.count 0) (Value.str (Str.ofString "") tt)) ((pcsOf rs).map blank) := fun tt => by
      unfold pcsOf
      rw [List.map_append, List.map_replicate]
      exact strs_app hys (rep_strs _ _ _)
    refine ne_strs (News.isList N12 (by k_mem)) (News.isList N12 (.head _)) hyp (hst _) (okBs _) (okBs _) (by k_units) ?_
    rw [decide_eq_true rfl, Bool.not_true]
    have N13 := cb_drop (news := (L + 1 + 1 + 1, o7) :: (Dp, listOf (List.toArray yp) kp) :: (173, tabObj (mtab cc cc2)) :: (Dr, listOf rv.toArray kr) :: W) N12 (fun q hq => by
      rcases List.mem_cons.mp hq with rfl | hq
      · k_mem
      · rcases List.mem_cons.mp hq with rfl | hq
        · k_mem
        · exact mem_skip [(_, _), (_, _), (_, _), (_, _), (_, _), (_, _)] hq)
    clear N12
    (try dsimp only)
    ((repeat' ((fail_if_success (with_reducible show wpAny _ _ (execs (Stmt.Assign [Expr.Name (Str.ofString "total") _] _ _ :: _) _) _ _ _)); (first | (k_unfold; (try dsimp only)) | ((with_reducible first | show wpAny _ _ (exec _ _) _ _ _ | show wpAny _ _ (execs _ _) _ _ _); k_fold) | (k_end; wrow_close) | walk1 | (dsimp only; walk1) | (leave1; (try dsimp only))))) <;> (repeat (k_unfold; (try dsimp only))))
    rename Fr _ _ _ _ => F14
    rename News _ _ _ _ => N14
    have mAll : ∀ z ∈ (Dp, listOf yp.toArray kp) :: (Dr, listOf rv.toArray kr) :: [(173, tabObj (mtab cc cc2)), (L + 1 + 1 + 1 + 1 + 1 + 1, o6), (L + 1 + 1 + 1 + 1 + 1, o5), (L + 1 + 1 + 1 + 1, o4), (L + 1 + 1 + 1, o7), (L + 1 + 1, o2), (L + 1, o1)] ++ (blk ++ (T3 ++ T4)), z ∈ (L + 1 + 1 + 1, o7) :: (Dp, listOf (List.toArray yp) kp) :: (173, tabObj (mtab cc cc2)) :: (Dr, listOf rv.toArray kr) :: W := fun z hz => by
      rw [hW]
      rcases List.mem_append.mp hz with hz | hz
      · simp only [List.mem_cons, List.not_mem_nil, or_false] at hz
        rcases hz with rfl | rfl | rfl | rfl | rfl | rfl | rfl | rfl | rfl <;> k_mem
      · exact mem_skip [(_, _), (_, _), (_, _), (_, _), (_, _), (_, _), (_, _), (_, _), (_, _)] hz
    have mB : ∀ z ∈ blk ++ (T3 ++ T4), z ∈ (L + 1 + 1 + 1, o3) :: (173, tabObj (mtab cc cc2)) :: (Dr, listOf rv.toArray kr) :: W := fun z hz => by
      rw [hW]
      exact mem_skip [(_, _), (_, _), (_, _), (_, _), (_, _), (_, _), (_, _), (_, _)] hz
    have mK : ∀ (x : Addr) (o : Obj), (x, o) ∈ [(L + 1 + 1 + 1 + 1 + 1 + 1, o6), (L + 1 + 1 + 1 + 1 + 1, o5), (L + 1 + 1 + 1 + 1, o4), (L + 1 + 1, o2), (L + 1, o1)] → x ≠ Dp := fun x o hx => hDp (x, o) (.tail _ (.tail _ (.tail _ (by rw [hW]; exact List.mem_append_left _ hx))))
    have dM : Dp ∉ la.adrs ++ adr := not_adrs M Rd (fun r hr => hDp r (mB r (List.mem_append_left _ hr)))
    have dT : ∀ r ∈ T3 ++ T4, Dp ≠ r.1 := fun r hr => (hDp r (mB r (List.mem_append_right _ hr))).symm
    have o3M := offM (L + 1 + 1 + 1, o3) (by k_mem)
    have o3T := offT (L + 1 + 1 + 1, o3) (by k_mem)
    refine stD2 (s := { s with heap := _, toks := _ }) (kr := kr) (kp := kp) (tab := mtab cc cc2) (o3 := o7) (o4 := o4) (o5 := o5) (o6 := o6) (by exact rfl) B X T hsc hi hl S3 S4 Rd O M hp htl hcod R hrv k1 k2 hyp k7 k4 k5 k6 F14 (fun z hz => N14 z (mAll z hz)) ?_ offTM ?_ ?_ hL hd' hu hQ
    · refine List.forall_mem_cons.mpr ⟨dM, List.forall_mem_cons.mpr ⟨offM _ (.head _), List.forall_mem_cons.mpr ⟨offM (173, _) (by k_mem), List.forall_mem_cons.mpr ⟨offM (_, o6) (by k_mem), List.forall_mem_cons.mpr ⟨offM (_, o5) (by k_mem), List.forall_mem_cons.mpr ⟨offM (_, o4) (by k_mem), List.forall_mem_cons.mpr ⟨o3M, List.forall_mem_cons.mpr ⟨offM (_, o2) (by k_mem), List.forall_mem_cons.mpr ⟨offM (_, o1) (by k_mem), List.forall_mem_nil _⟩⟩⟩⟩⟩⟩⟩⟩⟩
    · refine List.forall_mem_cons.mpr ⟨dT, List.forall_mem_cons.mpr ⟨offT _ (.head _), List.forall_mem_cons.mpr ⟨offT (173, _) (by k_mem), List.forall_mem_cons.mpr ⟨offT (_, o6) (by k_mem), List.forall_mem_cons.mpr ⟨offT (_, o5) (by k_mem), List.forall_mem_cons.mpr ⟨offT (_, o4) (by k_mem), List.forall_mem_cons.mpr ⟨o3T, List.forall_mem_cons.mpr ⟨offT (_, o2) (by k_mem), List.forall_mem_cons.mpr ⟨offT (_, o1) (by k_mem), List.forall_mem_nil _⟩⟩⟩⟩⟩⟩⟩⟩⟩
    · refine List.forall_mem_cons.mpr ⟨⟨offA (173, _) (by k_mem), hDp (173, _) (.tail _ (.head _))⟩, List.forall_mem_cons.mpr ⟨⟨offA (_, o6) (by k_mem), mK _ o6 (by k_mem)⟩, List.forall_mem_cons.mpr ⟨⟨offA (_, o5) (by k_mem), mK _ o5 (by k_mem)⟩, List.forall_mem_cons.mpr ⟨⟨offA (_, o4) (by k_mem), mK _ o4 (by k_mem)⟩, List.forall_mem_cons.mpr ⟨⟨e4.symm, e3.symm⟩, List.forall_mem_cons.mpr ⟨⟨offA (_, o2) (by k_mem), mK _ o2 (by k_mem)⟩, List.forall_mem_cons.mpr ⟨⟨offA (_, o1) (by k_mem), mK _ o1 (by k_mem)⟩, List.forall_mem_nil _⟩⟩⟩⟩⟩⟩⟩
end

section
variable {w : World} {dp un : Nat} {gd : Option (List Code)} {outer : List Env} {A₀ : Around} {base h₀ : Heap} {L fa : Addr} {cd : Value} {tp : Program} {tl : List Str} {mean : ExcName → Option Value} {mg mb : Str → Option Value} {s : Shared} {Q : Flow → Shared → Prop} {E : Value → Shared → Prop} {rest : List Stmt} {scope : Scope}
theorem stB2 (hdef : lawRest ((hd.heap_1 w.params).lookup 212) 4 = some (rest, scope)) (B : Below A₀ base outer h₀) (X : (hd.heap_1 w.params).In h₀) (T : Top tp tl mean mg mb h₀)
    {sc : Addr} {vs : List Value} {ns : List Int} (hsc : h₀.IsList sc vs.toArray) (hi : IntsAre vs ns) (hl : ns.length ≤ 63)
    {rs : List Nat} (R : Rk rs) {Dr : Addr} {rv : List Value} {kr : Nat} (hrv : IntsAre rv (rs.map fun q : Nat => (q : Int))) {bg : Int} {tb t1 t2 : Tok} {q : Bool}
    {o1 c2 c3 c4 c5 c6 : Obj} (k1 : cellIs o1 (some (.int bg tb))) (k2 : cellIs c2 none) (k3 : cellIs c3 none) (k4 : cellIs c4 none) (k5 : cellIs c5 none) (k6 : cellIs c6 none)
    (F : Fr h₀ L s.heap (wl2 (some (.ref sc)) (some (.ref Dr)) (some (.str (Tx (wlOf rs)) t1)) (some (.str (Tx (txt2 (wlOf rs) q)) t2)) none none none none none))
    (N : News h₀ L s.heap ((Dr, listOf rv.toArray kr) :: (L + 1, o1) :: [(L + 1 + 1 + 1 + 1 + 1 + 1, c6), (L + 1 + 1 + 1 + 1 + 1, c5), (L + 1 + 1 + 1 + 1, c4), (L + 1 + 1 + 1, c3), (L + 1 + 1, c2), (173, tabObj #[]), (44, tabObj #[]), (37, tabObj #[])]))
    (hDr : ∀ z ∈ [(L + 1 + 1 + 1 + 1 + 1 + 1, c6), (L + 1 + 1 + 1 + 1 + 1, c5), (L + 1 + 1 + 1 + 1, c4), (L + 1 + 1 + 1, c3), (L + 1 + 1, c2), (173, tabObj #[]), (44, tabObj #[]), (37, tabObj #[])], z.1 ≠ Dr) (hDr1 : Dr ≠ L + 1)
    (hL : 173 < L) (hd' : dp + 250 < recursionLimit) (hu : un + 2500 < cLine) (hQ : LawEnd h₀ L Q s) :
    wpAny (model Challenge.rw_pe0259_02.row.prog w) (Ar dp un gd (envOfC "law" scope L fa cd :: outer)) (execs rest (envOfC "law" scope L fa cd)) Q E s := by
  revert hdef
  k_fill
  intro hdef
  refine' law_out ?hl hdef ?_
  (case hl => k_is)
  clear hdef
  intro hdef
  cases hdef
  have codeHd := codeHd_of_K (c := 41) (P := 37) X (by kernel_rfl)
  (try dsimp only [List.drop]); (try k_fold)
  unfold wl2 at F
  have hL' : @LT.lt Nat _ 173 L := hL
  obtain ⟨W, hW⟩ : ∃ W, W = (Dr, listOf rv.toArray kr) :: (L + 1, o1) :: [(L + 1 + 1 + 1 + 1 + 1 + 1, c6), (L + 1 + 1 + 1 + 1 + 1, c5), (L + 1 + 1 + 1 + 1, c4), (L + 1 + 1 + 1, c3), (44, tabObj #[]), (37, tabObj #[])] := ⟨_, rfl⟩
  have N0 : News h₀ L s.heap ((L + 1 + 1, c2) :: (173, tabObj #[]) :: W) := fun z hz => N z (by
    rw [hW] at hz
    simp only [List.mem_cons, List.not_mem_nil, or_false] at hz
    rcases hz with rfl | rfl | rfl | rfl | rfl | rfl | rfl | rfl | rfl | rfl <;> k_mem)
  clear N
  have hW2 : ∀ z ∈ W, z.1 ≠ L + 1 + 1 := by
    rw [hW]
    exact List.forall_mem_cons.mpr ⟨(hDr (L + 1 + 1, c2) (by k_mem)).symm, List.forall_mem_cons.mpr ⟨cn 1 2 rfl, List.forall_mem_cons.mpr ⟨cn 6 2 rfl, List.forall_mem_cons.mpr ⟨cn 5 2 rfl, List.forall_mem_cons.mpr ⟨cn 4 2 rfl, List.forall_mem_cons.mpr ⟨cn 3 2 rfl, List.forall_mem_cons.mpr ⟨Ne.symm (cg 2 hL' rfl), List.forall_mem_cons.mpr ⟨Ne.symm (cg 2 hL' rfl), List.forall_mem_nil _⟩⟩⟩⟩⟩⟩⟩⟩
  have n44 : (44 : Addr) ≠ 173 := by decide
  have n37 : (37 : Addr) ≠ 173 := by decide
  have hW3 : ∀ z ∈ W, z.1 ≠ 173 := by
    rw [hW]
    exact List.forall_mem_cons.mpr ⟨(hDr (173, tabObj #[]) (by k_mem)).symm, List.forall_mem_cons.mpr ⟨cg 1 hL' rfl, List.forall_mem_cons.mpr ⟨cg 6 hL' rfl, List.forall_mem_cons.mpr ⟨cg 5 hL' rfl, List.forall_mem_cons.mpr ⟨cg 4 hL' rfl, List.forall_mem_cons.mpr ⟨cg 3 hL' rfl, List.forall_mem_cons.mpr ⟨n44, List.forall_mem_cons.mpr ⟨n37, List.forall_mem_nil _⟩⟩⟩⟩⟩⟩⟩⟩
  have h2173 : L + 1 + 1 ≠ 173 := cg 2 hL' rfl
  obtain ⟨wl, hwl⟩ : ∃ wl, wl = wlOf rs := ⟨_, rfl⟩
  have hws := wl_ws rs
  have hlen := wl_len rs
  have hne := R.ne
  have hRl := R.len
  have hRs := R.sum
  rw [← hwl] at hws hlen hne F
  have htl : (Tx (txt2 wl q)).length < 2000 := by rw [Tx_len]; have := txt2_len wl q; omega
  ((repeat' ((fail_if_success (with_reducible show wpAny _ _ (call (Value.ref 178) _) _ _ _)); (first | (k_unfold; (try dsimp only)) | ((with_reducible first | show wpAny _ _ (exec _ _) _ _ _ | show wpAny _ _ (execs _ _) _ _ _); k_fold) | (k_end; wrow_close) | walk1 | (dsimp only; walk1) | (leave1; (try dsimp only))))) <;> (repeat (k_unfold; (try dsimp only))))
  rename Fr _ _ _ _ => F1
  rename News _ _ _ _ => N1
  refine use_g (machine_1 w (Tx (txt2 wl q)) t2 (by omega)) (oth := (L + 1 + 1, c2) :: W) B F1 X N1 T rfl rfl (List.forall_mem_cons.mpr ⟨.tail _ (.head _), List.forall_mem_nil _⟩) (List.forall_mem_cons.mpr ⟨.head _, fun z hz => .tail _ (.tail _ hz)⟩)
    (List.forall_mem_cons.mpr ⟨List.forall_mem_cons.mpr ⟨h2173, List.forall_mem_nil _⟩, fun z hz => List.forall_mem_cons.mpr ⟨hW3 z hz, List.forall_mem_nil _⟩⟩) (by k_room) (by k_units) ?_
  rintro v2 blk2 h2 tk2 F2 N2 ne2 - ⟨la, adr, RO, blk, cc, cc2, oc, cvs, tq, Rd, O, rfl, M, rfl, hcc, h173, hcd, hcv, hc0⟩
  have off2 : ∀ z ∈ (L + 1 + 1, c2) :: W, z.1 ∉ la.adrs ++ adr := fun z hz => not_adrs M Rd (fun r hr => ne2 r (List.mem_append_left _ hr) z hz)
  have hcW : ∀ z ∈ blk ++ W, z.1 ≠ L + 1 + 1 := fun z hz => (List.mem_append.mp hz).elim (fun h => ne2 z (List.mem_append_left _ h) _ (.head _)) (hW2 z)
  have N3 : News h₀ L h2 ((L + 1 + 1, c2) :: (173, tabObj (mtab cc cc2)) :: (blk ++ W)) := fun z hz => N2 z (by
    rcases List.mem_cons.mp hz with rfl | hz
    · exact List.mem_append_right _ (.head _)
    · rcases List.mem_cons.mp hz with rfl | hz
      · exact List.mem_append_left _ (List.mem_append_right _ (.head _))
      · rcases List.mem_append.mp hz with hz | hz
        · exact List.mem_append_left _ (List.mem_append_left _ hz)
        · exact List.mem_append_right _ (.tail _ hz))
  clear F1 N1 N2
  (try dsimp only)
  ((repeat' ((fail_if_success (with_reducible show wpAny _ _ (execs (Stmt.Assign [Expr.Name (Str.ofString "word") _] _ _ :: _) _) _ _ _)); (first | (k_unfold; (try dsimp only)) | ((with_reducible first | show wpAny _ _ (exec _ _) _ _ _ | show wpAny _ _ (execs _ _) _ _ _); k_fold) | (k_end; wrow_close) | walk1 | (dsimp only; walk1) | (leave1; (try dsimp only))))) <;> (repeat (k_unfold; (try dsimp only))))
  rename Obj => o2
  rename (Obj.data o2 = Data.cell _) => e2
  rename Fr _ _ _ _ => F4
  rename News _ _ _ _ => N4
  try clear F2
  try clear N3
  try clear F N0
  have M0 : MachSt w la RO (1 + nlTo (Tx (txt2 wl q)) 0) "\n\t\r " [] 0 blk := by simpa [nlTo] using M
  have hc0' : lex0 "\n\t\r " (codes (Tx (txt2 wl q)) 0) = (Tx wl, [101, 110, 100]) := by
    show lex0 _ ((Tx (txt2 wl q)).cps.toList.drop 0) = _
    rw [Tx_cps, List.drop_zero]; exact lex_txt2 hws hne q
  have offM : ∀ z ∈ [(L + 1 + 1, o2), (173, tabObj (mtab cc cc2))] ++ W, z.1 ∉ la.adrs ++ adr := List.forall_mem_cons.mpr ⟨off2 (L + 1 + 1, c2) (.head _), List.forall_mem_cons.mpr ⟨h173, fun z hz => off2 z (.tail _ hz)⟩⟩
  obtain ⟨lt6, tw6, k6', l6, its6, hl6, hi6, rfl⟩ := id M0
  simp only [lexObjs, List.cons_append, List.nil_append, List.append_assoc] at N4
  ((repeat' ((fail_if_success (with_reducible show wpAny _ _ (call (Value.ref 91) _) _ _ _)); (first | (k_unfold; (try dsimp only)) | ((with_reducible first | show wpAny _ _ (exec _ _) _ _ _ | show wpAny _ _ (execs _ _) _ _ _); k_fold) | (k_end; wrow_close) | walk1 | (dsimp only; walk1) | (leave1; (try dsimp only))))) <;> (repeat (k_unfold; (try dsimp only))))
  rename Fr _ _ _ _ => F5
  rename News _ _ _ _ => N5
  refine mach_get0 (aa := [(L + 1 + 1, o2), (173, tabObj (mtab cc cc2))] ++ W) Rd O M0 offM (Nat.zero_le _) (by omega) B F5 X (News.mid (a := [(L + 1 + 1, o2), (173, tabObj (mtab cc cc2))]) (b := lexObjs w la (.int (1 + nlTo (Tx (txt2 wl q)) 0) lt6) (.str "\n\t\r " tw6) its6 k6' ++ l6) (c := W) (by simpa only [lexObjs, List.cons_append, List.nil_append, List.append_assoc] using N5)) T rfl rfl (by k_room) (by k_units) ?_
  intro t9 p9 blk9 h9 tk9 hp9 hc9 F6 N6 M6
  rw [hc0'] at hc9 ⊢
  replace N6 := News.unmid (a := [(L + 1 + 1, o2), (173, tabObj (mtab cc cc2))]) N6
  clear F5 N5
  try clear F4 N4
  have hc1 : lex0 "\n\t\r " (codes (Tx (txt2 wl q)) p9) = (Tx [101, 110, 100], []) := by rw [hc9]; exact lex_end
  have hcnt : Txt.count (Tx (txt2 wl q)) (Str.ofString "\n") = nlTo (Tx (txt2 wl q)) p9 := by
    rw [nl_all (pre := []) (.inl rfl) hc9]; exact count_one _ 10
  obtain ⟨lt7, tw7, k7, l7, its7, hl7, hi7, rfl⟩ := id M6
  simp only [lexObjs, List.cons_append, List.nil_append, List.append_assoc] at N6
  (try dsimp only)
  ((repeat' ((fail_if_success (with_reducible show wpAny _ _ (call (Value.ref 91) _) _ _ _)); (first | ((with_reducible show wpAny _ _ (compareOp CmpOp.NotEq (Value.str _ _) (Value.str _ _)) _ _ _); refine PySem.P.ne_str ?_; rw [show ((Tx wl).cps.toList != (Tx wl).cps.toList) = false from bne_self_eq_false _]) | ((with_reducible show wpAny _ _ (call (Value.builtin "str.count") _) _ _ _); refine PySem.SC.count ?_; rw [hcnt]) | (k_unfold; (try dsimp only)) | ((with_reducible first | show wpAny _ _ (exec _ _) _ _ _ | show wpAny _ _ (execs _ _) _ _ _); k_fold) | (k_end; wrow_close) | walk1 | (dsimp only; walk1) | (leave1; (try dsimp only))))) <;> (repeat (k_unfold; (try dsimp only))))
  · exact absurd rfl (by assumption : 1 + nlTo (Tx (txt2 wl q)) p9 ≠ 1 + nlTo (Tx (txt2 wl q)) p9)
  rename Fr _ _ _ _ => F7
  rename News _ _ _ _ => N7
  refine mach_get0 (aa := [(L + 1 + 1, o2), (173, tabObj (mtab cc cc2))] ++ W) Rd O M6 offM hp9 (by omega) B F7 X (News.mid (a := [(L + 1 + 1, o2), (173, tabObj (mtab cc cc2))]) (b := lexObjs w la (.int (1 + nlTo (Tx (txt2 wl q)) p9) lt7) (.str "\n\t\r " tw7) its7 k7 ++ l7) (c := W) (by simpa only [lexObjs, List.cons_append, List.nil_append, List.append_assoc] using N7)) T rfl rfl (by k_room) (by k_units) ?_
  intro t10 p10 blk10 h10 tk10 hp10 hc10 F8 N8 M8
  rw [hc1] at hc10 ⊢
  replace N8 := News.unmid (a := [(L + 1 + 1, o2), (173, tabObj (mtab cc cc2))]) N8
  clear F7 N7
  try clear F6
  try clear N6
  simp only [List.cons_append, List.nil_append] at N8
  (try dsimp only)
  ((repeat' ((fail_if_success (with_reducible show wpAny _ _ (execs (Stmt.Assign [Expr.Name (Str.ofString "pieces") _] _ _ :: _) _) _ _ _)); (first | ((with_reducible show wpAny _ _ (compareOp CmpOp.NotEq (Value.str _ _) (Value.str _ _)) _ _ _); refine PySem.P.ne_str ?_; rw [show ((Tx [101, 110, 100]).cps.toList != (Str.ofString "end").cps.toList) = false from by decide]) | (k_unfold; (try dsimp only)) | ((with_reducible first | show wpAny _ _ (exec _ _) _ _ _ | show wpAny _ _ (execs _ _) _ _ _); k_fold) | (k_end; wrow_close) | walk1 | (dsimp only; walk1) | (leave1; (try dsimp only))))) <;> (repeat (k_unfold; (try dsimp only))))
  rename Fr _ _ _ _ => F9
  rename News _ _ _ _ => N9
  have F10 : Fr h₀ L _ (wl2 (some (.ref sc)) (some (.ref Dr)) (some (.str (Tx wl) t1)) (some (.str (Tx (txt2 wl q)) t2)) (some (.str (Tx wl) t9)) none none none none) := Fr.congr F9 (by (intro y; unfold wl2; (rcases Classical.em (y = "script") with rfl | h0); exact rfl; (rcases Classical.em (y = "runs") with rfl | h1); exact rfl; (rcases Classical.em (y = "written") with rfl | h2); exact rfl; (rcases Classical.em (y = "text") with rfl | h3); exact rfl; (rcases Classical.em (y = "word") with rfl | h4); exact rfl; (rcases Classical.em (y = "primes") with rfl | h5); exact rfl; (rcases Classical.em (y = "games") with rfl | h6); exact rfl; (rcases Classical.em (y = "below") with rfl | h7); exact rfl; (rcases Classical.em (y = "told") with rfl | h8); exact rfl; (try simp only [if_neg h0, if_neg h1, if_neg h2, if_neg h3, if_neg h4, if_neg h5, if_neg h6, if_neg h7, if_neg h8]); (first | done | exact rfl | (show List.lookup y (_ :: _) = none; simp only [List.lookup, beq_eq_false_iff_ne.mpr h0, beq_eq_false_iff_ne.mpr h1, beq_eq_false_iff_ne.mpr h2, beq_eq_false_iff_ne.mpr h3, beq_eq_false_iff_ne.mpr h4, beq_eq_false_iff_ne.mpr h5, beq_eq_false_iff_ne.mpr h6, beq_eq_false_iff_ne.mpr h7, beq_eq_false_iff_ne.mpr h8]) | (simp only [List.lookup, beq_eq_false_iff_ne.mpr h0, beq_eq_false_iff_ne.mpr h1, beq_eq_false_iff_ne.mpr h2, beq_eq_false_iff_ne.mpr h3, beq_eq_false_iff_ne.mpr h4, beq_eq_false_iff_ne.mpr h5, beq_eq_false_iff_ne.mpr h6, beq_eq_false_iff_ne.mpr h7, beq_eq_false_iff_ne.mpr h8]; done))))
  subst hwl
  have mA : ∀ z ∈ (Dr, listOf rv.toArray kr) :: [(173, tabObj (mtab cc cc2)), (L + 1 + 1 + 1 + 1 + 1 + 1, c6), (L + 1 + 1 + 1 + 1 + 1, c5), (L + 1 + 1 + 1 + 1, c4), (L + 1 + 1 + 1, c3), (L + 1 + 1, o2), (L + 1, o1)], z ∈ [(L + 1 + 1, o2), (173, tabObj (mtab cc cc2))] ++ W := fun z hz => by
    rw [hW]
    simp only [List.mem_cons, List.not_mem_nil, or_false] at hz
    rcases hz with rfl | rfl | rfl | rfl | rfl | rfl | rfl | rfl <;> k_mem
  have mT : ∀ z ∈ [((37 : Addr), tabObj #[])] ++ [((44 : Addr), tabObj #[])], z ∈ [(L + 1 + 1, o2), (173, tabObj (mtab cc cc2))] ++ W := fun z hz => by
    rw [hW]
    simp only [List.mem_cons, List.cons_append, List.nil_append, List.not_mem_nil, or_false] at hz
    rcases hz with rfl | rfl <;> k_mem
  have mW : ∀ z ∈ [(L + 1 + 1, o2), (173, tabObj (mtab cc cc2))] ++ W, z ∈ (L + 1 + 1, o2) :: (173, tabObj (mtab cc cc2)) :: (blk10 ++ W) := fun z hz => by
    rcases List.mem_cons.mp hz with rfl | hz
    · exact .head _
    · rcases List.mem_cons.mp hz with rfl | hz
      · exact .tail _ (.head _)
      · exact .tail _ (.tail _ (List.mem_append_right _ hz))
  have d1 := hDr (37, tabObj #[]) (by k_mem)
  have d2 := hDr (44, tabObj #[]) (by k_mem)
  refine stC2 (s := { s with heap := _, toks := _ }) (kr := kr) (tab := mtab cc cc2) (o3 := c3) (o4 := c4) (o5 := c5) (o6 := c6) (T3 := [(37, tabObj #[])]) (T4 := [(44, tabObj #[])]) (by exact rfl) B X T hsc hi hl (.inl rfl) (.inl rfl) Rd O M8 hp10 htl hc10 R hrv k1 e2 rfl hcc hcd hcv hc0 k3 k4 k5 k6 F10 (fun z hz => N9 z ?_) (fun z hz => offM z (mA z hz)) (fun z hz => offM z (mT z hz)) ?_ ?_ hL hd' hu hQ
  · rcases List.mem_append.mp hz with hz | hz
    · exact mW z (mA z hz)
    · rcases List.mem_append.mp hz with hz | hz
      · exact .tail _ (.tail _ (List.mem_append_left _ hz))
      · exact mW z (mT z hz)
  · have two : ∀ x : Addr, x ≠ 37 → x ≠ 44 → ∀ r ∈ [((37 : Addr), tabObj #[])] ++ [((44 : Addr), tabObj #[])], x ≠ r.1 := fun x h1 h2 => List.forall_mem_cons.mpr ⟨h1, List.forall_mem_cons.mpr ⟨h2, List.forall_mem_nil _⟩⟩
    exact List.forall_mem_cons.mpr ⟨two _ d1.symm d2.symm, List.forall_mem_cons.mpr ⟨two 173 (by decide) (by decide), List.forall_mem_cons.mpr ⟨two _ (cg 6 hL' rfl) (cg 6 hL' rfl), List.forall_mem_cons.mpr ⟨two _ (cg 5 hL' rfl) (cg 5 hL' rfl), List.forall_mem_cons.mpr ⟨two _ (cg 4 hL' rfl) (cg 4 hL' rfl), List.forall_mem_cons.mpr ⟨two _ (cg 3 hL' rfl) (cg 3 hL' rfl), List.forall_mem_cons.mpr ⟨two _ (cg 2 hL' rfl) (cg 2 hL' rfl), List.forall_mem_cons.mpr ⟨two _ (cg 1 hL' rfl) (cg 1 hL' rfl), List.forall_mem_nil _⟩⟩⟩⟩⟩⟩⟩⟩
  · exact List.forall_mem_cons.mpr ⟨hDr (173, tabObj #[]) (by k_mem), List.forall_mem_cons.mpr ⟨hDr (_, c6) (by k_mem), List.forall_mem_cons.mpr ⟨hDr (_, c5) (by k_mem), List.forall_mem_cons.mpr ⟨hDr (_, c4) (by k_mem), List.forall_mem_cons.mpr ⟨hDr (_, c3) (by k_mem), List.forall_mem_cons.mpr ⟨hDr (_, c2) (by k_mem), List.forall_mem_cons.mpr ⟨hDr1.symm, List.forall_mem_nil _⟩⟩⟩⟩⟩⟩⟩
end

section
variable {w : World} {dp un : Nat} {gd : Option (List Code)} {outer : List Env} {A₀ : Around} {base h₀ : Heap} {L fa : Addr} {cd : Value} {tp : Program} {tl : List Str} {mean : ExcName → Option Value} {mg mb : Str → Option Value} {s : Shared} {Q : Flow → Shared → Prop} {E : Value → Shared → Prop} {rest : List Stmt} {scope : Scope}
theorem stA2 (hdef : lawRest ((hd.heap_1 w.params).lookup 212) 0 = some (rest, scope)) (B : Below A₀ base outer h₀) (X : (hd.heap_1 w.params).In h₀) (T : Top tp tl mean mg mb h₀)
    {sc : Addr} {vs : List Value} {ns : List Int} (hsc : h₀.IsList sc vs.toArray) (hi : IntsAre vs ns) (hl : ns.length ≤ 63)
    {c1 c2 c3 c4 c5 c6 : Obj} (k1 : cellIs c1 none) (k2 : cellIs c2 none) (k3 : cellIs c3 none) (k4 : cellIs c4 none) (k5 : cellIs c5 none) (k6 : cellIs c6 none)
    (F : Fr h₀ L s.heap (wl2 (some (.ref sc)) none none none none none none none none))
    (N : News h₀ L s.heap [(L + 1 + 1 + 1 + 1 + 1 + 1, c6), (L + 1 + 1 + 1 + 1 + 1, c5), (L + 1 + 1 + 1 + 1, c4), (L + 1 + 1 + 1, c3), (L + 1 + 1, c2), (L + 1, c1), (173, tabObj #[]), (44, tabObj #[]), (37, tabObj #[])])
    (hL : 173 < L) (hd' : dp + 250 < recursionLimit) (hu : un + 2500 < cLine) (hQ : LawEnd h₀ L Q s) :
    wpAny (model Challenge.rw_pe0259_02.row.prog w) (Ar dp un gd (envOfC "law" scope L fa cd :: outer)) (execs rest (envOfC "law" scope L fa cd)) Q E s := by
  revert hdef
  k_fill
  intro hdef
  refine' law_out ?hl hdef ?_
  (case hl => k_is)
  clear hdef
  intro hdef
  cases hdef
  have codeHd := codeHd_of_K (c := 41) (P := 37) X (by kernel_rfl)
  (try dsimp only [List.drop]); (try k_fold)
  unfold wl2 at F
  have hL' : @LT.lt Nat _ 173 L := hL
  obtain ⟨W, hW⟩ : ∃ W, W = [(L + 1 + 1 + 1 + 1 + 1 + 1, c6), (L + 1 + 1 + 1 + 1 + 1, c5), (L + 1 + 1 + 1 + 1, c4), (L + 1 + 1 + 1, c3), (L + 1 + 1, c2), (173, tabObj #[]), (44, tabObj #[]), (37, tabObj #[])] := ⟨_, rfl⟩
  have N0 : News h₀ L s.heap ((L + 1, c1) :: W) := fun q hq => N q (by
    rw [hW] at hq
    simp only [List.mem_cons, List.not_mem_nil, or_false] at hq
    rcases hq with rfl | rfl | rfl | rfl | rfl | rfl | rfl | rfl | rfl <;> k_mem)
  clear N
  have hW1 : ∀ q ∈ W, q.1 ≠ L + 1 := by
    rw [hW]
    refine List.forall_mem_cons.mpr ⟨cn 6 1 rfl, List.forall_mem_cons.mpr ⟨cn 5 1 rfl, List.forall_mem_cons.mpr ⟨cn 4 1 rfl, List.forall_mem_cons.mpr ⟨cn 3 1 rfl, List.forall_mem_cons.mpr ⟨cn 2 1 rfl, List.forall_mem_cons.mpr ⟨Ne.symm (cg 1 hL' rfl), List.forall_mem_cons.mpr ⟨Ne.symm (cg 1 hL' rfl), List.forall_mem_cons.mpr ⟨Ne.symm (cg 1 hL' rfl), List.forall_mem_nil _⟩⟩⟩⟩⟩⟩⟩⟩
  ((repeat' ((fail_if_success (with_reducible show wpAny _ _ (eval (Expr.ListComp _ _ _ _) _) _ _ _)); (first | (k_unfold; (try dsimp only)) | ((with_reducible first | show wpAny _ _ (exec _ _) _ _ _ | show wpAny _ _ (execs _ _) _ _ _); k_fold) | (k_end; wrow_close) | walk1 | (dsimp only; walk1) | (leave1; (try dsimp only))))) <;> (repeat (k_unfold; (try dsimp only))))
  rename Addr => G
  rename Fr _ _ _ _ => F1
  rename News _ _ _ _ => N1
  refine LCg.ListComp_U (F₀ := F1) (by with_unfolding_all rfl) (by decide) (by rfl) (by decide) (by rfl) ?_
  ((repeat' ((fail_if_success (with_reducible show LCg.CompSrc _ _ _ _ _ _ _ _ _ _ _ _ _ _)); (first | (k_unfold; (try dsimp only)) | ((with_reducible first | show wpAny _ _ (exec _ _) _ _ _ | show wpAny _ _ (execs _ _) _ _ _); k_fold) | (k_end; wrow_close) | walk1 | (dsimp only; walk1) | (leave1; (try dsimp only))))) <;> (repeat (k_unfold; (try dsimp only))))
  rename (IntsAre _ (List.take _ _)) => hdv
  rename Addr => Ds
  rename List Value => dv
  rename Fr _ _ _ _ => F2
  rename News _ _ _ _ => N2
  have hdl : dv.length = (ns.take 3).length := hdv.length
  have hl3 : (ns.take 3).length ≤ 3 := by rw [List.length_take]; exact Nat.min_le_left _ _
  refine LCg.CompSrc.ledger (k := 0) (its := dv.toArray) rfl F2 N2 (.head _) (by rw [List.size_toArray, sizeLine_eq]; omega) (fun g' => ?_)
  obtain ⟨NW, hNW⟩ : ∃ NW, NW = (Ds, listOf dv.toArray 0) :: (G, listOf #[Value.int 5 s.toks, Value.int 2 (s.toks + 1)] 0) :: (L + 1, c1) :: W := ⟨_, rfl⟩
  refine rest_of dv.toArray.size (fun i ys news => IntsAre ys (((ns.take 3).take i).map fun x => (((x % 5).toNat : Nat) : Int)) ∧ news = NW) ?_ ?_ _ 0 [] _ (Nat.zero_add _) ⟨.nil, hNW.symm⟩
  · rintro i ys news v I oI C oC D m₂ h8 tk8 E' hi2 ⟨hys, rfl⟩ hv hns hx F11 N11 o3' ne
    obtain ⟨tx', x, hxx, rfl⟩ := ints_at1 hdv (by simpa using hv)
    subst hNW
    clear F2 N2
    try clear F1 N1
    (try dsimp only); (try k_fold)
    ((repeat' ((fail_if_success (with_reducible show LCg.CompEnd _ _ _ _ _ _ _ _ _ _ _ _ _ _)); (first | (k_unfold; (try dsimp only)) | ((with_reducible first | show wpAny _ _ (exec _ _) _ _ _ | show wpAny _ _ (execs _ _) _ _ _); k_fold) | (k_end; wrow_close) | walk1 | (dsimp only; walk1) | (leave1; (try dsimp only))))) <;> (repeat (k_unfold; (try dsimp only))))
    rename Fr _ _ _ _ => F14
    rename News _ _ _ _ => N14
    refine LCg.CompEnd.intro F14 N14 _ (fun q hq => hq) o3' (.inr ⟨_, .head _, rfl, _, rfl⟩) ⟨?_, rfl⟩
    rw [List.take_add_one, hxx]
    show IntsAre _ (List.map _ (_ ++ [x]))
    rw [List.map_append, show x.fmod 5 = (((x % 5).toNat : Nat) : Int) from by rw [Int.fmod_eq_emod_of_nonneg _ (by decide)]; omega]
    exact hys.append (.cons _ _ .nil)
  · rintro ys news ⟨hys, rfl⟩ Dc h8 tk8 F11 N11 oD
    subst hNW
    rw [List.size_toArray, hdl, List.take_length] at hys
    clear F2 N2
    try clear F1 N1
    (try dsimp only); (try k_fold)
    ((repeat' ((fail_if_success (with_reducible show wpAny _ _ (binaryOp Operator.Add (Value.ref _) (Value.ref _)) _ _ _)); (first | (k_unfold; (try dsimp only)) | ((with_reducible first | show wpAny _ _ (exec _ _) _ _ _ | show wpAny _ _ (execs _ _) _ _ _); k_fold) | (k_end; wrow_close) | walk1 | (dsimp only; walk1) | (leave1; (try dsimp only))))) <;> (repeat (k_unfold; (try dsimp only))))
    rename Fr _ _ _ _ => F3
    rename News _ _ _ _ => N3
    have hyl : ys.length ≤ 3 := by rw [hys.length, List.length_map]; exact hl3
    refine add_new (vs := [Value.int 5 s.toks, Value.int 2 (s.toks + 1)]) (us := ys) F3 N3 (l := G) (b := Dc) (k1 := 0) (by k_mem) (.head _) (by show 2 + _ ≤ _; omega) (fun Dr h4 F4 N4 ne4 => ?_)
    clear F3 N3
    try clear F11 N11
    (try dsimp only)
    ((repeat' ((fail_if_success (with_reducible show wpAny _ _ (call (Value.builtin "sum") _) _ _ _)); (first | (k_unfold; (try dsimp only)) | ((with_reducible first | show wpAny _ _ (exec _ _) _ _ _ | show wpAny _ _ (execs _ _) _ _ _); k_fold) | (k_end; wrow_close) | walk1 | (dsimp only; walk1) | (leave1; (try dsimp only))))) <;> (repeat (k_unfold; (try dsimp only))))
    rename (IntsAre _ (List.take (_ - _) _)) => hsv
    rename List Value => sv
    rename Fr _ _ _ _ => F5
    rename News _ _ _ _ => N5
    obtain ⟨rv, hrv⟩ : ∃ rv, rv = [Value.int 5 s.toks, Value.int 2 (s.toks + 1)] ++ ys := ⟨_, rfl⟩
    rw [← hrv] at N5
    obtain ⟨rs, hrs⟩ : ∃ rs, rs = rsOf ns := ⟨_, rfl⟩
    have hrv2 : IntsAre rv (rs.map fun q : Nat => (q : Int)) := by
      rw [hrv, hrs]
      unfold rsOf
      rw [List.map_append, List.map_map]
      exact .cons _ _ (.cons _ _ hys)
    have R : Rk rs := hrs ▸ rk_of ns
    have hDr1 : Dr ≠ L + 1 := (ne4 (L + 1, c1) (by k_mem)).symm
    have hDrW : ∀ q ∈ W, q.1 ≠ Dr := fun q hq => ne4 q (mem_skip [(Dc, _), (Ds, _), (G, _), (L + 1, _)] hq)
    refine LSm.sum_ints F5 N5 rfl (News.isList N5 (.head _)) hsv (fun h6 tk6 t6 F6 N6 => ?_)
    obtain ⟨bg, hbg⟩ : ∃ bg, bg = (List.take (min 10 ns.length - 3) (List.drop 3 ns)).sum := ⟨_, rfl⟩
    rw [← hbg]
    clear F5 N5
    try clear F4 N4
    have N7 := cb_drop (news := (Dr, listOf rv.toArray 0) :: (L + 1, c1) :: W) N6 (fun q hq => by
      rcases List.mem_cons.mp hq with rfl | hq
      · exact .tail _ (.head _)
      · exact mem_skip [(_, _), (Dr, _), (Dc, _), (Ds, _), (G, _)] hq)
    clear N6
    (try dsimp only)
    ((repeat' ((fail_if_success (with_reducible show wpAny _ _ (eval (Expr.ListComp _ _ _ _) _) _ _ _)); (first | (k_unfold; (try dsimp only)) | ((with_reducible first | show wpAny _ _ (exec _ _) _ _ _ | show wpAny _ _ (execs _ _) _ _ _); k_fold) | (k_end; wrow_close) | walk1 | (dsimp only; walk1) | (leave1; (try dsimp only))))) <;> (repeat (k_unfold; (try dsimp only))))
    rename Obj => o1
    rename (Obj.data o1 = Data.cell _) => e1
    rename Fr _ _ _ _ => F8
    rename News _ _ _ _ => N8
    have hrl : rv.length = rs.length := by rw [hrv2.length, List.length_map]
    have hRl := R.len
    refine LCg.ListComp_U (F₀ := F8) (by with_unfolding_all rfl) (by decide) (by rfl) (by decide) (by rfl) ?_
    ((repeat' ((fail_if_success (with_reducible show LCg.CompSrc _ _ _ _ _ _ _ _ _ _ _ _ _ _)); (first | (k_unfold; (try dsimp only)) | ((with_reducible first | show wpAny _ _ (exec _ _) _ _ _ | show wpAny _ _ (execs _ _) _ _ _); k_fold) | (k_end; wrow_close) | walk1 | (dsimp only; walk1) | (leave1; (try dsimp only))))) <;> (repeat (k_unfold; (try dsimp only))))
    rename Fr _ _ _ _ => F9
    rename News _ _ _ _ => N9
    refine LCg.CompSrc.ledger (k := 0) (its := rv.toArray) rfl F9 N9 (.head _) (by rw [List.size_toArray, sizeLine_eq]; omega) (fun g' => ?_)
    obtain ⟨NW, hNW⟩ : ∃ NW, NW = (Dr, listOf rv.toArray 0) :: (L + 1, o1) :: W := ⟨_, rfl⟩
    refine rest_of rv.toArray.size (fun i ys news => StrsAre ys ((rs.take i).map blank) ∧ news = NW) ?_ ?_ _ 0 [] _ (Nat.zero_add _) ⟨.nil, hNW.symm⟩
    · rintro i ys news v I oI C oC D m₂ h8 tk8 E' hi2 ⟨hys, rfl⟩ hv hns hx F11 N11 o3' ne
      obtain ⟨tx', x, hxx, rfl⟩ := ints_at1 hrv2 (by simpa using hv)
      rw [List.getElem?_map] at hxx
      obtain ⟨q, hq, rfl⟩ := Option.map_eq_some_iff.mp hxx
      have hqb := R.r5 q (List.mem_of_getElem? hq)
      subst hNW
      clear F9 N9
      try clear F8 N8
      (try dsimp only); (try k_fold)
      ((repeat' ((fail_if_success (with_reducible show LCg.CompEnd _ _ _ _ _ _ _ _ _ _ _ _ _ _)); (first | (k_unfold; (try dsimp only)) | ((with_reducible first | show wpAny _ _ (exec _ _) _ _ _ | show wpAny _ _ (execs _ _) _ _ _); k_fold) | (k_end; wrow_close) | walk1 | (dsimp only; walk1) | (leave1; (try dsimp only))))) <;> (repeat (k_unfold; (try dsimp only))))
      rename Fr _ _ _ _ => F14
      rename News _ _ _ _ => N14
      refine LCg.CompEnd.intro F14 N14 _ (fun q hq => hq) o3' (.inr ⟨_, .head _, rfl, _, rfl⟩) ⟨?_, rfl⟩
      rw [List.take_add_one, hq, lit_s, Tx_mul1]
      show StrsAre _ (List.map _ (_ ++ [q]))
      rw [List.map_append]
      exact kct_snoc hys
    · rintro ys2 news ⟨hys2, rfl⟩ Dw h8 tk8 F11 N11 oD
      subst hNW
      rw [List.size_toArray, hrl, List.take_length] at hys2
      clear F9 N9
      try clear F8 N8
      (try dsimp only); (try k_fold)
      ((repeat' ((fail_if_success (with_reducible show wpAny _ _ (call (Value.builtin "str.join") _) _ _ _)); (first | (k_unfold; (try dsimp only)) | ((with_reducible first | show wpAny _ _ (exec _ _) _ _ _ | show wpAny _ _ (execs _ _) _ _ _); k_fold) | (k_end; wrow_close) | walk1 | (dsimp only; walk1) | (leave1; (try dsimp only))))) <;> (repeat (k_unfold; (try dsimp only))))
      rename Fr _ _ _ _ => F12
      rename News _ _ _ _ => N12
      have hRs := R.sum
      refine join_wlT (rs := rs) (News.isList N12 (.head _)) hys2 (by omega) ?_
      intro t12 tk12
      have N13 := cb_drop N12 (fun q hq => List.Mem.tail _ hq)
      clear N12
      (try dsimp only)
      have hwl := wl_len rs
      have hws := wl_ws rs
      obtain ⟨wl, hwle⟩ : ∃ wl, wl = wlOf rs := ⟨_, rfl⟩
      rw [← hwle] at hwl hws ⊢
      ((repeat' ((fail_if_success (with_reducible show wpAny _ _ (binaryOp Operator.Add (Value.str _ _) _) _ _ _)); (fail_if_success (with_reducible show wpAny _ _ (eval (Expr.ListComp _ _ _ _) _) _ _ _)); (first | (k_unfold; (try dsimp only)) | ((with_reducible first | show wpAny _ _ (exec _ _) _ _ _ | show wpAny _ _ (execs _ _) _ _ _); k_fold) | (k_end; wrow_close) | walk1 | (dsimp only; walk1) | (leave1; (try dsimp only))))) <;> (repeat (k_unfold; (try dsimp only))))
      · refine add_T2 lit_q rfl (by simp only [List.length_cons, List.length_nil]; omega) ?_
        intro t14 k14
        (try dsimp only)
        ((repeat' ((fail_if_success (with_reducible show wpAny _ _ (binaryOp Operator.Add (Value.str _ _) (Value.str _ _)) _ _ _)); (first | (k_unfold; (try dsimp only)) | ((with_reducible first | show wpAny _ _ (exec _ _) _ _ _ | show wpAny _ _ (execs _ _) _ _ _); k_fold) | (k_end; wrow_close) | walk1 | (dsimp only; walk1) | (leave1; (try dsimp only))))) <;> (repeat (k_unfold; (try dsimp only))))
        refine add_T2 rfl lit_qe (by rw [List.length_append]; simp only [List.length_cons, List.length_nil]; omega) ?_
        intro t15 k15
        (try dsimp only)
        ((repeat' ((fail_if_success (with_reducible show wpAny _ _ (execs (Stmt.Assign [Expr.Name (Str.ofString "machine") _] _ _ :: _) _) _ _ _)); (first | (k_unfold; (try dsimp only)) | ((with_reducible first | show wpAny _ _ (exec _ _) _ _ _ | show wpAny _ _ (execs _ _) _ _ _); k_fold) | (k_end; wrow_close) | walk1 | (dsimp only; walk1) | (leave1; (try dsimp only))))) <;> (repeat (k_unfold; (try dsimp only))))
        rename Fr _ _ _ _ => F16
        rename News _ _ _ _ => N16
        have F17 : Fr h₀ L _ (wl2 (some (.ref sc)) (some (.ref Dr)) (some (.str (Tx wl) t12)) (some (.str (Tx (txt2 wl true)) t15)) none none none none none) := Fr.congr F16 (by (intro y; unfold wl2; (rcases Classical.em (y = "script") with rfl | h0); exact rfl; (rcases Classical.em (y = "runs") with rfl | h1); exact rfl; (rcases Classical.em (y = "written") with rfl | h2); exact rfl; (rcases Classical.em (y = "text") with rfl | h3); exact rfl; (rcases Classical.em (y = "word") with rfl | h4); exact rfl; (rcases Classical.em (y = "primes") with rfl | h5); exact rfl; (rcases Classical.em (y = "games") with rfl | h6); exact rfl; (rcases Classical.em (y = "below") with rfl | h7); exact rfl; (rcases Classical.em (y = "told") with rfl | h8); exact rfl; (try simp only [if_neg h0, if_neg h1, if_neg h2, if_neg h3, if_neg h4, if_neg h5, if_neg h6, if_neg h7, if_neg h8]); (first | done | exact rfl | (show List.lookup y (_ :: _) = none; simp only [List.lookup, beq_eq_false_iff_ne.mpr h0, beq_eq_false_iff_ne.mpr h1, beq_eq_false_iff_ne.mpr h2, beq_eq_false_iff_ne.mpr h3, beq_eq_false_iff_ne.mpr h4, beq_eq_false_iff_ne.mpr h5, beq_eq_false_iff_ne.mpr h6, beq_eq_false_iff_ne.mpr h7, beq_eq_false_iff_ne.mpr h8]) | (simp only [List.lookup, beq_eq_false_iff_ne.mpr h0, beq_eq_false_iff_ne.mpr h1, beq_eq_false_iff_ne.mpr h2, beq_eq_false_iff_ne.mpr h3, beq_eq_false_iff_ne.mpr h4, beq_eq_false_iff_ne.mpr h5, beq_eq_false_iff_ne.mpr h6, beq_eq_false_iff_ne.mpr h7, beq_eq_false_iff_ne.mpr h8]; done))))
        subst hwle hW
        exact stB2 (s := { s with heap := _, toks := _ }) (q := true) (by exact rfl) B X T hsc hi hl R hrv2 e1 k2 k3 k4 k5 k6 F17 N16 hDrW hDr1 hL hd' hu hQ
      · rename Fr _ _ _ _ => F14
        rename News _ _ _ _ => N14
        refine ListComp_str (F₀ := F14) (by with_unfolding_all rfl) (by decide) (by rfl) (by decide) (by rfl) ?_
        ((repeat' ((fail_if_success (with_reducible show StrSrc _ _ _ _ _ _ _ _ _ _ _ _ _ _)); (first | (k_unfold; (try dsimp only)) | ((with_reducible first | show wpAny _ _ (exec _ _) _ _ _ | show wpAny _ _ (execs _ _) _ _ _); k_fold) | (k_end; wrow_close) | walk1 | (dsimp only; walk1) | (leave1; (try dsimp only))))) <;> (repeat (k_unfold; (try dsimp only))))
        rename Fr _ _ _ _ => F15
        rename News _ _ _ _ => N15
        obtain ⟨NW, hNW⟩ : ∃ NW, NW = (Dr, listOf rv.toArray 0) :: (L + 1, o1) :: W := ⟨_, rfl⟩
        refine ⟨Tx wl, _, NW, rfl, ?_, rfl, F15, by rw [hNW]; exact N15, ?_, fun g' => ?_⟩
        · show (List.toArray wl).all _ = true
          simp only [List.all_toArray, List.all_eq_true, decide_eq_true_eq]
          intro c hc
          have := hws c hc
          omega
        · rw [show (Tx wl).cps.size = wl.length from Tx_len wl, sizeLine_eq]; omega
        refine rest_of (Tx wl).cps.size (fun i ys news => StrsAre ys ((wl.take i).map fun c => Tx [92, c]) ∧ news = NW) ?_ ?_ _ 0 [] _ (Nat.zero_add _) ⟨.nil, rfl⟩
        · rintro i ys news v I oI C oC D m₂ h8 tk8 E' hi2 ⟨hys, rfl⟩ ⟨c, u, hc, rfl⟩ hns hx F11 N11 o3' ne
          subst hNW
          clear F15 N15
          try clear F14 N14
          (try dsimp only); (try k_fold)
          ((repeat' ((fail_if_success (with_reducible show wpAny _ _ (binaryOp Operator.Add (Value.str _ _) (Value.str _ _)) _ _ _)); (first | (k_unfold; (try dsimp only)) | ((with_reducible first | show wpAny _ _ (exec _ _) _ _ _ | show wpAny _ _ (execs _ _) _ _ _); k_fold) | (k_end; wrow_close) | walk1 | (dsimp only; walk1) | (leave1; (try dsimp only))))) <;> (repeat (k_unfold; (try dsimp only))))
          refine add_T2 (b := [c]) lit_bs rfl (by simp only [List.length_cons, List.length_nil]; omega) ?_
          intro t16 k16
          (try dsimp only)
          ((repeat' ((fail_if_success (with_reducible show LCg.CompEnd _ _ _ _ _ _ _ _ _ _ _ _ _ _)); (first | (k_unfold; (try dsimp only)) | ((with_reducible first | show wpAny _ _ (exec _ _) _ _ _ | show wpAny _ _ (execs _ _) _ _ _); k_fold) | (k_end; wrow_close) | walk1 | (dsimp only; walk1) | (leave1; (try dsimp only))))) <;> (repeat (k_unfold; (try dsimp only))))
          rename Fr _ _ _ _ => F17
          rename News _ _ _ _ => N17
          refine LCg.CompEnd.intro F17 N17 _ (fun q hq => hq) o3' trivial ⟨?_, rfl⟩
          have hc2 : wl[i]? = some c := by rw [← hc]; simp [Tx]
          rw [List.take_add_one, hc2]
          show StrsAre _ (List.map _ (_ ++ [c]))
          rw [List.map_append]
          exact kct_snoc hys
        · rintro ys3 news ⟨hys3, rfl⟩ Dv h8 tk8 F11 N11 oD
          subst hNW
          rw [show (Tx wl).cps.size = wl.length from Tx_len wl, List.take_length] at hys3
          clear F15 N15
          try clear F14 N14
          (try dsimp only); (try k_fold)
          ((repeat' ((fail_if_success (with_reducible show wpAny _ _ (call (Value.builtin "str.join") _) _ _ _)); (first | (k_unfold; (try dsimp only)) | ((with_reducible first | show wpAny _ _ (exec _ _) _ _ _ | show wpAny _ _ (execs _ _) _ _ _); k_fold) | (k_end; wrow_close) | walk1 | (dsimp only; walk1) | (leave1; (try dsimp only))))) <;> (repeat (k_unfold; (try dsimp only))))
          rename Fr _ _ _ _ => F16
          rename News _ _ _ _ => N16
          have hfl : ((wl.map fun c => [92, c]).flatten).length ≤ 2 * wl.length := by
            have h := flat_le (b := 2) (wl.map fun c => [92, c]) (fun x hx => by obtain ⟨c, _, rfl⟩ := List.mem_map.mp hx; exact Nat.le_refl 2)
            rwa [List.length_map] at h
          refine join_T (xs := wl.map fun c => [92, c]) (News.isList N16 (.head _)) hys3 (by rw [List.map_map]; rfl) (by rw [List.length_map]; omega) ?_
          intro t17 k17
          have N17 := cb_drop N16 (fun q hq => List.Mem.tail _ hq)
          clear N16
          (try dsimp only)
          ((repeat' ((fail_if_success (with_reducible show wpAny _ _ (binaryOp Operator.Add (Value.str _ _) (Value.str _ _)) _ _ _)); (first | (k_unfold; (try dsimp only)) | ((with_reducible first | show wpAny _ _ (exec _ _) _ _ _ | show wpAny _ _ (execs _ _) _ _ _); k_fold) | (k_end; wrow_close) | walk1 | (dsimp only; walk1) | (leave1; (try dsimp only))))) <;> (repeat (k_unfold; (try dsimp only))))
          refine add_T2 rfl lit_ne (by simp only [List.length_cons, List.length_nil]; omega) ?_
          intro t18 k18
          (try dsimp only)
          ((repeat' ((fail_if_success (with_reducible show wpAny _ _ (execs (Stmt.Assign [Expr.Name (Str.ofString "machine") _] _ _ :: _) _) _ _ _)); (first | (k_unfold; (try dsimp only)) | ((with_reducible first | show wpAny _ _ (exec _ _) _ _ _ | show wpAny _ _ (execs _ _) _ _ _); k_fold) | (k_end; wrow_close) | walk1 | (dsimp only; walk1) | (leave1; (try dsimp only))))) <;> (repeat (k_unfold; (try dsimp only))))
          rename Fr _ _ _ _ => F18
          rename News _ _ _ _ => N18
          have F19 : Fr h₀ L _ (wl2 (some (.ref sc)) (some (.ref Dr)) (some (.str (Tx wl) t12)) (some (.str (Tx (txt2 wl false)) t18)) none none none none none) := Fr.congr F18 (by (intro y; unfold wl2; (rcases Classical.em (y = "script") with rfl | h0); exact rfl; (rcases Classical.em (y = "runs") with rfl | h1); exact rfl; (rcases Classical.em (y = "written") with rfl | h2); exact rfl; (rcases Classical.em (y = "text") with rfl | h3); exact rfl; (rcases Classical.em (y = "word") with rfl | h4); exact rfl; (rcases Classical.em (y = "primes") with rfl | h5); exact rfl; (rcases Classical.em (y = "games") with rfl | h6); exact rfl; (rcases Classical.em (y = "below") with rfl | h7); exact rfl; (rcases Classical.em (y = "told") with rfl | h8); exact rfl; (try simp only [if_neg h0, if_neg h1, if_neg h2, if_neg h3, if_neg h4, if_neg h5, if_neg h6, if_neg h7, if_neg h8]); (first | done | exact rfl | (show List.lookup y (_ :: _) = none; simp only [List.lookup, beq_eq_false_iff_ne.mpr h0, beq_eq_false_iff_ne.mpr h1, beq_eq_false_iff_ne.mpr h2, beq_eq_false_iff_ne.mpr h3, beq_eq_false_iff_ne.mpr h4, beq_eq_false_iff_ne.mpr h5, beq_eq_false_iff_ne.mpr h6, beq_eq_false_iff_ne.mpr h7, beq_eq_false_iff_ne.mpr h8]) | (simp only [List.lookup, beq_eq_false_iff_ne.mpr h0, beq_eq_false_iff_ne.mpr h1, beq_eq_false_iff_ne.mpr h2, beq_eq_false_iff_ne.mpr h3, beq_eq_false_iff_ne.mpr h4, beq_eq_false_iff_ne.mpr h5, beq_eq_false_iff_ne.mpr h6, beq_eq_false_iff_ne.mpr h7, beq_eq_false_iff_ne.mpr h8]; done))))
          subst hwle hW
          exact stB2 (s := { s with heap := _, toks := _ }) (q := false) (by exact rfl) B X T hsc hi hl R hrv2 e1 k2 k3 k4 k5 k6 F19 N18 hDrW hDr1 hL hd' hu hQ
end
theorem fr_script {h₀ h : Heap} {L sc : Addr} (F : Fr h₀ L h (fun y => if y = "script" then some (.ref sc) else none)) : Fr h₀ L h (wl2 (some (.ref sc)) none none none none none none none none) :=
  Fr.congr F (by (intro y; unfold wl2; (rcases Classical.em (y = "script") with rfl | h0); exact rfl; (rcases Classical.em (y = "runs") with rfl | h1); exact rfl; (rcases Classical.em (y = "written") with rfl | h2); exact rfl; (rcases Classical.em (y = "text") with rfl | h3); exact rfl; (rcases Classical.em (y = "word") with rfl | h4); exact rfl; (rcases Classical.em (y = "primes") with rfl | h5); exact rfl; (rcases Classical.em (y = "games") with rfl | h6); exact rfl; (rcases Classical.em (y = "below") with rfl | h7); exact rfl; (rcases Classical.em (y = "told") with rfl | h8); exact rfl; (try simp only [if_neg h0, if_neg h1, if_neg h2, if_neg h3, if_neg h4, if_neg h5, if_neg h6, if_neg h7, if_neg h8]); (first | done | exact rfl | (show List.lookup y (_ :: _) = none; simp only [List.lookup, beq_eq_false_iff_ne.mpr h0, beq_eq_false_iff_ne.mpr h1, beq_eq_false_iff_ne.mpr h2, beq_eq_false_iff_ne.mpr h3, beq_eq_false_iff_ne.mpr h4, beq_eq_false_iff_ne.mpr h5, beq_eq_false_iff_ne.mpr h6, beq_eq_false_iff_ne.mpr h7, beq_eq_false_iff_ne.mpr h8]) | (simp only [List.lookup, beq_eq_false_iff_ne.mpr h0, beq_eq_false_iff_ne.mpr h1, beq_eq_false_iff_ne.mpr h2, beq_eq_false_iff_ne.mpr h3, beq_eq_false_iff_ne.mpr h4, beq_eq_false_iff_ne.mpr h5, beq_eq_false_iff_ne.mpr h6, beq_eq_false_iff_ne.mpr h7, beq_eq_false_iff_ne.mpr h8]; done))))
theorem fin : PySem.Challenge.rw_pe0259_02.Holds := by
  refine holds_law well fun said => ?_
  refine holds_open (q := view) (loose := [PySem.Str.ofString "Whitespace"]) (Xt := Xs) (XP := XL view []) (Yf := hk.obs) (Ya := hk.val) (YP := Hook.says (kmHook hd.heap_1 ads adsE [173, 44, 37])) (N := 2712) left (Hook.of hk) (Hook.keeps hk) (fun s e => xl_of s (Bool.and_eq_true_iff.mp e).1) XL.keeps (by rfl) (by rfl) (by rfl) (fun s e => recFacts_of (Bool.and_eq_true_iff.mp e).2) (by rfl) said (by decide +kernel) ⟨rfl, rfl, rfl, rfl, rfl, by decide +kernel⟩ ?hw ?hc
  (case hw => w_witness2)
  clear said
  k_go0
  rename Fr _ _ _ _ => F
  rename News _ _ _ _ => N
  rename Below _ _ _ _ => B
  rename Top topProg _ _ _ _ _ => T
  rename (Heap.IsList _ _ _) => hsc
  rename IntsAre _ _ => hi
  rename (173 < _ ∧ _) => l0
  refine stA2 (by exact rfl) B (by assumption) T hsc hi (by omega) (by assumption) (by assumption) (by assumption) (by assumption) (by assumption) (by assumption) (fr_script F) N l0.1 ?_ ?_ ?_
  · exact Nat.lt_of_le_of_lt (Nat.le_refl _) (by decide)
  · exact Nat.lt_of_le_of_lt (Nat.le_refl _) (by decide)
  · intro m' h' tk' p1 p2 p3 F' N'
    clear F N
    (try dsimp only)
    refine ⟨?_, ?_⟩
    · wrow_close
    · repeat' (first | exact True.intro | (refine And.intro (GrownAt.of (by k_asm) (by k_mem)) ?_))
end Mine
theorem PySem.Challenge.cw_pe0259_02_holds : PySem.Challenge.rw_pe0259_02.Holds :=
  Mine.fin
