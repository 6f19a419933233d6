import PyProof.Rows.All
import Wide.All
import OpenK.AllK
import Wide.FinOn
import Lean
import PySem.Challenge.RW_mq0338_01
set_option Elab.async false
set_option compiler.extract_closed false

section
open PySem PySem.W PyProof.Rows
set_option maxRecDepth 100000
namespace Mine
theorem last_running {den : Code → Sem Fin} {p : Program} {w : World} {o : Outcome} {s' : Shared} : ∀ (n : Nat) (s : Shared) (t : Thread), runN den p w n s t = .halted o s' →
    ∃ m s₁ t₁, runN den p w m s t = .running s₁ t₁ ∧ step den p w s₁ t₁ = .halt o s'
  | 0, s, t, h => by cases h
  | n + 1, s, t, h => by
    simp only [runN] at h
    cases hs : step den p w s t with
    | halt o₂ s₂ =>
      rw [hs] at h
      exact ⟨0, s, t, rfl, by rw [hs]; injection h with h1 h2; rw [h1, h2]⟩
    | go s₂ t₂ =>
      rw [hs] at h
      obtain ⟨m, s₁, t₁, h1, h2⟩ := last_running n s₂ t₂ h
      exact ⟨m + 1, s₁, t₁, by simp only [runN, hs]; exact h1, h2⟩

theorem through_of_halt {den : Code → Sem Fin} {p : Program} {w : World} {f : Flow} {s s' : Shared} {t : Thread} (h : step den p w s t = .halt (.done f) s') : through t = true := by
  obtain ⟨heap, gens, drawn, toks, os⟩ := s
  obtain ⟨cur, code, pos, stack⟩ := t
  cases cur with
  | pure fin =>
    cases fin with
    | done g =>
      cases stack with
      | nil => rfl
      | cons F st => cases F <;> simp [step] at h
    | again c => simp [step] at h
  | _ => simp only [step, finish] at h <;> (repeat' split at h) <;> simp_all

theorem top_reach {p : Program} {w : World} {s₀ : Shared} {P : Shared → Prop} (hz : s₀.asleep)
    (h : wpAny (model p w) callerA (topStub p).cur (fun fin s' => ∃ f, fin = .done f ∧ P s' ∧ s'.gens = #[]) (fun _ _ => False) s₀) :
    ∃ s₁, (∃ n t, schedN (denote table) p w n (.single s₀ (topStub p)) = .running (.single s₁ t) ∧ through t = true) ∧ s₁.heap.life = s₀.heap.life ∧ P s₁ ∧ s₁.gens = #[] := by
  have h1 := wp_of_wpAny_done (R := fun r s' => ((∃ f, r = .ok f) ∧ P s' ∧ s'.gens = #[]) ∧ leftWithCleanup s'.gens = false) caller_in
    (wpAny_mono h (fun fin s' ⟨f, e, hP, hg⟩ => ⟨f, e, ⟨⟨f, rfl⟩, hP, hg⟩, by rw [hg]; simp [leftWithCleanup]⟩) fun _ _ x => x.elim) default
  obtain ⟨n, r, s', hn, ⟨f, rfl⟩, hP, hg⟩ := (wp_iff_halts (M := model p w) (c := .builtin "claim.caller" {}) _ (fun r s' => (∃ f, r = .ok f) ∧ P s' ∧ s'.gens = #[]) default s₀).mp h1
  obtain ⟨s'', hr, hf, hc⟩ := runNI_real (denote table) p w hn rfl
  obtain rfl := Shared.eq_of_forget_eq hf hg
  have hne : ∀ k s₂, runN (denote table) p w k s₀ (topStub p) ≠ .halted (.unsupported "lifetime:generator-with-cleanup-left-suspended") s₂ := by
    intro k s₂ hk
    have a := runN_mono (denote table) p w n k _ _ _ _ hr
    have b := runN_mono (denote table) p w k n _ _ _ s₂ hk
    rw [Nat.add_comm] at b
    have a' : runN (denote table) p w (n + k) s₀ (topStub p) = _ := a
    rw [b] at a'
    injection a' with a1 _
    cases a1
  obtain ⟨m, s₁, t₁, hm, hs⟩ := last_running n _ _ hr
  have e := step_halt_same (denote table) p w _ _ _ _ hs
  subst e
  have ht := through_of_halt hs
  have hsch := schedN_eq_runN (denote table) p w s₀ (topStub p) hz ⟨hc, hne⟩ m
  have hm' : runN (denote table) p w m s₀ (topStub p) = .running s'' t₁ := hm
  refine ⟨s'', ⟨m, t₁, ?_, ht⟩, runN_life (denote table) p w hr, hP, hg⟩
  rw [hsch, hm']
  rfl
end Mine
end

section
open PySem PySem.W PyProof.Rows
set_option maxRecDepth 100000
namespace Mine
structure Booted (s : Shared) (mb mg : Str → Option Value) : Prop where
  b : s.heap.Ns builtinsNs mb
  builtins : ∀ x : Str, x ≠ "__name__" → mb x = bootBuiltins x
  statics : s.heap.Ns cStatics (fun _ => none)
  g : s.heap.Ns mainGlobals mg
  others : ∀ x, x ∉ bootMainNames → mg x = none
  bmod : ∃ bm o, mg "__builtins__" = some (.ref bm) ∧ bm ≠ builtinsNs ∧ bm ≠ mainGlobals ∧ s.heap.get? bm = some o ∧ o.cls = .type "module" ∧ o.dict = some builtinsNs ∧ o.data = .plain
  noPylong : ∃ mm, s.heap.Ns sysModules mm ∧ mm "_pylong" = none
  gens : s.gens = #[]

theorem boot_empty {p : Program} {w : World} (hb : p.main.body = []) (hmore : p.main.more = []) :
    (∃ s, AfterImport p w s) ∧ ∀ s, AfterImport p w s → ∃ mb mg, Booted s mb mg := by
  refine AfterImport.of_body (P := fun s => ∃ mb mg, Booted s mb mg) (out := #[]) (fun h tk mb mg c Pl F hB => ?_) hmore
  rw [hb]
  refine codeAny_body rfl rfl (wpAny_mono (E := fun _ _ => False) (wpAny_execs_nil ?_) (fun _ _ x => x) fun _ _ x => x.elim)
  refine ⟨⟨_, rfl⟩, .of hB (fun _ _ _ _ e => e) hB.g, ⟨mb, mg, ⟨hB.b, hB.builtins, hB.statics, hB.g, hB.others, ?_, hB.noPylong, rfl⟩⟩, rfl⟩
  obtain ⟨bm, o, h1, h2, h3, h4, h5⟩ := hB.bmod
  exact ⟨bm, o, h1, h2, h3, h5⟩

theorem Pin0 {h : Heap} {m : Str → Option Value} (x : h.Ns mainGlobals m) (n : Str) : globalOf h n = m n := by
  obtain ⟨o, es, ep, ho, hd, _, hf⟩ := x
  unfold globalOf
  rw [show h.get? mainNs = some o from ho]
  dsimp only
  rw [hd]
  exact hf n

structure TopEnd (p : Program) (s₀ : Shared) (mg : Str → Option Value) (s' : Shared) (mg' : Str → Option Value) : Prop where
  os : s'.os = s₀.os
  kept : ∀ b o, b ≠ mainGlobals → s₀.heap.get? b = some o → s'.heap.get? b = some o
  g : s'.heap.Ns mainGlobals mg'
  names : ∀ x, x ∉ bootMainNames → x ∉ p.boundNames → mg' x = none
  laid : ∀ x ∈ laidNames, mg' x = mg x
  bname : mg' "__builtins__" = mg "__builtins__"

theorem topRan_of {p : Program} {w : World} {s₀ : Shared} {mb mg : Str → Option Value} {P : Shared → Prop} (hz : s₀.asleep) (B : Booted s₀ mb mg)
    (h : wpAny (model p w) callerA (topStub p).cur (fun fin s' => ∃ f, fin = .done f ∧ ((∃ mg', TopEnd p s₀ mg s' mg') ∧ P s') ∧ s'.gens = #[]) (fun _ _ => False) s₀) :
    ∃ s₁, TopRan p w s₀ s₁ ∧ s₁.asleep ∧ s₁.gens = #[] ∧ P s₁ := by
  obtain ⟨s₁, run, life, ⟨⟨mg', T⟩, hP⟩, hg⟩ := top_reach hz h
  obtain ⟨bm, o, b1, b2, b3, b4, b5, b6, b7⟩ := B.bmod
  have hst : s₁.heap.Ns cStatics (fun _ => none) := B.statics.at fun o => T.kept _ o (by decide)
  have st : ∀ k, staticOf s₁.heap k = none := fun k => by
    obtain ⟨o, es, ep, ho, hd, _, hf⟩ := hst
    simp only [staticOf, ho, hd]
    exact hf k
  have st0 : ∀ k, staticOf s₀.heap k = none := fun k => by
    obtain ⟨o, es, ep, ho, hd, _, hf⟩ := B.statics
    simp only [staticOf, ho, hd]
    exact hf k
  have gl : ∀ x, globalOf s₁.heap x = mg' x := fun x => Pin0 T.g x
  have gl0 : ∀ x, globalOf s₀.heap x = mg x := fun x => Pin0 B.g x
  have hbn : s₁.heap.Ns builtinsNs mb := B.b.at fun o => T.kept _ o (by decide)
  refine ⟨s₁, ⟨run, life, Shared.rest_eq T.os, fun b o hb hn => T.kept b o (fun e => hn (.inl e)) hb, ?_, ?_, ?_, ?_, ?_, ?_, ?_, ?_⟩, Shared.asleep_of_life life hz, hg, hP⟩
  · exact fun key v hv => by rw [st] at hv; cases hv
  · exact fun key => .inl (by rw [st, st0])
  · obtain ⟨o, es, ep, ho, hd, hk, _⟩ := T.g
    exact ⟨o, es, ep, ho, hd, hk⟩
  · intro x hx
    obtain ⟨o, es, ep, ho, hd, _, hf⟩ := hbn
    simp only [builtinOf, ho, hd]
    exact (hf x).trans (B.builtins x hx)
  · exact ⟨bm, o, (gl _).trans (T.bname.trans b1), T.kept bm o b3 b4, b5, b6⟩
  · rw [hg]
    intro g hg'
    simp at hg'
  · intro x v hv
    rw [gl] at hv
    by_cases h1 : x ∈ bootMainNames
    · exact .inl h1
    · by_cases h2 : x ∈ p.boundNames
      · exact .inr h2
      · rw [T.names x h1 h2] at hv; cases hv
  · exact fun x hx => by rw [gl, gl0]; exact T.laid x hx
end Mine
end

section
open PySem PySem.W PyProof.Rows
set_option maxRecDepth 100000
namespace Mine
abbrev P0 : Program := PySem.Challenge.pw_mq0338_01
abbrev R0 : RowW := PySem.Challenge.rw_mq0338_01.row.toRowW
open PySem.Challenge

def callTree (vs : List Value) : Sem Fin := do match ← nsGet mainNs R0.name with
      | some f => do ret (← PySem.call f vs)
      | none => unsupported "claim.caller:no-such-global"

theorem opening_body : (opening P0).main.body = [] := rfl
theorem fence_same (s : Shared) : fenceModules? P0 s = some s := by kernel_rfl

abbrev CallOk (PH : World → Heap → Prop) : Prop := ∀ (w : World) (s₁ : Shared) (a : Addr) (vs : List Value) (ns : List Int), PH w s₁.heap → s₁.gens = #[] → s₁.heap.IsList a vs.toArray → IntsAre vs ns → ns.length ≤ 63 →
      wpAny (model P0 w) callerA (callTree [.ref a]) (fun fin s' => fin = .done (.ret (.bool true)) ∧ (∀ b o, s₁.heap.get? b = some o → s'.heap.get? b = some o) ∧ s'.os = s₁.os ∧ s'.gens = #[]) (fun _ _ => False) s₁

theorem post_true (args : List WData) : R0.claim.post args (.bool true) args = true := by kernel_rfl

theorem call_good {PH : World → Heap → Prop} (call : CallOk PH) (w : World) (s s₁ : Shared) (hP : PH w s₁.heap) (hg : s₁.gens = #[]) (args : List WData) (vals : List Value) (as : List Addr)
    (hpre : R0.claim.pre args = true) (hlay : WData.layableAll args = true) (hrd : ReadsAllW R0.records (classAt s.heap) s₁.heap vals args as) (hwl : WellAll w.params s₁.heap vals args) (hlo : ∀ a ∈ as, (a == sysModules) = false) :
    wpAny (model P0 w) callerA (callTree vals) (fun fin s' => ∃ f, fin = .done f ∧ GoodW R0.claim (classAt s.heap) (ExcName.means s.heap) args s₁ (.ok f) s') (fun e s' => GoodW R0.claim (classAt s.heap) (ExcName.means s.heap) args s₁ (.error e) s') s₁ := by
  wrow_args hpre hlay hrd hwl hlo
  refine wpAny_mono (call w s₁ _ _ _ hP hg (by assumption) (by assumption) (by omega)) (fun fin s' ⟨e, k, o, g⟩ => ⟨_, e, ?_⟩) fun _ _ x => x.elim
  exact ⟨.inl ⟨_, _, [], rfl, fun cls => rfl, .bool true, post_true _, fun _ => ⟨List.nodup_nil, fun a ha => (nomatch ha)⟩⟩, k, o, g⟩

theorem holds_main {PH : World → Heap → Prop} (hPk : ∀ w h h', PH w h → (∀ b o, h.get? b = some o → h'.get? b = some o) → PH w h')
    (top : ∀ (w : World) (s₀ : Shared) mb mg, s₀.asleep → Booted s₀ mb mg →
      wpAny (model P0 w) callerA (topStub P0).cur (fun fin s' => ∃ f, fin = .done f ∧ ((∃ mg', TopEnd P0 s₀ mg s' mg') ∧ PH w s'.heap) ∧ s'.gens = #[]) (fun _ _ => False) s₀)
    (pin : ∀ w h, PH w h → isTheDefsW P0 h R0.name) (call : CallOk PH) (hw : R0.promised) (kps : List Str) :
    R0.claim.HoldsOpenBy (fun vs => ⟨callTree vs, .builtin "claim.caller" {}, default, []⟩) [R0.name] kps false := by
  refine ⟨⟨⟨rfl, rfl, rfl, rfl, rfl, by decide +kernel⟩, by decide +kernel, rfl⟩, hw.witness, fun w => ?_⟩
  have hboot := boot_empty (p := opening P0) (w := w) opening_body rfl
  refine ⟨hboot.1, fun s hs => ?_⟩
  obtain ⟨mb, mg, B⟩ := hboot.2 s hs
  have hz : s.asleep := AfterImport.life hs
  obtain ⟨s₁, T, z, g, hP⟩ := topRan_of (P := fun s' => PH w s'.heap) hz B (top w s mb mg hz B)
  refine ⟨s, fence_same s, B.gens, s₁, T, fun n hn => ?_, fun x hx => (nomatch hx), fun x hx => (nomatch hx), ?_⟩
  · obtain rfl : n = R0.name := by simpa using hn
    exact pin w _ hP
  · refine ClaimW.callFrom_of_specG (c := R0.claim) z g fun args hpre hlay ord hord => ?_
    obtain ⟨⟨vs, s₂⟩, hlaid⟩ := Option.isSome_iff_exists.mp (layAllW_isSome (P := w.params) (ord := ord) (R := R0.records) (cl := classAt s₁.heap) (fun c hc => (nomatch hc)) args R0.args s₁ (pre_splitW hpre).1)
    have keeps := layAllW_keeps _ _ _ hlaid
    have hal := layAllW_rest _ _ _ hlaid
    obtain ⟨as, hrd, hin, hold⟩ := reads_layAllW hord _ _ _ hlaid hlay s₂.heap (fun _ _ e => e)
    have wl := well_layAllW hord args s₁ _ hlaid s₂.heap fun _ _ e => e
    have L : Laid R0.records w s₁ s₂ args vs as := ⟨⟨ord, hord, hlaid⟩, hrd, hin, hold, keeps, hal.1.trans g, hal.2.2.1⟩
    have hg2 : s₂.gens = #[] := hal.1.trans g
    refine ⟨vs, s₂, hlaid, wpAny_mono (call_good call w s₁ s₂ (hPk _ _ _ hP keeps) hg2 args vs as hpre hlay hrd wl fun a ha => ?_) (fun fin s' ⟨f, e, q⟩ => ⟨f, e, ?_⟩) fun e s' q => ?_⟩
    · exact beq_eq_false_iff_ne.mpr fun e => by
        have h1 := (hin.2.2 a ha).1
        obtain ⟨o, es, n, ho, _⟩ := T.2.2.2.2.2.2.1
        have h3 : (3 : Nat) < s₁.heap.objs.size := Heap.lt_size ho
        rw [e] at h1
        exact absurd (Nat.lt_of_lt_of_le h3 h1) (by decide)
    · have z := (GoodW.toG q).laid (c := R0.claim) rfl rfl (ident_freeW rfl rfl rfl) L
      exact ⟨z.1, z.2.1, z.2.2, fun q => (nomatch q)⟩
    · have z := (GoodW.toG q).laid (c := R0.claim) rfl rfl (ident_freeW rfl rfl rfl) L
      exact ⟨z.1, z.2.1, z.2.2, fun q => (nomatch q)⟩
end Mine
end

section
open PySem PySem.W PyProof.Rows
set_option maxRecDepth 100000
namespace Mine
def Stays (k : Addr) (Φ : Heap → Value → Prop) : Prop := ∀ h h' v, Φ h v → (∀ b o, k < b → h.get? b = some o → h'.get? b = some o) → Φ h' v

structure TI (s₀ : Shared) (mg₀ mb : Str → Option Value) (c Pl : Addr) (l : List (Pos × Addr)) (fns : List DefRec) (vals : List (Str × (Heap → Value → Prop))) (mg : Str → Option Value) (s : Shared) : Prop where
  main : s.heap.Main mg c Pl (triples l).toArray
  fn : ∀ e ∈ fns, s.heap.HasFn mg Pl e
  val : ∀ x ∈ vals, ∃ v, mg x.1 = some v ∧ x.2 s.heap v
  kept : ∀ b o, b ≠ mainGlobals → s₀.heap.get? b = some o → s.heap.get? b = some o
  names : ∀ x, x ∉ bootMainNames → x ∉ P0.boundNames → mg x = none
  laid : ∀ x ∈ laidNames ++ [("__builtins__" : Str)], mg x = mg₀ x
  os : s.os = s₀.os
  gens : s.gens = #[]
  low : s₀.heap.objs.size ≤ Pl
  three : mainGlobals < s₀.heap.objs.size
  b : s.heap.Ns builtinsNs mb
  builtins : ∀ x : Str, x ≠ "__name__" → mb x = bootBuiltins x

def okDef : Stmt → Bool
  | .FunctionDef name params _ [] none [] scope none qn _ => qn == name && params.kwonlyargs.isEmpty && params.kw_defaults.isEmpty && params.defaults.isEmpty &&
      (params.args ++ params.posonlyargs ++ params.vararg.toList ++ params.kwonlyargs ++ params.kwarg.toList).all (fun a => a.annotation.isNone) &&
      scope.names.all (fun x => x.2 != .free) && (P0.main.scope.names.lookup name == some .local) &&
      decide (qualnameIn { scope := P0.main.scope, locals := mainGlobals, globals := mainGlobals, cells := [] } name name = name) &&
      name != "__builtins__" && !laidNames.contains name
  | _ => false

theorem annsNone : ∀ (as : List Arg) (env : Env), as.all (fun a => a.annotation.isNone) = true → annotationsOf as env = []
  | [], _, _ => by simp [annotationsOf]
  | ⟨n, an, p⟩ :: as, env, h => by
    rw [List.all_cons, Bool.and_eq_true] at h
    obtain ⟨h1, h2⟩ := h
    cases an with
    | none => rw [annotationsOf, annsNone as env h2]
    | some e => cases h1

theorem List.mem_of_lookup_eq_some' {α β : Type} [BEq α] [LawfulBEq α] {k : α} {v : β} : ∀ {l : List (α × β)}, l.lookup k = some v → (k, v) ∈ l
  | [], h => by cases h
  | (a, b) :: l, h => by
    rw [List.lookup_cons] at h
    cases q : k == a with
    | true =>
      rw [q] at h
      have := eq_of_beq q
      subst this
      cases h
      exact .head _
    | false => rw [q] at h; exact .tail _ (List.mem_of_lookup_eq_some' h)

section
variable {M : Model} {A : Around} {E : Value → Shared → Prop} {s₀ : Shared} {mg₀ mb : Str → Option Value} {c Pl F : Addr}

theorem step_fn {l : List (Pos × Addr)} {fns : List DefRec} {vals : List (Str × (Heap → Value → Prop))} {mg : Str → Option Value} {s : Shared} {d : DefRec}
    (I : TI s₀ mg₀ mb c Pl l fns vals mg s) (hst : ∀ x ∈ vals, Stays Pl x.2) (ok : okDef d.stmt = true) (hl : ∀ q ∈ l, q.1.line < d.pos.line)
    (h1 : ∀ e ∈ fns, e.name ≠ d.name) (h2 : ∀ x ∈ vals, x.1 ≠ d.name) {Q : Flow → Shared → Prop}
    (h : ∀ s' mg' c', TI s₀ mg₀ mb c Pl (l ++ [(d.pos, c')]) (fns ++ [d]) vals mg' s' → Q .next s') :
    wpAny M A (exec d.stmt (mainEnv P0 c F)) Q E s := by
  obtain ⟨name, params, body, scope, pos⟩ := d
  simp only [DefRec.stmt, okDef, Bool.and_eq_true, beq_iff_eq, List.isEmpty_iff, decide_eq_true_eq, bne_iff_ne, ne_eq, Bool.not_eq_true', List.all_eq_true] at ok
  obtain ⟨⟨⟨⟨⟨⟨⟨⟨⟨_, hkw⟩, hkd⟩, hde⟩, han⟩, hfr⟩, hlo⟩, hq⟩, hnb⟩, hla⟩ := ok
  have hann : annTrees params none (mainEnv P0 c F) = [] := by
    obtain ⟨po, a, va, ko, kd, kwa, ds⟩ := params
    have := annsNone (a ++ po ++ va.toList ++ ko ++ kwa.toList) (mainEnv P0 c F) (List.all_eq_true.mpr han)
    simp only [annTrees, this, evalOpt, Option.map_none, Option.toList_none, List.append_nil]
  have hnf : codeAmong pos (triples l).toArray.toList = none := by
    rw [List.toList_toArray]
    exact codeAmong_triples _ _ fun q hq' e => by have : q.1.line < pos.line := hl q hq'; omega
  refine wpAny_defStmt0 (prog := P0) hkw hkd (by rw [hde]; exact fun e he => (nomatch he)) hann (fun x hx => hfr x hx) hlo hq I.main (fun a c' doc dV vs h' tk ha hm' hf hvs hdv hc keep => ?_) hnb rfl hnf
  have hPl : Pl < s.heap.objs.size := I.main.code.lt.2
  have hdv' : dV = .none := by
    rw [hde] at hvs
    cases vs with
    | nil => rcases hdv with ⟨_, q⟩ | ⟨q, _⟩
             · exact q
             · exact absurd rfl q
    | cons v vs => exact hvs.elim
  subst hdv'
  have keep' : ∀ b o, Pl < b → s.heap.get? b = some o → h'.get? b = some o := fun b o hb e => keep b o (Nat.ne_of_gt hb) (Nat.ne_of_gt (Nat.lt_trans I.main.low.2 hb)) e
  refine h _ (fun x => if x = name then some (.ref a) else mg x) c' ⟨?_, fun e he => ?_, fun x hx => ?_, fun b o hb e => ?_, fun x hx hx' => ?_, fun x hx => ?_, I.os, I.gens, I.low, I.three, ?_, I.builtins⟩
  · rw [triples_append]; simpa using hm'
  · rcases List.mem_append.mp he with he | he
    · obtain ⟨a₀, o₀, pm₀, cd₀, doc₀, hb₀, ho₀, hd₀, hc₀, la₀, lc₀⟩ := I.fn e he
      refine ⟨a₀, o₀, pm₀, cd₀, doc₀, ?_, keep' _ _ la₀ ho₀, hd₀, hc₀.at fun o => keep' _ o lc₀, la₀, lc₀⟩
      show (if e.name = name then _ else mg e.name) = _
      rw [if_neg (h1 e he)]; exact hb₀
    · obtain rfl : e = ⟨name, params, body, scope, pos⟩ := by simpa using he
      exact ⟨a, _, _, c', doc, by simp, hf, rfl, hc.2, Nat.lt_of_lt_of_le hPl ha, Nat.lt_of_lt_of_le hPl hc.1⟩
  · obtain ⟨v, e1, e2⟩ := I.val x hx
    refine ⟨v, ?_, hst x hx _ _ _ e2 keep'⟩
    show (if x.1 = name then _ else mg x.1) = _
    rw [if_neg (h2 x hx)]; exact e1
  · refine keep b o (fun q => ?_) hb (I.kept b o hb e)
    have := Nat.lt_of_lt_of_le (Heap.lt_size e) I.low
    rw [q] at this
    exact absurd this (Nat.lt_irrefl _)
  · show (if x = name then _ else mg x) = _
    rw [if_neg]
    · exact I.names x hx hx'
    · rintro rfl
      refine hx' ?_
      have : (x, NameKind.local) ∈ P0.main.scope.names := List.mem_of_lookup_eq_some' hlo
      exact List.mem_map.mpr ⟨(x, .local), List.mem_filter.mpr ⟨this, rfl⟩, rfl⟩
  · show (if x = name then _ else mg x) = _
    rw [if_neg]
    · exact I.laid x hx
    · rintro rfl
      rcases List.mem_append.mp hx with q | q
      · have := List.contains_iff_mem.mpr q
        rw [this] at hla; cases hla
      · exact hnb (by simpa using q)
  · refine I.b.at fun o e => keep _ o (fun q => ?_) (by decide) e
    have : builtinsNs < Pl := Nat.lt_of_lt_of_le (Nat.lt_trans (by decide) I.three) I.low
    rw [q] at this
    exact absurd this (Nat.lt_irrefl _)

theorem code_at {h : Heap} {c P : Addr} {ps : Array Value} (x : h.IsCode c P ps) : ∃ o, h.get? P = some o :=
  let ⟨_, _, _, _, _, _, _, _, _, op, _, _, _, _, _, _, _, b, _⟩ := x; ⟨op, b⟩

structure Gives (M : Model) (A : Around) (E : Value → Shared → Prop) (c Pl F : Addr) (mb : Str → Option Value) (e : Expr) (Φ : Heap → Value → Prop) : Prop where
  go : ∀ (s : Shared) (mg : Str → Option Value) (Q : Value → Shared → Prop), s.heap.Ns mainGlobals mg → s.heap.Ns builtinsNs mb → (∀ x, x ∉ bootMainNames → x ∉ P0.boundNames → mg x = none) → (∀ x : Str, x ≠ "__name__" → mb x = bootBuiltins x) → (∃ o, s.heap.get? Pl = some o) →
    (∀ v h' tk, Φ h' v → (∀ b o, s.heap.get? b = some o → h'.get? b = some o) → Q v { s with heap := h', toks := tk }) → wpAny M A (eval e (mainEnv P0 c F)) Q E s

theorem step_val {l : List (Pos × Addr)} {fns : List DefRec} {vals : List (Str × (Heap → Value → Prop))} {mg : Str → Option Value} {s : Shared} {x : Str} {px : Pos} {e : Expr} {pos : Pos} {Φ : Heap → Value → Prop}
    (I : TI s₀ mg₀ mb c Pl l fns vals mg s) (hst : ∀ x ∈ vals, Stays Pl x.2) (hΦ : Stays Pl Φ) (hloc : P0.main.scope.names.lookup x = some .local) (hla : x ∉ laidNames ++ [("__builtins__" : Str)])
    (hs : ∀ env, swapsWith e (some (.Name x px)) pos.line env = pure false) (G : Gives M A E c Pl F mb e Φ)
    (h1 : ∀ e ∈ fns, e.name ≠ x) (h2 : ∀ y ∈ vals, y.1 ≠ x) {Q : Flow → Shared → Prop}
    (h : ∀ s' mg', TI s₀ mg₀ mb c Pl l fns (vals ++ [(x, Φ)]) mg' s' → Q .next s') :
    wpAny M A (exec (.Assign [.Name x px] e pos) (mainEnv P0 c F)) Q E s := by
  refine wpAny_Assign_Name (G.go s mg _ I.main.g I.b I.names I.builtins (code_at I.main.code) fun v h₁ tk hv keep => ?_) (hs _)
  refine wpAny_storeName_local (env := mainEnv P0 c F) hloc (I.main.g.keeps keep) (fun h' hg' hs' => ?_) (by rfl)
  have hg₀ := I.main.low
  have k1 : ∀ b o, b ≠ mainGlobals → s.heap.get? b = some o → h'.get? b = some o := fun b o hb q => (hs'.2 b hb).trans (keep b o q)
  have k2 : ∀ b o, Pl < b → s.heap.get? b = some o → h'.get? b = some o := fun b o hb q => k1 b o (Nat.ne_of_gt (Nat.lt_trans hg₀.2 hb)) q
  have xb : x ≠ "__builtins__" := fun q => hla (by rw [q]; simp)
  refine h _ _ ⟨⟨hg', (I.main.code.keeps keep).sameBut hs' (Nat.ne_of_gt hg₀.1) (Nat.ne_of_gt hg₀.2), hg₀, ?_⟩, fun e he => ?_, fun y hy => ?_, fun b o hb q => k1 b o hb (I.kept b o hb q), fun y hy hy' => ?_, fun y hy => ?_, I.os, I.gens, I.low, I.three, I.b.at fun o q => k1 _ o (by decide) q, I.builtins⟩
  · obtain ⟨bm, o, b1, b2, b3, b4, b5, b6⟩ := I.main.bmod
    exact ⟨bm, o, by simp only [if_neg (Ne.symm xb)]; exact b1, b2, b3, b4, k1 _ _ b3 b5, b6⟩
  · obtain ⟨a₀, o₀, pm₀, cd₀, doc₀, hb₀, ho₀, hd₀, hc₀, la₀, lc₀⟩ := I.fn e he
    refine ⟨a₀, o₀, pm₀, cd₀, doc₀, ?_, k2 _ _ la₀ ho₀, hd₀, hc₀.at fun o => k2 _ o lc₀, la₀, lc₀⟩
    show (if e.name = x then _ else mg e.name) = _
    rw [if_neg (h1 e he)]; exact hb₀
  · rcases List.mem_append.mp hy with hy | hy
    · obtain ⟨u, e1, e2⟩ := I.val y hy
      refine ⟨u, ?_, hst y hy _ _ _ e2 k2⟩
      show (if y.1 = x then _ else mg y.1) = _
      rw [if_neg (h2 y hy)]; exact e1
    · obtain rfl : y = (x, Φ) := by simpa using hy
      exact ⟨v, by simp, hΦ _ _ _ hv fun b o hb q => (hs'.2 b (Nat.ne_of_gt (Nat.lt_trans hg₀.2 hb))).trans q⟩
  · show (if y = x then _ else mg y) = _
    rw [if_neg]
    · exact I.names y hy hy'
    · rintro rfl
      exact hy' (List.mem_map.mpr ⟨(y, .local), List.mem_filter.mpr ⟨List.mem_of_lookup_eq_some' hloc, rfl⟩, rfl⟩)
  · show (if y = x then _ else mg y) = _
    rw [if_neg]
    · exact I.laid y hy
    · rintro rfl
      exact hla hy

theorem TI.forget {l : List (Pos × Addr)} {fns : List DefRec} {vals : List (Str × (Heap → Value → Prop))} {y : Str × (Heap → Value → Prop)} {mg : Str → Option Value} {s : Shared}
    (I : TI s₀ mg₀ mb c Pl l fns (vals ++ [y]) mg s) : TI s₀ mg₀ mb c Pl l fns vals mg s :=
  ⟨I.main, I.fn, fun x hx => I.val x (List.mem_append_left _ hx), I.kept, I.names, I.laid, I.os, I.gens, I.low, I.three, I.b, I.builtins⟩

end
end Mine
end

section
open PySem PySem.W PyProof.Rows PySem.Calls
set_option maxRecDepth 100000
set_option linter.unusedVariables false
namespace Mine
section
variable {w : World} {A : Around} {E : Value → Shared → Prop} {mb : Str → Option Value} {c Pl F : Addr}

def LI (ns : List Int) (h : Heap) (v : Value) : Prop := ∃ l items n, v = .ref l ∧ IsL h l items n ∧ IntsAre items.toList ns
theorem LI.keeps {ns : List Int} {h h' : Heap} {v : Value} (x : LI ns h v) (k : ∀ b o, h.get? b = some o → h'.get? b = some o) : LI ns h' v :=
  let ⟨l, items, n, e, a, b⟩ := x; ⟨l, items, n, e, k _ _ a, b⟩

theorem name_builtin {s : Shared} {mg : Str → Option Value} {x : Str} {pos : Pos} {v : Value} {Q : Value → Shared → Prop} {M : Model} (hg : s.heap.Ns mainGlobals mg) (hb : s.heap.Ns builtinsNs mb) (hx : mg x = none)
    (hv : mb x = some v) (h : Q v s) (hd : (x == ("__debug__" : Str)) = false := by decide) : wpAny M A (eval (.Name x pos) (mainEnv P0 c F)) Q E s :=
  Name_module rfl rfl (loadGlobal_builtin hg hx hb hv h) hd

theorem gives_str {M : Model} {x : Str} {k : Nat} {pos : Pos} : Gives M A E c Pl F mb (.Constant (.str x) k pos) fun _ _ => True :=
  ⟨fun s mg Q _ _ _ _ _ h => Constant_str (h _ _ _ trivial fun _ _ e => e)⟩

theorem add_ints {vs ws : List Value} {ns ms : List Int} (h : IntsAre vs ns) (h' : IntsAre ws ms) : IntsAre (vs ++ ws) (ns ++ ms) := by
  induction h with
  | nil => exact h'
  | cons n t _ ih => exact .cons n t ih

theorem gives_add {l r : Expr} {pos : Pos} {ns ms : List Int} (hl : Gives (model P0 w) A E c Pl F mb l (LI ns)) (hr : Gives (model P0 w) A E c Pl F mb r (LI ms)) (hsz : ns.length + ms.length ≤ 1000) :
    Gives (model P0 w) A E c Pl F mb (.BinOp l .Add r pos) (LI (ns ++ ms)) := .mk fun s mg Q hg hb hn hB hP h => by
  refine wpAny_BinOp ?_
  refine hl.go s mg _ hg hb hn hB hP fun v h₁ tk x k => ?_
  have hP' : ∃ o, h₁.get? Pl = some o := let ⟨o, e⟩ := hP; ⟨o, k _ _ e⟩
  refine hr.go { s with heap := h₁, toks := tk } mg _ (hg.keeps k) (hb.keeps k) hn hB hP' fun v' h₂ tk' x' k' => ?_
  obtain ⟨l₁, i₁, n₁, rfl, a₁, b₁⟩ := x.keeps k'
  obtain ⟨l₂, i₂, n₂, rfl, a₂, b₂⟩ := x'
  have e1 := IntsAre.length b₁
  have e2 := IntsAre.length b₂
  rw [Array.length_toList] at e1 e2
  refine P.add_list a₁ a₂ (h _ _ _ ⟨_, _, 0, rfl, IsL.new _ _, by rw [Array.toList_append]; exact add_ints b₁ b₂⟩ fun b o e => Heap.get?_push_of_some _ (k' _ _ (k _ _ e))) ?_
  rw [e1, e2]; exact Nat.le_trans hsz (by decide)

def constInt? : Expr → Option Int
  | .Constant (.int i) _ _ => some i
  | _ => none
def isConstE : Expr → Bool
  | .Constant _ _ _ => true
  | _ => false

theorem consts_ints {M : Model} {env : Env} : ∀ (es : List Expr) (ns : List Int) (s : Shared) (Q : List Value → Shared → Prop), es.map constInt? = ns.map some →
    (∀ vs tk, IntsAre vs ns → Q vs { s with toks := tk }) → wpAny M A (spliced (starEach es env)) Q E s
  | [], [], s, Q, _, h => spliced_nil (h [] s.toks .nil)
  | [], _ :: _, s, Q, e, h => by cases e
  | _ :: _, [], s, Q, e, h => by cases e
  | e :: es, n :: ns, s, Q, he, h => by
    rw [List.map_cons, List.map_cons] at he
    injection he with h1 h2
    cases e with
    | Constant cst k pos =>
      cases cst with
      | int i =>
        simp only [constInt?, Option.some.injEq] at h1
        subst h1
        show wpAny M A (spliced ((false, eval (.Constant (.int i) k pos) env) :: starEach es env)) Q E s
        refine spliced_cons (wpAny_mkInt ?_)
        exact consts_ints es ns _ _ h2 fun vs tk hv => h _ _ (.cons i _ hv)
      | _ => cases h1
    | _ => cases h1

theorem ints_of_items {a : Int} {n : Nat} {acc : Array Value} (h : ItemsOf (fun i v => ∃ t, v = .int (a + i * 1) t) acc n) : IntsAre acc.toList (rangeInts a 1 n) := by
  obtain ⟨l⟩ := acc
  obtain ⟨h1, h2⟩ := h
  simp only [List.size_toArray] at h1
  simp only [List.getElem?_toArray] at h2
  subst h1
  show IntsAre l _
  induction l generalizing a with
  | nil => exact .nil
  | cons v l ih =>
    obtain ⟨t, e⟩ := h2 0 v rfl
    have : rangeInts a 1 (l.length + 1) = a :: rangeInts (a + 1) 1 l.length := rangeInts_succ a l.length
    rw [List.length_cons, this, e]
    have e0 : a + ((0 : Nat) : Int) * 1 = a := by omega
    rw [e0]
    refine .cons a t (ih fun j v hj => ?_)
    obtain ⟨t, e⟩ := h2 (j + 1) v hj
    exact ⟨t, by rw [e]; congr 1; omega⟩

theorem backTo_stars (pos : Pos) : ∀ (es : List Expr) (env : Env), es.all isConstE = true → backTo pos (starEach es env) = starEach es env
  | [], _, _ => rfl
  | e :: es, env, h => by
    rw [List.all_cons, Bool.and_eq_true] at h
    cases e with
    | Constant cst k p =>
      show backTo pos ((false, eval (.Constant cst k p) env) :: starEach es env) = (false, eval (.Constant cst k p) env) :: starEach es env
      have := backTo_stars pos es env h.2
      unfold backTo at this ⊢
      rw [List.map_cons, this]
      rfl
    | _ => exact absurd h.1 Bool.false_ne_true

theorem gives_display {es : List Expr} {pos : Pos} {ns : List Int} (h1 : es.map constInt? = ns.map some)
    (h2 : es.all isConstE = true) (hsz : ns.length ≤ 1000) :
    Gives (model P0 w) A E c Pl F mb (.List es pos) (LI ns) := .mk fun s mg Q hg hb hn hB hP h => by
  refine List_ ?_
  rw [backTo_stars pos es _ h2]
  refine consts_ints es ns s _ h1 fun vs tk hv => ?_
  have e1 := IntsAre.length hv
  refine wpAny_newList (h _ _ _ ⟨_, _, 0, rfl, IsL.new _ _, by simpa using hv⟩ fun b o e => Heap.get?_push_of_some _ e) ?_
  rw [e1]; exact Nat.le_trans hsz (by decide)

theorem range_small {a b : Int} (ha : 0 ≤ a) (hb : b ≤ 2 ^ 40) (hab : a < b) : Builtin.Range.small a b 1 = true := by
  refine small_one (by omega) (by omega) (by omega) (by omega)

theorem gives_list_range {a b : Int} {k₁ k₂ : Nat} {p1 p2 p3 p4 p5 p6 : Pos} (hh : A.handled = none) (ha : 0 ≤ a) (hab : a < b) (hb' : b ≤ a + 1000) (hb2 : b ≤ 2 ^ 40) :
    Gives (model P0 w) A E c Pl F mb (.Call (.Name "list" p1) [.Call (.Name "range" p2) [.Constant (.int a) k₁ p3, .Constant (.int b) k₂ p4] [] p5] [] p6) (LI (rangeInts a 1 (b - a).toNat)) := .mk fun s mg Q hg hb hn hB hP h => by
  have n1 : mg "list" = none := hn _ (by decide) (by decide)
  have n2 : mg "range" = none := hn _ (by decide) (by decide)
  refine Call_Name1 ?_
  refine name_builtin hg hb n1 (v := .type "list") ((hB _ (by decide)).trans (by decide +kernel)) ?_
  refine PyProof.Rows.callWith_type rfl (evalArgs_plain (spliced_cons ?_))
  refine Call_Name2 ?_
  refine name_builtin hg hb n2 (v := .type "range") ((hB _ (by decide)).trans (by decide +kernel)) ?_
  refine PyProof.Rows.callWith_type rfl (evalArgs_plain (spliced_cons (wpAny_mkInt (spliced_cons (wpAny_mkInt (spliced_nil ?_))))))
  refine call_range_2 ?_
  refine spliced_nil ?_
  have hn' : Builtin.Range.rangeSize a b 1 = ((b - a).toNat : Int) := by rw [rangeSize_one, if_pos hab]; omega
  refine call_list_range hh (IsRange.new _ a b 1 _ _ _) (range_small ha hb2 hab) hn' (by omega) fun h' tk acc' c' k hl hi => ?_
  refine h _ _ _ ⟨_, acc', c', rfl, hl, ?_⟩ fun b o e => k _ _ (Heap.get?_push_of_some _ e)
  exact ints_of_items hi

theorem sub_range_set : isSubtype (.type "range") (.type "set") = pure false := by rw [isSubtype_type]; kernel_rfl
theorem sub_range_frozenset : isSubtype (.type "range") (.type "frozenset") = pure false := by rw [isSubtype_type]; kernel_rfl

set_option maxHeartbeats 3200000 in
theorem call_set_range {s : Shared} {r : Addr} {a b : Int} {t u v : Tok} {n : Nat} {Q : Value → Shared → Prop} (hh : A.handled = none) (hr : IsRange s.heap r a b 1 t u v)
    (hsm : Builtin.Range.small a b 1 = true) (hn : Builtin.Range.rangeSize a b 1 = n) (hb : n + 1 < scanBound)
    (h : ∀ (h' : Heap) (tk : Nat), h'.SetOf (intKind P0 w) s.heap.objs.size (fun k' => (firstMet (fun i => a + i * 1) n).any (· == k')) (firstMet (fun i => a + i * 1) n).length →
      (∀ b o, b < s.heap.objs.size → s.heap.get? b = some o → h'.get? b = some o) → Q (.ref s.heap.objs.size) { s with heap := h', toks := tk }) :
    wpAny (model P0 w) A (call (.type "set") [.ref r]) Q E s := by
  obtain ⟨c, tl, hmro⟩ := PySem.F.called_set.mro
  have hmade := PySem.F.called_set.made
  have hsub := PySem.F.called_set.sub
  refine wpAny_call (codeAny_of_tree ?_)
  show wpAny _ _ (callAny (.type "set") _) _ _ _
  refine wpAny_pure ⟨Code.quiet_builtin _ (by decide +kernel), codeAny_builtin PySem.F.entry_type_call ?_⟩
  rw [Around.under_plain (weight_type_call_type "set" [.ref r] []) rfl]
  have h1 := PySem.F.called_set.notType
  have h2 := PySem.F.called_set.canCreate
  have hct := PySem.F.typeCall_set_1 (.ref r)
  repeat (any_goals (first | assumption | wp_step))
  refine codeAny_mono (code_set_new_1 (.ref r) (E := E) (Q₁ := fun obj s₁ => ∃ led : Bool, obj = .ref s.heap.objs.size ∧ s₁ = { s with heap := s.heap.push { cls := .type "set", dict := none, data := .set #[] 0 (.fresh 0 0 led) } }) fun led => ⟨led, rfl, rfl⟩) fun res s₁ hres => ?_
  cases res with
  | error e => exact hres
  | ok fl =>
    cases fl with
    | ret obj =>
      obtain ⟨led, rfl, rfl⟩ := hres
      have hS : (s.heap.push { cls := .type "set", dict := none, data := .set #[] 0 (.fresh 0 0 led) }).get? s.heap.objs.size = some { cls := .type "set", dict := none, data := .set #[] 0 (.fresh 0 0 led) } := Heap.get?_push_size _ rfl
      have hT : Shared.TypeIs { s with heap := s.heap.push { cls := .type "set", dict := none, data := .set #[] 0 (.fresh 0 0 led) } } (.ref s.heap.objs.size) "set" := ⟨_, hS, rfl⟩
      have hli := PySem.F.called_set.init.lookup
      have hbi := PySem.F.called_set.init.bind (.ref s.heap.objs.size)
      repeat (any_goals (first | assumption | wp_step))
      refine codeAny_mono (codeAny_call_builtin (R := wants (fun x s₂ => x = .none ∧ ∃ h' tk, s₂ = { s with heap := h', toks := tk } ∧
          h'.SetOf (intKind P0 w) s.heap.objs.size (fun k' => (firstMet (fun i => a + i * 1) n).any (· == k')) (firstMet (fun i => a + i * 1) n).length ∧
          (∀ b o, b < s.heap.objs.size → s.heap.get? b = some o → h'.get? b = some o)) E) PySem.F.called_set.init.plain PySem.F.entry_set_init (check_set_init_1 hT ?_)) fun r₂ s₂ hr₂ => ?_
      · have hr' : IsRange (s.heap.push { cls := .type "set", dict := none, data := .set #[] 0 (.fresh 0 0 led) }) r a b 1 t u v := Heap.get?_push_of_some _ hr
        have hol' := hr'
        unfold IsRange at hol'
        have hsls := sub_range_set
        have hslf := sub_range_frozenset
        have hne : (Value.type "range" == Value.type "dict") = false := by decide
        unfold Builtin.«set.__init__» noKeywords Builtin.Frozenset.updateFrom
        generalize hPI : pyIter = PI
        wp_walk
        subst hPI
        refine wpAny_pyIter_range hr' hsm ?_
        refine wpAny_bind (wpAny_runValue ?_)
        have hh3 : A.in1.in1.in1.handled = none := by simp [hh]
        have hSf : s.heap.objs.size ∉ [(s.heap.push { cls := .type "set", dict := none, data := .set #[] 0 (.fresh 0 0 led) }).objs.size] := by
          rw [Heap.size_push]; simp only [List.mem_singleton]
          exact Nat.ne_of_lt (Nat.lt_succ_self _)
        refine codeAny_set_update_loopS ((Walks.range hh3 _ a 1 n).toS) s.heap.objs.size
          hSf (fun i => a + i * 1) (fun i v hv => hv) hb (n - 0) 0 _ (by omega) (Nat.zero_le _) ?hst ?hS0 ?hR
        case hst =>
          have e1 : a + ((0 : Nat) : Int) * 1 = a := by omega
          have e2 : ((n : Nat) : Int) - ((0 : Nat) : Int) = n := by omega
          show IsRangeIter _ _ (a + ((0 : Nat) : Int) * 1) ((n : Int) - ((0 : Nat) : Int)) 1
          rw [e1, e2, hn]
          exact Heap.get?_push_size _ rfl
        case hS0 =>
          have hget : ((s.heap.push { cls := .type "set", dict := none, data := .set #[] 0 (.fresh 0 0 led) }).push { cls := .type "range_iterator", data := .fields #[rawInt a, rawInt (Builtin.Range.rangeSize a b 1), rawInt 1] }).get? s.heap.objs.size
              = some { cls := .type "set", dict := none, data := .set #[] 0 (.fresh 0 0 led) } := Heap.get?_push_of_some _ hS
          exact SetOf_congr ((setObjOf_fresh (knd := intKind P0 w) led).setOf hget (by unfold scanBound; omega)) (fun _ => rfl) rfl
        case hR =>
          intro s' hm hS'
          obtain ⟨h', g', d', tk', os'⟩ := s'
          have eg : g' = s.gens := hm.gens
          have ed : d' = s.drawn := hm.drawn
          have eo : os' = s.os := hm.os
          subst eg; subst ed; subst eo
          show wpAny _ _ _ _ _ _
          refine wpAny_pure ?_
          show wpAny _ _ (ret Value.none) _ _ _
          refine wpAny_pure ⟨rfl, h', tk', rfl, hS', fun b o hb e => ?_⟩
          have hb1 : b ≠ s.heap.objs.size := Nat.ne_of_lt hb
          have hb2 : b ≠ (s.heap.push { cls := .type "set", dict := none, data := .set #[] 0 (.fresh 0 0 led) }).objs.size := by
            rw [Heap.size_push]; exact Nat.ne_of_lt (Nat.lt_succ_of_lt hb)
          exact hm.heap b o (by simp only [List.mem_cons, List.mem_singleton, List.not_mem_nil, or_false, not_or]; exact ⟨hb1, hb2⟩) (Heap.get?_push_of_some _ (Heap.get?_push_of_some _ e))
      · cases r₂ with
        | error e => exact hr₂
        | ok fl₂ =>
          cases fl₂ with
          | ret x =>
            obtain ⟨rfl, h', tk, rfl, hS', hk'⟩ := hr₂
            repeat (any_goals (first | assumption | wp_step))
            exact h _ _ hS' hk'
          | _ => exact hr₂.elim
    | _ => exact hres.elim

def SI (w : World) (k : Addr) (ns : List Int) (h : Heap) (v : Value) : Prop := ∃ a S n, v = .ref a ∧ k < a ∧ h.SetOf (intKind P0 w) a S n ∧ ∀ i, S i = ns.contains i
theorem SI.stays (w : World) (k : Addr) (ns : List Int) : Stays k (SI w k ns) := fun h h' v ⟨a, S, n, e, l, ⟨o, es, ep, t, ho, r⟩, m⟩ kp => ⟨a, S, n, e, l, ⟨o, es, ep, t, kp _ _ l ho, r⟩, m⟩

theorem any_contains (l : List Int) (i : Int) : l.any (· == i) = l.contains i := by
  induction l with
  | nil => rfl
  | cons x l ih =>
    rw [List.any_cons, List.contains_cons, ih]
    congr 1
    rw [Bool.eq_iff_iff, beq_iff_eq, beq_iff_eq, eq_comm]

theorem getD_range_map (ns : List Int) : (List.range ns.length).map (fun i => ns.getD i 0) = ns := by
  apply List.ext_getElem
  · simp
  · intro i h1 h2
    simp only [List.length_map, List.length_range] at h1
    simp [List.getElem?_eq_getElem h2]

theorem gives_set {e : Expr} {ns : List Int} {p1 p2 : Pos} (hh : A.handled = none) (G : Gives (model P0 w) A E c Pl F mb e (LI ns)) (hsz : ns.length ≤ 1000)
    (hs : ∀ env, starEach [e] env = [(false, eval e env)]) : Gives (model P0 w) A E c Pl F mb (.Call (.Name "set" p1) [e] [] p2) (SI w Pl ns) := .mk fun s mg Q hg hb hn hB hP h => by
  have n1 : mg "set" = none := hn _ (by decide) (by decide)
  refine Call_Name1 ?_ (hs _)
  refine name_builtin hg hb n1 (v := .type "set") ((hB _ (by decide)).trans (by decide +kernel)) ?_
  refine PyProof.Rows.callWith_type rfl (evalArgs_plain (spliced_cons ?_))
  refine G.go s mg _ hg hb hn hB hP fun v h₁ tk x k => ?_
  obtain ⟨l, items, n, rfl, a, b⟩ := x
  have e1 := IntsAre.length b
  rw [Array.length_toList] at e1
  refine spliced_nil ?_
  refine call_set_list hh a.isList b (by rw [e1]; exact Nat.lt_of_le_of_lt (Nat.succ_le_succ hsz) (by decide)) fun h' tk' hS kp => ?_
  obtain ⟨oP, eP⟩ := hP
  refine h _ _ _ ⟨_, _, _, rfl, Heap.lt_size (k _ _ eP), hS, fun i => ?_⟩ fun b o q => kp _ _ (Heap.lt_size (k _ _ q)) (k _ _ q)
  rw [firstMet_any, e1, getD_range_map, any_contains]

theorem gives_set_range {a b : Int} {k₁ k₂ : Nat} {p1 p2 p3 p4 p5 p6 : Pos} (hh : A.handled = none) (ha : 0 ≤ a) (hab : a < b) (hb' : b ≤ a + 1000) (hb2 : b ≤ 2 ^ 40) :
    Gives (model P0 w) A E c Pl F mb (.Call (.Name "set" p1) [.Call (.Name "range" p2) [.Constant (.int a) k₁ p3, .Constant (.int b) k₂ p4] [] p5] [] p6) (SI w Pl (rangeInts a 1 (b - a).toNat)) := .mk fun s mg Q hg hb hn hB hP h => by
  have n1 : mg "set" = none := hn _ (by decide) (by decide)
  have n2 : mg "range" = none := hn _ (by decide) (by decide)
  refine Call_Name1 ?_
  refine name_builtin hg hb n1 (v := .type "set") ((hB _ (by decide)).trans (by decide +kernel)) ?_
  refine PyProof.Rows.callWith_type rfl (evalArgs_plain (spliced_cons ?_))
  refine Call_Name2 ?_
  refine name_builtin hg hb n2 (v := .type "range") ((hB _ (by decide)).trans (by decide +kernel)) ?_
  refine PyProof.Rows.callWith_type rfl (evalArgs_plain (spliced_cons (wpAny_mkInt (spliced_cons (wpAny_mkInt (spliced_nil ?_))))))
  refine call_range_2 ?_
  refine spliced_nil ?_
  have hn' : Builtin.Range.rangeSize a b 1 = ((b - a).toNat : Int) := by rw [rangeSize_one, if_pos hab]; omega
  refine call_set_range hh (IsRange.new _ a b 1 _ _ _) (range_small ha hb2 hab) hn' (by unfold scanBound; omega) fun h' tk hS kp => ?_
  obtain ⟨oP, eP⟩ := hP
  refine h _ _ _ ⟨_, _, _, rfl, Nat.lt_trans (Heap.lt_size eP) (by rw [Heap.size_push]; exact Nat.lt_succ_self _), hS, fun i => ?_⟩ fun b o q => kp _ _ (by rw [Heap.size_push]; exact Nat.lt_succ_of_lt (Heap.lt_size q)) (Heap.get?_push_of_some _ q)
  rw [firstMet_any, any_contains]
  rfl
end
end Mine
end

section
open PySem PySem.W PyProof.Rows PySem.Calls
set_option maxRecDepth 100000
set_option linter.unusedVariables false
namespace Mine
def DI (ks : List Int) (n : Nat) (h : Heap) (d : Addr) : Prop :=
  ∃ o es ep, h.get? d = some o ∧ o.ExactDict ∧ o.data = .dict es ep ∧ es.size ≤ n ∧ ∀ e ∈ es, ∃ k t, e.key = .int k t ∧ e.hash = hashInt k ∧ k ∈ ks

theorem DI.mono {ks : List Int} {n m : Nat} {h : Heap} {d : Addr} (x : DI ks n h d) (l : n ≤ m) : DI ks m h d :=
  let ⟨o, es, ep, a, b, c, e, f⟩ := x; ⟨o, es, ep, a, b, c, Nat.le_trans e l, f⟩
theorem DI.at {ks : List Int} {n : Nat} {h h' : Heap} {d : Addr} (x : DI ks n h d) (k : ∀ o, h.get? d = some o → h'.get? d = some o) : DI ks n h' d :=
  let ⟨o, es, ep, a, b, c, e, f⟩ := x; ⟨o, es, ep, k _ a, b, c, e, f⟩

section
variable {w : World} {A : Around} {E : Value → Shared → Prop} {ks : List Int}

theorem keysOf_DI {es : Array DictEntry} (h : ∀ e ∈ es, ∃ k t, e.key = .int k t ∧ e.hash = hashInt k ∧ k ∈ ks) : KeysOf (intKind P0 w) es := fun e he => by
  obtain ⟨k, t, h1, h2, _⟩ := h e he
  exact ⟨k, by rw [h1]; exact intKind_is _ _ _ _, h2⟩

theorem di_tail {s : Shared} {d : Addr} {n : Nat} {k : Int} {t : Tok} {v : Value} (hk : k ∈ ks) {o : Obj} {es : Array DictEntry} {ep : Nat} (ho : s.heap.get? d = some o) (hc : o.ExactDict) (hd : o.data = .dict es ep) (hz : es.size ≤ n)
    (hks : ∀ e ∈ es, ∃ k t, e.key = .int k t ∧ e.hash = hashInt k ∧ k ∈ ks) : DI ks (n + 1) (s.heap.update d (Obj.mapDictKeys (·.push ⟨hashInt k, .int k t, v⟩))) d := by
  refine ⟨_, _, ep + 1, Heap.get?_update_self _ ho (Obj.isFreed_of_dict (Obj.data_mapDictKeys hd _)), hc.mapDictKeys _, Obj.data_mapDictKeys hd _, ?_, fun e he => ?_⟩
  · rw [Array.size_push]; omega
  · rcases Array.mem_push.mp he with h | rfl
    · exact hks e h
    · exact ⟨k, t, rfl, rfl, hk⟩
theorem di_mod {s : Shared} {d : Addr} {n : Nat} {i : Nat} {v : Value} {o : Obj} {es : Array DictEntry} {ep : Nat} (ho : s.heap.get? d = some o) (hc : o.ExactDict) (hd : o.data = .dict es ep) (hz : es.size ≤ n)
    (hks : ∀ e ∈ es, ∃ k t, e.key = .int k t ∧ e.hash = hashInt k ∧ k ∈ ks) : DI ks (n + 1) (s.heap.update d (Obj.mapDict (·.modify i fun e => { e with val := v }))) d := by
  refine ⟨_, _, ep, Heap.get?_update_self _ ho (Obj.isFreed_of_dict (Obj.data_mapDict hd _)), hc.mapDict _, Obj.data_mapDict hd _, ?_, fun e he => ?_⟩
  · rw [Array.size_modify]; omega
  · obtain ⟨j, hj, rfl⟩ := Array.mem_iff_getElem.mp he
    rw [Array.size_modify] at hj
    rw [Array.getElem_modify]
    split
    · exact hks es[j] (Array.getElem_mem hj)
    · exact hks es[j] (Array.getElem_mem hj)

theorem di_set {s : Shared} {d : Addr} {n : Nat} {k : Int} {t : Tok} {v : Value} {Q : Unit → Shared → Prop} (hk : k ∈ ks) (x : DI ks n s.heap d) (hn : n ≤ 5000)
    (hQ : ∀ h' tk, DI ks (n + 1) h' d → Heap.SameBut d s.heap h' → Q () { s with heap := h', toks := tk }) : wpAny (model P0 w) A (dictSet d (.int k t) v) Q E s := by
  obtain ⟨o, es, ep, ho, hc, hd, hz, hks⟩ := x
  have hsl : es.size ≤ sizeLine := Nat.le_trans hz (Nat.le_trans hn (by decide))
  unfold dictSet
  refine wpAny_holding (wpAny_bind ((intKind P0 w).pyHash (intKind_is P0 w k t) ?_))
  unfold dictSetHashed
  refine wpAny_holding (wpAny_bind (wpAny_dictFind_of (knd := intKind P0 w) (s := { s with toks := s.toks + 1 }) (intKind_is P0 w k t) ho hd (keysOf_DI hks) ?_))
  cases hi : es.findIdx? fun e => (intKind P0 w).is k e.key with
  | some i => exact wpAny_bind (wpAny_rule (wpAny_bind (wpAny_updateDict (s := { s with toks := s.toks + 1 }) ho hd (wpAny_point (hQ _ _ (di_mod ho hc hd hz hks) (Heap.SameBut.update ..))))))
  | none => exact wpAny_bind (wpAny_rule (wpAny_updateDictKeys (hz := hsl) (s := { s with toks := s.toks + 1 }) ho hd (hQ _ _ (di_tail hk ho hc hd hz hks) (Heap.SameBut.update ..))))

theorem di_put {s : Shared} {d : Addr} {n : Nat} {k : Int} {t : Tok} {v : Value} {Q : Unit → Shared → Prop} (hk : k ∈ ks) (x : DI ks n s.heap d) (hn : n ≤ 5000)
    (hQ : ∀ h' tk, DI ks (n + 1) h' d → Heap.SameBut d s.heap h' → Q () { s with heap := h', toks := tk }) : wpAny (model P0 w) A (dictPut d (hashInt k) (.int k t) v) Q E s := by
  obtain ⟨o, es, ep, ho, hc, hd, hz, hks⟩ := x
  have hsl : es.size ≤ sizeLine := Nat.le_trans hz (Nat.le_trans hn (by decide))
  unfold dictPut
  refine wpAny_bind (wpAny_dictFind_of (knd := intKind P0 w) (intKind_is P0 w k t) ho hd (keysOf_DI hks) ?_)
  cases hi : es.findIdx? fun e => (intKind P0 w).is k e.key with
  | some i => exact wpAny_updateDict ho hd (hQ _ _ (di_mod ho hc hd hz hks) (Heap.SameBut.update ..))
  | none => exact wpAny_updateDictKeys (hz := hsl) ho hd (hQ _ _ (di_tail hk ho hc hd hz hks) (Heap.SameBut.update ..))

structure PairOk (w : World) (A : Around) (E : Value → Shared → Prop) (ks : List Int) (p : Sem Value × Sem Value) : Prop where
  key : ∀ (s : Shared) (Q : Value → Shared → Prop), (∀ k t tk, k ∈ ks → Q (.int k t) { s with toks := tk }) → wpAny (model P0 w) A p.1 Q E s
  val : ∀ (s : Shared) (Q : Value → Shared → Prop), (∀ v tk, Q v { s with toks := tk }) → wpAny (model P0 w) A p.2 Q E s

theorem evalPairs_ok : ∀ (ps : List (Sem Value × Sem Value)) (s : Shared) (Q : List (Value × Value) → Shared → Prop), (∀ p ∈ ps, PairOk w A E ks p) →
    (∀ vs tk, vs.length = ps.length → (∀ v ∈ vs, ∃ k t, v.1 = .int k t ∧ k ∈ ks) → Q vs { s with toks := tk }) → wpAny (model P0 w) A (evalPairs ps) Q E s
  | [], s, Q, _, h => evalPairs_nil (h [] s.toks rfl fun _ hv => nomatch hv)
  | p :: ps, s, Q, hp, h => evalPairs_cons ((hp p (.head _)).key s _ fun k t tk hk => (hp p (.head _)).val _ _ fun v tk' =>
      evalPairs_ok ps _ _ (fun q hq => hp q (.tail _ hq)) fun vs tk'' hl hv => h _ _ (by simp [hl]) fun x hx => by
        rcases List.mem_cons.mp hx with rfl | hx
        · exact ⟨k, t, rfl, hk⟩
        · exact hv x hx)

theorem storeAll_ok {d : Addr} : ∀ (vs : List (Value × Value)) (n : Nat) (s : Shared) (Q : PUnit → Shared → Prop), (∀ v ∈ vs, ∃ k t, v.1 = .int k t ∧ k ∈ ks) → DI ks n s.heap d → n + vs.length ≤ 5000 →
    (∀ h' tk, DI ks (n + vs.length) h' d → Heap.SameBut d s.heap h' → Q PUnit.unit { s with heap := h', toks := tk }) →
    wpAny (model P0 w) A (forIn vs PUnit.unit fun (x : Value × Value) (_ : PUnit) => (do dictSet d x.1 x.2; pure (ForInStep.yield PUnit.unit) : Sem (ForInStep PUnit))) Q E s
  | [], n, s, Q, _, x, _, h => by
    rw [List.forIn_nil]
    exact wpAny_pure (h s.heap s.toks x (Heap.SameBut.refl _ _))
  | (a, b) :: vs, n, s, Q, hv, x, hn, h => by
    obtain ⟨k, t, e, hk⟩ := hv _ (.head _)
    dsimp only at e
    subst e
    rw [List.length_cons] at hn
    rw [List.forIn_cons]
    refine wpAny_bind (wpAny_bind (di_set hk x (by omega) fun h₁ tk x₁ s₁ => wpAny_pure ?_))
    refine storeAll_ok vs (n + 1) _ Q (fun v hx => hv v (.tail _ hx)) x₁ (by omega) fun h' tk' x' s' => h h' tk' ?_ (s₁.trans s')
    rw [List.length_cons, show n + (vs.length + 1) = n + 1 + vs.length by omega]; exact x'

theorem storeEach_ok {d : Addr} : ∀ (ps : List (Sem Value × Sem Value)) (n : Nat) (s : Shared) (Q : PUnit → Shared → Prop), (∀ p ∈ ps, PairOk w A E ks p) → DI ks n s.heap d → n + ps.length ≤ 5000 →
    (∀ h' tk, DI ks (n + ps.length) h' d → Heap.SameBut d s.heap h' → Q PUnit.unit { s with heap := h', toks := tk }) →
    wpAny (model P0 w) A (forIn ps PUnit.unit fun (x : Sem Value × Sem Value) (_ : PUnit) => (do
      let kv ← x.1
      let vv ← holding [kv] x.2
      holding [kv, vv] (dictSet d kv vv)
      pure (ForInStep.yield PUnit.unit) : Sem (ForInStep PUnit))) Q E s
  | [], n, s, Q, _, x, _, h => by
    rw [List.forIn_nil]
    exact wpAny_pure (h s.heap s.toks x (Heap.SameBut.refl _ _))
  | p :: ps, n, s, Q, hp, x, hn, h => by
    rw [List.length_cons] at hn
    rw [List.forIn_cons]
    refine wpAny_bind (wpAny_bind ((hp p (.head _)).key s _ fun k t tk hk => ?_))
    refine wpAny_bind (wpAny_holding ((hp p (.head _)).val _ _ fun v tk' => ?_))
    refine wpAny_bind (wpAny_holding (di_set hk x (by omega) fun h₁ tk x₁ s₁ => wpAny_pure ?_))
    refine storeEach_ok ps (n + 1) _ Q (fun q hq => hp q (.tail _ hq)) x₁ (by omega) fun h' tk' x' s' => h h' tk' ?_ (s₁.trans s')
    rw [List.length_cons, show n + (ps.length + 1) = n + 1 + ps.length by omega]; exact x'

theorem DI.new (h : Heap) : DI ks 0 (h.push { cls := .type "dict", data := .dict #[] }) h.objs.size :=
  ⟨_, #[], 0, Heap.get?_push_size _ rfl, ⟨rfl, rfl, rfl⟩, rfl, Nat.le_refl _, fun e he => by simp at he⟩

theorem subDict_ok {ps : List (Sem Value × Sem Value)} {s : Shared} {Q : Addr → Shared → Prop} (hp : ∀ p ∈ ps, PairOk w A E ks p) (hn : ps.length ≤ 5000)
    (h : ∀ h' tk, DI ks ps.length h' s.heap.objs.size → (∀ b o, s.heap.get? b = some o → h'.get? b = some o) → Q s.heap.objs.size { s with heap := h', toks := tk }) : wpAny (model P0 w) A (subDict ps) Q E s := by
  have fin : ∀ h' tk, DI ks (0 + ps.length) h' s.heap.objs.size → Heap.SameBut s.heap.objs.size (s.heap.push { cls := .type "dict", data := .dict #[] }) h' → Q s.heap.objs.size { s with heap := h', toks := tk } := fun h' tk x sb =>
    h h' tk (by rw [Nat.zero_add] at x; exact x) fun b o e => (sb.2 b (Nat.ne_of_lt (Heap.lt_size e))).trans (Heap.get?_push_of_some _ e)
  unfold subDict
  refine wpAny_bind (wpAny_alloc (wpAny_bind (wpAny_holding ?_)))
  by_cases hl : ps.length ≤ 15
  · rw [if_pos hl]
    refine wpAny_bind (evalPairs_ok ps _ _ hp fun vs tk e hv => wpAny_holding ?_)
    refine wpAny_bind (storeAll_ok vs 0 _ _ hv (DI.new _) (by omega) fun h' tk' x sb => wpAny_pure (wpAny_pure (fin h' tk' (by rw [← e]; exact x) sb)))
  · rw [if_neg hl]
    refine wpAny_bind (wpAny_rule ?_)
    refine wpAny_bind (storeEach_ok ps 0 _ _ hp (DI.new _) (by omega) fun h' tk' x sb => wpAny_pure (wpAny_pure (fin h' tk' x sb)))

theorem sub_dict_dict : isSubtype (.type "dict") (.type "dict") = pure true := by rw [isSubtype_type]; kernel_rfl

theorem forIn_inv {M : Model} {α : Type} {f : α → PUnit → Sem (ForInStep PUnit)} (I : List α → Shared → Prop) (turn : ∀ x rest s, I (x :: rest) s → wpAny M A (f x PUnit.unit) (fun r s' => r = .yield PUnit.unit ∧ I rest s') E s) :
    ∀ (l : List α) (s : Shared) (Q : PUnit → Shared → Prop), I l s → (∀ s', I [] s' → Q PUnit.unit s') → wpAny M A (forIn l PUnit.unit f) Q E s
  | [], s, Q, i, h => by rw [List.forIn_nil]; exact wpAny_pure (h s i)
  | x :: l, s, Q, i, h => by
    rw [List.forIn_cons]
    refine wpAny_bind (wpAny_mono (turn x l s i) (fun r s' q => ?_) fun _ _ e => e)
    obtain ⟨rfl, q⟩ := q
    exact forIn_inv I turn l s' Q q h

theorem merge_ok {s : Shared} {d a : Addr} {n m : Nat} {Q : Unit → Shared → Prop} (had : a ≠ d) (hs : (a == sysModules) = false) (x : DI ks n s.heap d) (y : DI ks m s.heap a) (hn : n + m ≤ 5000)
    (h : ∀ h' tk, DI ks (n + m) h' d → Heap.SameBut d s.heap h' → Q () { s with heap := h', toks := tk }) : wpAny (model P0 w) A (mergeMapping d (.ref a) false) Q E s := by
  obtain ⟨oa, ea, pa, ha, hca, hda, hza, hka⟩ := y
  obtain ⟨od, ed, pd, hd, hcd, hdd, hzd, hkd⟩ := id x
  have hT : s.TypeIs (.ref a) "dict" := ⟨oa, ha, hca.1⟩
  unfold mergeMapping
  refine wpAny_bind (wpAny_isInstance hT sub_dict_dict ?_)
  rw [if_pos rfl]
  refine wpAny_bind (wpAny_specialOf hT PySem.F.slot_dict_iter.lookup ?_)
  dsimp only
  rw [show ((some (Value.builtin "dict.__iter__") == some (Value.builtin "dict.__iter__")) = true) from by decide]
  refine wpAny_bind (wpAny_pure ?_)
  dsimp only
  rw [hs, if_neg Bool.false_ne_true]
  have rest : wpAny (model P0 w) A (do
      let size := (← dictEntries a).size
      let epoch ← dictEpoch a
      for i in List.range size do
        let some e := (← dictEntries a)[i]? | unsupported "dict.changed-during-merge"
        holding [e.key, e.val] do
          if false then
            if (← dictFind d e.key e.hash).isSome then rule "dict.merge.duplicate-key"; raiseNew (← newExc (.type "KeyError") [e.key])
          dictPut d e.hash e.key e.val
        if (← dictEpoch a) != epoch then unsupported "dict.changed-during-merge") Q E s := by
    refine wpAny_bind (wpAny_dictEntries ha hda (wpAny_bind (wpAny_dictEpoch ha hda ?_)))
    refine wpAny_bind (forIn_inv (I := fun l s' => ∃ h' tk, s' = { s with heap := h', toks := tk } ∧ (∀ i ∈ l, i < ea.size) ∧ l.length ≤ ea.size ∧ DI ks (n + (ea.size - l.length)) h' d ∧ Heap.SameBut d s.heap h')
      (fun i l s' I => ?_) (List.range ea.size) s _ ⟨s.heap, s.toks, rfl, fun i hi => List.mem_range.mp hi, by simp, by simpa using x, Heap.SameBut.refl _ _⟩ fun s' I => ?_)
    · obtain ⟨h₁, tk₁, rfl, hi, hl, x₁, s₁⟩ := I
      have ha₁ : h₁.get? a = some oa := (s₁.2 a had).trans ha
      have hlt := hi i (.head _)
      rw [List.length_cons] at hl
      obtain ⟨k, t, e1, e2, e3⟩ := hka ea[i] (Array.getElem_mem hlt)
      refine wpAny_bind (wpAny_dictEntries ha₁ hda ?_)
      rw [Array.getElem?_eq_getElem hlt]
      dsimp only
      rw [if_neg Bool.false_ne_true, e1, e2]
      refine wpAny_bind (wpAny_holding (di_put e3 x₁ (by omega) fun h₂ tk₂ x₂ s₂ => ?_))
      have ha₂ : h₂.get? a = some oa := (s₂.2 a had).trans ha₁
      refine wpAny_bind (wpAny_dictEpoch ha₂ hda ?_)
      rw [if_neg (by simp)]
      refine wpAny_pure ⟨rfl, h₂, tk₂, rfl, fun j hj => hi j (.tail _ hj), by omega, ?_, s₁.trans s₂⟩
      rw [List.length_cons] at x₂
      exact x₂.mono (by omega)
    · obtain ⟨h₁, tk₁, rfl, _, _, x₁, s₁⟩ := I
      exact wpAny_pure (h _ _ (x₁.mono (by simp; omega)) s₁)
  refine wpAny_bind (wpAny_dictEntries hd hdd ?_)
  split
  · refine wpAny_bind (wpAny_dictEntries ha hda ?_)
    refine wpAny_bind ?_
    rw [← Array.forIn_toList]
    refine forIn_inv (I := fun l s' => s' = s ∧ ∀ e ∈ l, ∃ k t, e.key = .int k t) (fun e l s' I => ?_) ea.toList s _ ⟨rfl, fun e he => ?_⟩ fun s' I => ?_
    · obtain ⟨rfl, I⟩ := I
      obtain ⟨k, t, q⟩ := I e (.head _)
      rw [q]
      exact wpAny_pure ⟨rfl, rfl, fun x hx => I x (.tail _ hx)⟩
    · obtain ⟨k, t, q, _⟩ := hka e (Array.mem_toList_iff.mp he)
      exact ⟨k, t, q⟩
    · obtain ⟨rfl, _⟩ := I
      exact rest
  · exact rest

def Main (ks : List Int) (s₀ : Heap) (n : Nat) (m : Option Addr) (h : Heap) : Prop :=
  (∀ b o, s₀.get? b = some o → h.get? b = some o) ∧ s₀.objs.size ≤ h.objs.size ∧ match m with | none => True | some d => s₀.objs.size ≤ d ∧ DI ks n h d

theorem loop_display {s₀ : Heap} {f : (Option (Sem Value) × Sem Value) → (Option Addr × List (Sem Value × Sem Value)) → Sem (ForInStep (Option Addr × List (Sem Value × Sem Value)))}
    (fl : List (Sem Value × Sem Value) → Option Addr → Sem (Option Addr))
    (hf1 : ∀ (p : Sem Value × Sem Value) m run, ((run ++ [p]).length == 17) = false → f (some p.1, p.2) (m, run) = pure (.yield (m, run ++ [p])))
    (hf2 : ∀ (p : Sem Value × Sem Value) m run, ((run ++ [p]).length == 17) = true → f (some p.1, p.2) (m, run) = (do let m' ← fl (run ++ [p]) m; pure (.yield (m', []))))
    (hfl : ∀ (run : List (Sem Value × Sem Value)) m n (s : Shared) (Q : Option Addr → Shared → Prop), (∀ p ∈ run, PairOk w A E ks p) → n + run.length ≤ 5000 → Main ks s₀ n m s.heap →
      (∀ m' h' tk, Main ks s₀ (n + run.length) m' h' → Q m' { s with heap := h', toks := tk }) → wpAny (model P0 w) A (fl run m) Q E s) :
    ∀ (ps run : List (Sem Value × Sem Value)) (m : Option Addr) (n : Nat) (s : Shared) (Q : (Option Addr × List (Sem Value × Sem Value)) → Shared → Prop), (∀ p ∈ ps, PairOk w A E ks p) → (∀ p ∈ run, PairOk w A E ks p) → n + run.length + ps.length ≤ 5000 →
      Main ks s₀ n m s.heap → (∀ m' run' n' h' tk, (∀ p ∈ run', PairOk w A E ks p) → n' + run'.length ≤ 5000 → Main ks s₀ n' m' h' → Q (m', run') { s with heap := h', toks := tk }) →
      wpAny (model P0 w) A (forIn (ps.map fun p => (some p.1, p.2)) (m, run) f) Q E s
  | [], run, m, n, s, Q, _, hr, hn, i, h => by
    rw [List.map_nil, List.forIn_nil]
    exact wpAny_pure (h m run n s.heap s.toks hr (by simpa using hn) i)
  | p :: ps, run, m, n, s, Q, hp, hr, hn, i, h => by
    have hr' : ∀ q ∈ run ++ [p], PairOk w A E ks q := fun q hq => by
      rcases List.mem_append.mp hq with hq | hq
      · exact hr q hq
      · obtain rfl : q = p := by simpa using hq
        exact hp q (.head _)
    rw [List.length_cons] at hn
    rw [List.map_cons, List.forIn_cons]
    cases e : ((run ++ [p]).length == 17) with
    | false =>
      rw [hf1 p m run e]
      refine wpAny_bind (wpAny_pure ?_)
      exact loop_display fl hf1 hf2 hfl ps (run ++ [p]) m n s Q (fun q hq => hp q (.tail _ hq)) hr' (by simp; omega) i h
    | true =>
      rw [hf2 p m run e]
      refine wpAny_bind (wpAny_bind (hfl (run ++ [p]) m n s _ hr' (by simp; omega) i fun m' h' tk i' => wpAny_pure ?_))
      refine loop_display fl hf1 hf2 hfl ps [] m' (n + (run ++ [p]).length) _ Q (fun q hq => hp q (.tail _ hq)) (fun q hq => nomatch hq) (by simp; omega) i' h

def flush (run : List (Sem Value × Sem Value)) (main : Option Addr) : Sem (Option Addr) := do
    if run.isEmpty then return main
    match main with
    | none => return some (← subDict run)
    | some d =>
      let sub ← holding [.ref d] (subDict run)
      (holding [.ref d, .ref sub] (mergeMapping d (.ref sub) false)).onRaise fun x => do let _ ← holding [.ref d, x] (runValue (.builtin "proto.let_go" {}))
      return some d

theorem wpAny_alloc_dict {s : Shared} {Q : Value → Shared → Prop} {M : Model} (h : Q (.ref s.heap.objs.size) { s with heap := s.heap.push { cls := .type "dict", data := .dict #[] } }) : wpAny M A newDict Q E s := by
  unfold newDict
  exact wpAny_newObj_type h (by size_fits)

theorem flush_ok {s₀ : Heap} (hs : sysModules < s₀.objs.size) (run : List (Sem Value × Sem Value)) (m : Option Addr) (n : Nat) (s : Shared) (Q : Option Addr → Shared → Prop) (hr : ∀ p ∈ run, PairOk w A E ks p) (hn : n + run.length ≤ 5000)
    (i : Main ks s₀ n m s.heap) (h : ∀ m' h' tk, Main ks s₀ (n + run.length) m' h' → Q m' { s with heap := h', toks := tk }) : wpAny (model P0 w) A (flush run m) Q E s := by
  obtain ⟨k, z, i⟩ := i
  unfold flush
  cases hE : run.isEmpty with
  | true =>
    obtain rfl : run = [] := List.isEmpty_iff.mp hE
    exact wpAny_pure (h m s.heap s.toks ⟨k, z, i⟩)
  | false =>
    rw [if_neg Bool.false_ne_true]
    cases m with
    | none =>
      refine wpAny_bind (subDict_ok hr (by omega) fun h' tk x k' => wpAny_pure (h _ _ _ ⟨fun b o e => k' b o (k b o e), ?_, z, x.mono (by omega)⟩))
      obtain ⟨o, _, _, ho, _⟩ := x
      exact Nat.le_of_lt (Nat.lt_of_le_of_lt z (Heap.lt_size ho))
    | some d =>
      obtain ⟨l, x⟩ := i
      refine wpAny_bind (wpAny_holding (subDict_ok hr (by omega) fun h' tk y k' => ?_))
      have had : s.heap.objs.size ≠ d := by
        obtain ⟨o, _, _, ho, _⟩ := x
        exact Nat.ne_of_gt (Heap.lt_size ho)
      have hsz : (s.heap.objs.size == sysModules) = false := beq_eq_false_iff_ne.mpr (Nat.ne_of_gt (Nat.lt_of_lt_of_le hs z))
      refine wpAny_bind (wpAny_onRaise (wpAny_holding (merge_ok (n := n) (m := run.length) had hsz (x.at fun o e => k' _ _ e) y hn fun h₂ tk₂ x₂ s₂ => wpAny_pure (h _ _ _ ⟨fun b o e => ?_, ?_, l, x₂⟩))))
      · refine (s₂.2 b ?_).trans (k' b o (k b o e))
        exact Nat.ne_of_lt (Nat.lt_of_lt_of_le (Heap.lt_size e) l)
      · obtain ⟨o, _, _, ho, _⟩ := x₂
        exact Nat.le_of_lt (Nat.lt_of_le_of_lt l (Heap.lt_size ho))

theorem display_ok {ps : List (Sem Value × Sem Value)} {s : Shared} {Q : Value → Shared → Prop} (hp : ∀ p ∈ ps, PairOk w A E ks p) (hn : ps.length ≤ 5000) (hs : sysModules < s.heap.objs.size)
    (h : ∀ d h' tk, s.heap.objs.size ≤ d → DI ks 5000 h' d → (∀ b o, s.heap.get? b = some o → h'.get? b = some o) → Q (.ref d) { s with heap := h', toks := tk }) :
    wpAny (model P0 w) A (dictDisplay (ps.map fun p => (some p.1, p.2))) Q E s := by
  unfold dictDisplay
  dsimp only
  refine wpAny_bind (loop_display (s₀ := s.heap) (ks := ks) (fl := flush) (fun p m run e => ?_) (fun p m run e => ?_) (fun run m n s' Q' => flush_ok hs run m n s' Q') ps [] none 0 s _ hp (fun q hq => nomatch hq) (by simpa using hn) ⟨fun _ _ e => e, Nat.le_refl _, trivial⟩ fun m' run' n' h' tk hr' hn' i' => ?_)
  · simp only [e, Bool.false_eq_true, if_false]
  · simp only [e, if_true]
    rfl
  · refine wpAny_bind (m := flush run' m') (flush_ok hs run' m' n' _ _ hr' hn' i' fun m₂ h₂ tk₂ i₂ => ?_)
    obtain ⟨k, z, i₂⟩ := i₂
    cases m₂ with
    | none =>
      refine wpAny_alloc_dict ?_
      refine h _ _ _ z ((DI.new _).mono (Nat.zero_le _)) fun b o e => Heap.get?_push_of_some _ (k b o e)
    | some d => exact wpAny_pure (h d h₂ tk₂ i₂.1 (i₂.2.mono hn') k)

def DX (w : World) (k : Addr) (ks : List Int) (h : Heap) (v : Value) : Prop := ∃ a f, v = .ref a ∧ k < a ∧ h.MapOf (intKind P0 w) a f ∧ ∀ i, ks.contains i = false → f i = none
theorem DX.stays (w : World) (k : Addr) (ks : List Int) : Stays k (DX w k ks) := fun h h' v ⟨a, f, e, l, ⟨o, es, ep, ho, r⟩, m⟩ kp => ⟨a, f, e, l, ⟨o, es, ep, kp _ _ l ho, r⟩, m⟩

theorem DI.mapOf {n : Nat} {h : Heap} {d : Addr} (x : DI ks n h d) : ∃ f, h.MapOf (intKind P0 w) d f ∧ ∀ i, ks.contains i = false → f i = none := by
  obtain ⟨o, es, ep, ho, hc, hd, hz, hk⟩ := x
  refine ⟨_, ⟨o, es, ep, ho, hc, hd, keysOf_DI hk, fun _ => rfl⟩, fun i hi => ?_⟩
  unfold findBy
  rw [Option.map_eq_none_iff, Array.find?_eq_none]
  intro e he
  obtain ⟨k, t, e1, _, e3⟩ := hk e he
  rw [e1]
  intro q
  have q' : k = i := Value.isInt_inj (.int k t) k i (intKind_is P0 w k t) q
  subst q'
  rw [List.contains_iff_mem.mpr e3] at hi
  cases hi

def intKey? : Option Expr → Option Int
  | some (.Constant (.int i) _ _) => some i
  | _ => none
def isStrE : Expr → Bool
  | .Constant (.str _) _ _ => true
  | _ => false

theorem dict_shape {env : Env} {pos : Pos} : ∀ (keys : List (Option Expr)) (values : List Expr) (ns : List Int), keys.map intKey? = ns.map some → values.all isStrE = true → (∀ n ∈ ns, n ∈ ks) →
    ∃ ps : List (Sem Value × Sem Value), (evalEachOpt keys env).zip ((evalEach values env).map fun v => do let x ← v; standAt pos; pure x) = ps.map (fun (p : Sem Value × Sem Value) => (some p.1, p.2)) ∧ (∀ p ∈ ps, PairOk w A E ks p) ∧ ps.length ≤ keys.length
  | [], values, ns, _, _, _ => ⟨[], rfl, (fun p hp => nomatch hp), Nat.le_refl _⟩
  | _ :: _, _, [], e, _, _ => by cases e
  | key :: keys, [], n :: ns, e, _, _ => ⟨[], by cases key <;> rfl, (fun p hp => nomatch hp), Nat.zero_le _⟩
  | key :: keys, v :: values, n :: ns, e, hv, hn => by
    rw [List.map_cons, List.map_cons] at e
    injection e with e1 e2
    rw [List.all_cons, Bool.and_eq_true] at hv
    obtain ⟨ps, h1, h2, h3⟩ := dict_shape keys values ns e2 hv.2 fun m hm => hn m (.tail _ hm)
    cases key with
    | none => cases e1
    | some key =>
      cases key with
      | Constant cst kk kp =>
        cases cst with
        | int i =>
          obtain rfl : i = n := by simpa [intKey?] using e1
          cases v with
          | Constant cv kv pv =>
            cases cv with
            | str x =>
              refine ⟨(eval (.Constant (.int i) kk kp) env, do let x ← eval (.Constant (.str x) kv pv) env; standAt pos; pure x) :: ps, ?_, fun p hp => ?_, ?_⟩
              · rw [List.map_cons, ← h1]; rfl
              · rcases List.mem_cons.mp hp with rfl | hp
                · exact ⟨fun s Q h => wpAny_mkInt (h i _ _ (hn i (.head _))), fun s Q h => wpAny_bind (wpAny_mkText (wpAny_bind (wpAny_standAt (wpAny_pure (h _ _)))))⟩
                · exact h2 p hp
              · simp only [List.length_cons]; omega
            | _ => cases hv.1
          | _ => cases hv.1
        | _ => cases e1
      | _ => cases e1

theorem gives_dict {c Pl F : Addr} {mb : Str → Option Value} {keys : List (Option Expr)} {values : List Expr} {pos : Pos} (h1 : keys.map intKey? = ks.map some) (h2 : values.all isStrE = true) (h3 : keys.length ≤ 5000) :
    Gives (model P0 w) A E c Pl F mb (.Dict keys values pos) (DX w Pl ks) := .mk fun s mg Q hg hb hn hB hP h => by
  obtain ⟨ps, e1, e2, e3⟩ := dict_shape (w := w) (A := A) (E := E) (env := mainEnv P0 c F) (pos := pos) keys values ks h1 h2 fun _ hm => hm
  rw [arm_eval_Dict, e1]
  refine wpAny_bind (wpAny_standAt ?_)
  obtain ⟨oP, eP⟩ := hP
  have hlt : sysModules < s.heap.objs.size := Nat.lt_trans (by decide) hg.lt
  refine display_ok e2 (by omega) hlt fun d h' tk l x k => ?_
  obtain ⟨f, hm, hf⟩ := x.mapOf (w := w)
  exact h _ _ _ ⟨d, f, rfl, Nat.lt_of_lt_of_le (Heap.lt_size eP) l, hm, hf⟩ k
end
end Mine
end

section
open PySem PySem.W PyProof.Rows PySem.Calls
set_option maxRecDepth 100000
set_option linter.unusedVariables false
namespace Mine
def FL (b : UInt64) (h : Heap) (v : Value) : Prop := ∃ t, v = .float b t
theorem FL.stays (k : Addr) (b : UInt64) : Stays k (FL b) := fun h h' v x _ => x

def oneThird : UInt64 := Float64.div 0x3ff0000000000000 0x4008000000000000
def oneSixth : UInt64 := Float64.div 0x3ff0000000000000 0x4018000000000000
def twoThird : UInt64 := Float64.div 0x4000000000000000 0x4008000000000000

def stAt (i : Nat) : Stmt := P0.main.body.getD i (.Pass default)
def keysOfSt : Stmt → List Int
  | .Assign _ (.Dict keys _ _) _ => keys.filterMap intKey?
  | _ => []
def keys0 : List Int := keysOfSt (stAt 13)

def b1s : List Int := [173, 847, 6150, 6155, 6156, 6157, 8203, 8204, 8205, 8288, 65279] ++ rangeInts 65024 1 (65040 - 65024 : Int).toNat
def c6s : List Int := rangeInts 65529 1 (65534 - 65529 : Int).toNat
def c7s : List Int := rangeInts 12272 1 (12284 - 12272 : Int).toNat
def c8s : List Int := ([832, 833, 8206, 8207] ++ rangeInts 8234 1 (8239 - 8234 : Int).toNat) ++ rangeInts 8298 1 (8304 - 8298 : Int).toNat
def c9s : List Int := [917505] ++ rangeInts 917536 1 (917632 - 917536 : Int).toNat

def phi (w : World) (k : Addr) (x : Str) : Heap → Value → Prop :=
  if x = "ONE_THIRD" then FL oneThird else if x = "ONE_SIXTH" then FL oneSixth else if x = "TWO_THIRD" then FL twoThird else
  if x = "b1_set" then SI w k b1s else if x = "b3_exceptions" then DX w k keys0 else if x = "c6_set" then SI w k c6s else if x = "c7_set" then SI w k c7s else
  if x = "c8_set" then SI w k c8s else if x = "c9_set" then SI w k c9s else fun _ _ => True

theorem phi.stays (w : World) (k : Addr) (x : Str) : Stays k (phi w k x) := by
  unfold phi
  repeat' split
  all_goals first | exact FL.stays _ _ | exact SI.stays _ _ _ | exact DX.stays _ _ _ | exact fun _ _ _ _ _ => trivial

def nmOf : Stmt → Str
  | .FunctionDef n .. => n
  | .Assign [.Name x _] _ _ => x
  | _ => ""
def isFn : Stmt → Bool
  | .FunctionDef .. => true
  | _ => false
def lineOf : Stmt → Nat
  | .FunctionDef _ _ _ _ _ _ _ _ _ pos => pos.line
  | _ => 0
def keepSt (st : Stmt) : Bool := isFn st || nmOf st != "__name__"
def valOfSt (w : World) (k : Addr) (st : Stmt) : List (Str × (Heap → Value → Prop)) := if isFn st then [] else if keepSt st then [(nmOf st, phi w k (nmOf st))] else []

def StOk (w : World) (A : Around) (E : Value → Shared → Prop) (c Pl F : Addr) (mb : Str → Option Value) : Stmt → Prop
  | .Assign [.Name x px] e pos => P0.main.scope.names.lookup x = some .local ∧ x ∉ laidNames ++ [("__builtins__" : Str)] ∧ (∀ env, swapsWith e (some (.Name x px)) pos.line env = pure false) ∧ Gives (model P0 w) A E c Pl F mb e (phi w Pl x)
  | st => okDef st = true

def relSt (a b : Stmt) : Bool := (!keepSt a || nmOf a != nmOf b) && (!isFn a || !isFn b || decide (lineOf a < lineOf b))
theorem relSt.one {a b : Stmt} (h : relSt a b = true) : keepSt a = true → nmOf a ≠ nmOf b := fun q => by
  simp only [relSt, q, Bool.not_true, Bool.false_or, Bool.and_eq_true, bne_iff_ne, ne_eq] at h
  exact h.1
theorem relSt.two {a b : Stmt} (h : relSt a b = true) : isFn a = true → isFn b = true → lineOf a < lineOf b := fun q q' => by
  simp only [relSt, q, q', Bool.not_true, Bool.false_or, Bool.and_eq_true, decide_eq_true_eq] at h
  exact h.2

section
variable {w : World} {A : Around} {E : Value → Shared → Prop} {s₀ : Shared} {mg₀ mb : Str → Option Value} {c Pl F : Addr}

theorem okDef_rec {st : Stmt} (h : okDef st = true) : ∃ d, DefRec.ofStmt? st = some d ∧ d.stmt = st ∧ nmOf st = d.name ∧ lineOf st = d.pos.line ∧ isFn st = true := by
  unfold okDef at h
  split at h
  · rename_i name params body scope qn pos
    simp only [Bool.and_eq_true, beq_iff_eq] at h
    obtain ⟨⟨⟨⟨⟨⟨⟨⟨⟨hq, _⟩, _⟩, _⟩, _⟩, _⟩, _⟩, _⟩, _⟩, _⟩ := h
    subst hq
    exact ⟨_, rfl, rfl, rfl, rfl, rfl⟩
  · cases h

theorem execs_top : ∀ (sts : List Stmt) (l : List (Pos × Addr)) (fns : List DefRec) (vals : List (Str × (Heap → Value → Prop))) (mg : Str → Option Value) (s : Shared) (Q : Flow → Shared → Prop),
    TI s₀ mg₀ mb c Pl l fns vals mg s → (∀ x ∈ vals, Stays Pl x.2) → (∀ st ∈ sts, StOk w A E c Pl F mb st) → sts.Pairwise (fun a b => relSt a b = true) →
    (∀ q ∈ l, ∀ st ∈ sts, isFn st = true → q.1.line < lineOf st) → (∀ e ∈ fns, ∀ st ∈ sts, e.name ≠ nmOf st) → (∀ y ∈ vals, ∀ st ∈ sts, y.1 ≠ nmOf st) →
    (∀ s' mg' l', TI s₀ mg₀ mb c Pl l' (fns ++ sts.filterMap DefRec.ofStmt?) (vals ++ sts.flatMap (valOfSt w Pl)) mg' s' → Q .next s') →
    wpAny (model P0 w) A (execs sts (mainEnv P0 c F)) Q E s
  | [], l, fns, vals, mg, s, Q, I, hv, ok, hp, hl, h1, h2, h => wpAny_execs_nil (h s mg l (by simpa using I))
  | st :: sts, l, fns, vals, mg, s, Q, I, hv, ok, hp, hl, h1, h2, h => by
    obtain ⟨hp1, hp2⟩ := List.pairwise_cons.mp hp
    have ok1 := ok st (.head _)
    have rest := fun l fns vals mg s I hv => execs_top sts l fns vals mg s Q I hv (fun x hx => ok x (.tail _ hx)) hp2
    refine wpAny_execs_cons ?_
    have fnCase : okDef st = true → wpAny (model P0 w) A (exec st (mainEnv P0 c F)) (fun f s' => match f with | .next => wpAny (model P0 w) A (execs sts (mainEnv P0 c F)) Q E s' | f => Q f s') E s := by
      intro hok
      obtain ⟨d, e1, e2, e3, e4, e5⟩ := okDef_rec hok
      have hstep := step_fn (M := model P0 w) (A := A) (E := E) (F := F) (d := d) I hv (by rw [e2]; exact hok) (fun q hq => by rw [← e4]; exact hl q hq st (.head _) e5)
        (fun e he => by rw [← e3]; exact h1 e he st (.head _)) (fun y hy => by rw [← e3]; exact h2 y hy st (.head _)) (Q := fun f s' => match f with | .next => wpAny (model P0 w) A (execs sts (mainEnv P0 c F)) Q E s' | f => Q f s')
      rw [e2] at hstep
      refine hstep fun s' mg' c' I' => rest _ _ _ _ _ I' hv (fun q hq x hx hf => ?_) (fun e he x hx => ?_) (fun y hy x hx => h2 y hy x (.tail _ hx)) fun s'' mg'' l'' I'' => h s'' mg'' l'' ?_
      · rcases List.mem_append.mp hq with hq | hq
        · exact hl q hq x (.tail _ hx) hf
        · obtain rfl : q = (d.pos, c') := by simpa using hq
          show d.pos.line < _
          rw [← e4]
          exact relSt.two (hp1 x hx) e5 hf
      · rcases List.mem_append.mp he with he | he
        · exact h1 e he x (.tail _ hx)
        · obtain rfl : e = d := by simpa using he
          rw [← e3]
          exact relSt.one (hp1 x hx) (by unfold keepSt; rw [e5]; rfl)
      · rw [List.filterMap_cons, e1, List.flatMap_cons]
        have : valOfSt w Pl st = [] := by unfold valOfSt; rw [e5]; rfl
        rw [this, List.nil_append]
        rw [List.append_assoc] at I''
        exact I''
    unfold StOk at ok1
    split at ok1
    · rename_i x px e pos
      obtain ⟨k1, k2, k3, k4⟩ := ok1
      refine step_val I hv (phi.stays w Pl x) k1 k2 k3 k4 (fun e he => h1 e he _ (.head _)) (fun y hy => h2 y hy _ (.head _)) fun s' mg' I' => ?_
      have eF : (Stmt.Assign [Expr.Name x px] e pos :: sts).filterMap DefRec.ofStmt? = sts.filterMap DefRec.ofStmt? := rfl
      by_cases hk : keepSt (.Assign [.Name x px] e pos) = true
      · refine rest _ _ _ _ _ I' (fun y hy => ?_) (fun q hq z hz => hl q hq z (.tail _ hz)) (fun e he z hz => h1 e he z (.tail _ hz)) (fun y hy z hz => ?_) fun s'' mg'' l'' I'' => h s'' mg'' l'' ?_
        · rcases List.mem_append.mp hy with hy | hy
          · exact hv y hy
          · obtain rfl : y = (x, phi w Pl x) := by simpa using hy
            exact phi.stays _ _ _
        · rcases List.mem_append.mp hy with hy | hy
          · exact h2 y hy z (.tail _ hz)
          · obtain rfl : y = (x, phi w Pl x) := by simpa using hy
            exact relSt.one (hp1 z hz) hk
        · have : valOfSt w Pl (.Assign [.Name x px] e pos) = [(x, phi w Pl x)] := by unfold valOfSt; rw [if_neg (show ¬ (isFn (Stmt.Assign [Expr.Name x px] e pos) = true) from Bool.false_ne_true), if_pos hk]; rfl
          rw [eF, List.flatMap_cons, this, ← List.append_assoc]
          exact I''
      · refine rest _ _ _ _ _ I'.forget hv (fun q hq z hz => hl q hq z (.tail _ hz)) (fun e he z hz => h1 e he z (.tail _ hz)) (fun y hy z hz => h2 y hy z (.tail _ hz)) fun s'' mg'' l'' I'' => h s'' mg'' l'' ?_
        have : valOfSt w Pl (.Assign [.Name x px] e pos) = [] := by unfold valOfSt; rw [if_neg (show ¬ (isFn (Stmt.Assign [Expr.Name x px] e pos) = true) from Bool.false_ne_true), if_neg hk]
        rw [eF, List.flatMap_cons, this, List.nil_append]
        exact I''
    · exact fnCase ok1
end
end Mine
end

section
open PySem PySem.W PyProof.Rows PySem.Calls
set_option maxRecDepth 100000
set_option linter.unusedVariables false
namespace Mine
theorem body_stAt : P0.main.body = (List.range 40).map stAt := by kernel_rfl
theorem body_rel : (P0.main.body).Pairwise (fun a b => relSt a b = true) := by decide +kernel
theorem behind0 : behindTheImports P0 = P0.main.body := by kernel_rfl
theorem anns0 : hasAnns P0.main.body = false := by decide +kernel
theorem doc0 : docOf P0.main.body = none := by decide +kernel

section
variable {w : World} {A : Around} {E : Value → Shared → Prop} {c Pl F : Addr} {mb : Str → Option Value}

theorem gives_float {a b : UInt64} {k₁ k₂ : Nat} {p1 p2 p3 : Pos} (hh : A.handled = none) (hz : Float64.isZero b = false) :
    Gives (model P0 w) A E c Pl F mb (.BinOp (.Constant (.float a) k₁ p1) .Div (.Constant (.float b) k₂ p2) p3) (FL (Float64.div a b)) := .mk fun s mg Q hg hb hn hB hP h => by
  refine wpAny_BinOp (wpAny_mkFloat (wpAny_mkFloat ?_))
  refine truediv_float_or hh (fun q => by rw [hz] at q; cases q) fun _ => h _ _ _ ⟨_, rfl⟩ fun _ _ e => e

theorem ok0 : StOk w A E c Pl F mb (stAt 0) := ⟨by decide +kernel, by decide +kernel, fun env => rfl, gives_str⟩
theorem ok1 (hh : A.handled = none) : StOk w A E c Pl F mb (stAt 1) := ⟨by decide +kernel, by decide +kernel, fun env => rfl, gives_float hh (by decide +kernel)⟩
theorem ok2 (hh : A.handled = none) : StOk w A E c Pl F mb (stAt 2) := ⟨by decide +kernel, by decide +kernel, fun env => rfl, gives_float hh (by decide +kernel)⟩
theorem ok3 (hh : A.handled = none) : StOk w A E c Pl F mb (stAt 3) := ⟨by decide +kernel, by decide +kernel, fun env => rfl, gives_float hh (by decide +kernel)⟩
theorem ok10 : StOk w A E c Pl F mb (stAt 10) := ⟨by decide +kernel, by decide +kernel, fun env => rfl, gives_str⟩
theorem ok25 : StOk w A E c Pl F mb (stAt 25) := ⟨by decide +kernel, by decide +kernel, fun env => rfl, gives_str⟩

theorem ok11 (hh : A.handled = none) : StOk w A E c Pl F mb (stAt 11) := ⟨by decide +kernel, by decide +kernel, fun env => rfl,
  gives_set (ns := b1s) hh (gives_add (gives_display (by kernel_rfl) (by kernel_rfl) (by decide)) (gives_list_range hh (by decide) (by decide) (by decide) (by decide)) (by decide)) (by decide) fun _ => rfl⟩
theorem ok17 (hh : A.handled = none) : StOk w A E c Pl F mb (stAt 17) := ⟨by decide +kernel, by decide +kernel, fun env => rfl, gives_set_range hh (by decide) (by decide) (by decide) (by decide)⟩
theorem ok19 (hh : A.handled = none) : StOk w A E c Pl F mb (stAt 19) := ⟨by decide +kernel, by decide +kernel, fun env => rfl, gives_set_range hh (by decide) (by decide) (by decide) (by decide)⟩
theorem ok21 (hh : A.handled = none) : StOk w A E c Pl F mb (stAt 21) := ⟨by decide +kernel, by decide +kernel, fun env => rfl,
  gives_set (ns := c8s) hh (gives_add (gives_add (gives_display (by kernel_rfl) (by kernel_rfl) (by decide)) (gives_list_range hh (by decide) (by decide) (by decide) (by decide)) (by decide))
    (gives_list_range hh (by decide) (by decide) (by decide) (by decide)) (by decide)) (by decide) fun _ => rfl⟩
theorem ok23 (hh : A.handled = none) : StOk w A E c Pl F mb (stAt 23) := ⟨by decide +kernel, by decide +kernel, fun env => rfl,
  gives_set (ns := c9s) hh (gives_add (gives_display (by kernel_rfl) (by kernel_rfl) (by decide)) (gives_list_range hh (by decide) (by decide) (by decide) (by decide)) (by decide)) (by decide) fun _ => rfl⟩

def dictKeysOf : Stmt → List (Option Expr)
  | .Assign _ (.Dict keys _ _) _ => keys
  | _ => []
def dictValsOf : Stmt → List Expr
  | .Assign _ (.Dict _ vs _) _ => vs
  | _ => []
theorem dict_keys : (dictKeysOf (stAt 13)).map intKey? = keys0.map some := by kernel_rfl
theorem dict_vals : (dictValsOf (stAt 13)).all isStrE = true := by kernel_rfl
theorem dict_len : (dictKeysOf (stAt 13)).length ≤ 5000 := by decide +kernel
def pxOf : Stmt → Pos
  | .Assign [.Name _ p] _ _ => p
  | _ => default
def psOf : Stmt → Pos
  | .Assign _ _ p => p
  | _ => default
def dposOf : Stmt → Pos
  | .Assign _ (.Dict _ _ p) _ => p
  | _ => default
theorem stOk_mk {st : Stmt} {x : Str} {px pos : Pos} {e : Expr} (hst : st = .Assign [.Name x px] e pos) (h1 : P0.main.scope.names.lookup x = some .local) (h2 : x ∉ laidNames ++ [("__builtins__" : Str)]) (h3 : ∀ env, swapsWith e (some (.Name x px)) pos.line env = pure false)
    (h4 : Gives (model P0 w) A E c Pl F mb e (phi w Pl x)) : StOk w A E c Pl F mb st := by rw [hst]; exact ⟨h1, h2, h3, h4⟩
theorem st13 : stAt 13 = .Assign [.Name "b3_exceptions" (pxOf (stAt 13))] (.Dict (dictKeysOf (stAt 13)) (dictValsOf (stAt 13)) (dposOf (stAt 13))) (psOf (stAt 13)) := by kernel_rfl
theorem ok13 : StOk w A E c Pl F mb (stAt 13) := stOk_mk st13 (by decide +kernel) (by decide +kernel) (fun env => rfl) (gives_dict dict_keys dict_vals dict_len)

def defIdx : List Nat := [4, 5, 6, 7, 8, 9, 12, 14, 15, 16, 18, 20, 22, 24, 26, 27, 28, 29, 30, 31, 32, 33, 34, 35, 36, 37, 38, 39]
theorem defs_ok : (defIdx.all fun i => okDef (stAt i)) = true := by decide +kernel
theorem stOk_def {st : Stmt} (h : okDef st = true) : StOk w A E c Pl F mb st := by
  unfold okDef at h
  split at h
  · exact h
  · cases h

theorem all_ok (hh : A.handled = none) : ∀ st ∈ P0.main.body, StOk w A E c Pl F mb st := by
  intro st hst
  rw [body_stAt] at hst
  obtain ⟨i, hi, rfl⟩ := List.mem_map.mp hst
  by_cases hd : i ∈ defIdx
  · exact stOk_def (List.all_eq_true.mp defs_ok i hd)
  · have hi' : i ∈ [0, 1, 2, 3, 10, 11, 13, 17, 19, 21, 23, 25] := by
      have key : ∀ j, j < 40 → j ∉ defIdx → j ∈ [0, 1, 2, 3, 10, 11, 13, 17, 19, 21, 23, 25] := by decide
      exact key i (List.mem_range.mp hi) hd
    simp only [List.mem_cons, List.not_mem_nil, or_false] at hi'
    rcases hi' with rfl | rfl | rfl | rfl | rfl | rfl | rfl | rfl | rfl | rfl | rfl | rfl
    · exact ok0
    · exact ok1 hh
    · exact ok2 hh
    · exact ok3 hh
    · exact ok10
    · exact ok11 hh
    · exact ok13
    · exact ok17 hh
    · exact ok19 hh
    · exact ok21 hh
    · exact ok23 hh
    · exact ok25
end

structure PH (w : World) (h : Heap) : Prop where
  out : ∃ mg mb k, h.Ns mainGlobals mg ∧ h.Ns builtinsNs mb ∧ (∀ x : Str, x ≠ "__name__" → mb x = bootBuiltins x) ∧ h.NoLimit ∧ (∀ x, x ∉ bootMainNames → x ∉ P0.boundNames → mg x = none) ∧
    (∀ d ∈ P0.main.body.filterMap DefRec.ofStmt?, h.HasFn mg k d) ∧ (∀ x ∈ P0.main.body.flatMap (valOfSt w k), ∃ v, mg x.1 = some v ∧ x.2 h v) ∧ mainGlobals < k

theorem PH.keeps {w : World} {h h' : Heap} (x : PH w h) (k : ∀ b o, h.get? b = some o → h'.get? b = some o) : PH w h' := by
  obtain ⟨mg, mb, kk, a, b, c, d, e, f, g, lw⟩ := x.out
  refine ⟨mg, mb, kk, a.keeps k, b.keeps k, c, d.keeps k, e, fun r hr => ?_, fun y hy => ?_, lw⟩
  · obtain ⟨a₀, o₀, pm₀, cd₀, doc₀, hb₀, ho₀, hd₀, hc₀, la₀, lc₀⟩ := f r hr
    exact ⟨a₀, o₀, pm₀, cd₀, doc₀, hb₀, k _ _ ho₀, hd₀, hc₀.keeps k, la₀, lc₀⟩
  · obtain ⟨v, e1, e2⟩ := g y hy
    refine ⟨v, e1, ?_⟩
    obtain ⟨st, _, hy'⟩ := List.mem_flatMap.mp hy
    have : Stays kk y.2 := by
      unfold valOfSt at hy'
      split at hy'
      · cases hy'
      · split at hy'
        · obtain rfl : y = (nmOf st, phi w kk (nmOf st)) := by simpa using hy'
          exact phi.stays _ _ _
        · cases hy'
    exact this h h' v e2 fun b o _ q => k b o q

theorem top_ok (w : World) (s₀ : Shared) (mb mg : Str → Option Value) (hz : s₀.asleep) (B : Booted s₀ mb mg) :
    wpAny (model P0 w) callerA (topStub P0).cur (fun fin s' => ∃ f, fin = .done f ∧ ((∃ mg', TopEnd P0 s₀ mg s' mg') ∧ PH w s'.heap) ∧ s'.gens = #[]) (fun _ _ => False) s₀ := by
  show wpAny (model P0 w) callerA (do let code ← moduleCode P0.main; let frame ← newBodyFrame code mainNs mainNs; let _ ← run (.body (behindTheImports P0) { scope := P0.main.scope, locals := mainNs, globals := mainNs, cells := [], code, frame := some frame }); ret .none) _ _ s₀
  refine wpAny_bind (wpAny_moduleCode fun c Pl h₁ tk₁ k₁ hc hPl hcode => ?_)
  unfold newBodyFrame
  refine wpAny_bind (wpAny_bind (wpAny_nsGet (B.g.keeps k₁) (wpAny_alloc ?_)))
  have k₂ : ∀ o b ob, s₀.heap.get? b = some ob → (h₁.push o).get? b = some ob := fun o b ob e => Heap.get?_push_of_some _ (k₁ b ob e)
  refine wpAny_bind (wpAny_run ?_)
  rw [behind0]
  refine codeAny_body anns0 doc0 ?_
  obtain ⟨bm, ob, b1, b2, b3, b4, b5, b6, b7⟩ := B.bmod
  have hglt := B.g.lt
  refine wpAny_mono (E := fun _ _ => False) (execs_top (w := w) (c := c) (Pl := Pl) (F := h₁.objs.size) (mg₀ := mg) (mb := mb) (s₀ := s₀) P0.main.body [] [] [] mg _ _ ?_ (fun x hx => nomatch hx) (all_ok rfl) body_rel (fun q hq => nomatch hq) (fun q hq => nomatch hq) (fun q hq => nomatch hq) fun s' mg' l' I => ?_) (fun _ _ x => x) fun _ _ x => x.elim
  · refine ⟨⟨B.g.keeps (k₂ _), hcode.push _, ⟨Nat.lt_of_lt_of_le hglt hc, Nat.lt_of_lt_of_le hglt hPl⟩, ⟨bm, ob, b1, b2, b3, Nat.ne_of_lt (Nat.lt_of_lt_of_le (Heap.lt_size b4) hPl), k₂ _ _ _ b4, b5, b6, b7⟩⟩,
      (fun x hx => nomatch hx), (fun x hx => nomatch hx), fun b o _ e => k₂ _ _ _ e, fun x hx _ => B.others x hx, fun _ _ => rfl, rfl, B.gens, hPl, hglt, B.b.keeps (k₂ _), B.builtins⟩
  · refine wpAny_pure ⟨_, rfl, ⟨⟨mg', I.os, I.kept, I.main.g, I.names, fun x hx => I.laid x (List.mem_append_left _ hx), I.laid _ (List.mem_append_right _ (.head _))⟩, ⟨mg', mb, Pl, I.main.g, I.b, I.builtins, ?_, I.names, ?_, ?_, Nat.lt_of_lt_of_le I.three I.low⟩⟩, I.gens⟩
    · exact Heap.NoLimit.at ⟨_, B.statics, rfl⟩ fun o e => I.kept _ o (by decide) e
    · simpa using I.fn
    · simpa using I.val
end Mine
end

section
open PySem PySem.W PyProof.Rows PySem.Calls
set_option maxRecDepth 100000
set_option linter.unusedVariables false
namespace Mine
structure Glo (w : World) (mg mb : Str → Option Value) (k : Addr) (h : Heap) : Prop where
  g : h.Ns mainGlobals mg
  b : h.Ns builtinsNs mb
  builtins : ∀ x : Str, x ≠ "__name__" → mb x = bootBuiltins x
  nolimit : h.NoLimit
  names : ∀ x, x ∉ bootMainNames → x ∉ P0.boundNames → mg x = none
  fn : ∀ d ∈ P0.main.body.filterMap DefRec.ofStmt?, h.HasFn mg k d
  val : ∀ x ∈ P0.main.body.flatMap (valOfSt w k), ∃ v, mg x.1 = some v ∧ x.2 h v
  low : mainGlobals < k

theorem PH.glo {w : World} {h : Heap} (x : PH w h) : ∃ mg mb k, Glo w mg mb k h := by
  obtain ⟨mg, mb, kk, a, b, c, d, e, f, g, lw⟩ := x.out
  exact ⟨mg, mb, kk, a, b, c, d, e, f, g, lw⟩

theorem Glo.keeps {w : World} {mg mb : Str → Option Value} {kk : Addr} {h h' : Heap} (x : Glo w mg mb kk h) (k : ∀ b o, h.get? b = some o → h'.get? b = some o) : Glo w mg mb kk h' := by
  obtain ⟨a, b, c, d, e, f, g, lw⟩ := x
  refine ⟨a.keeps k, b.keeps k, c, d.keeps k, e, fun r hr => ?_, fun y hy => ?_, lw⟩
  · obtain ⟨a₀, o₀, pm₀, cd₀, doc₀, hb₀, ho₀, hd₀, hc₀, la₀, lc₀⟩ := f r hr
    exact ⟨a₀, o₀, pm₀, cd₀, doc₀, hb₀, k _ _ ho₀, hd₀, hc₀.keeps k, la₀, lc₀⟩
  · obtain ⟨v, e1, e2⟩ := g y hy
    refine ⟨v, e1, ?_⟩
    obtain ⟨st, _, hy'⟩ := List.mem_flatMap.mp hy
    have : Stays kk y.2 := by
      unfold valOfSt at hy'
      split at hy'
      · cases hy'
      · split at hy'
        · obtain rfl : y = (nmOf st, phi w kk (nmOf st)) := by simpa using hy'
          exact phi.stays _ _ _
        · cases hy'
    exact this h h' v e2 fun b o _ q => k b o q

def dummyRec : DefRec := ⟨"", { posonlyargs := [], args := [], vararg := none, kwonlyargs := [], kw_defaults := [], kwarg := none, defaults := [] }, [], { kind := .function, names := [], isGenerator := false, isCoroutine := false }, default⟩
def dfn (i : Nat) : DefRec := (DefRec.ofStmt? (stAt i)).getD dummyRec

theorem dfn_mem {i : Nat} (hi : i ∈ defIdx) : dfn i ∈ P0.main.body.filterMap DefRec.ofStmt? := by
  have h40 : i < 40 := by
    have key : ∀ j ∈ defIdx, j < 40 := by decide
    exact key i hi
  obtain ⟨d, e, _⟩ := okDef_rec (List.all_eq_true.mp defs_ok i hi)
  refine List.mem_filterMap.mpr ⟨stAt i, ?_, ?_⟩
  · rw [body_stAt]; exact List.mem_map.mpr ⟨i, List.mem_range.mpr h40, rfl⟩
  · unfold dfn; rw [e]; rfl
end Mine
end

section
open PySem PySem.W PyProof.Rows PySem.Calls
set_option maxRecDepth 100000
set_option linter.unusedVariables false
namespace Mine
def KP (h h' : Heap) : Prop := ∀ b o, h.get? b = some o → h'.get? b = some o
theorem KP.refl (h : Heap) : KP h h := fun _ _ e => e
theorem KP.trans {h h' h'' : Heap} (a : KP h h') (b : KP h' h'') : KP h h'' := fun x o e => b x o (a x o e)
theorem KP.push (h : Heap) (o : Obj) : KP h (h.push o) := fun _ _ e => Heap.get?_push_of_some _ e

inductive D where
  | none | bool (b : Bool) | int (n : Int) | str (s : Str) | flt (x : UInt64) | val (v : Value) | rng (n : Nat) | list (l : List D) | tup (l : List D)

mutual
inductive Is (N : Addr → Prop) (h : Heap) : D → Value → Prop
  | none : Is N h .none .none
  | bool (b) : Is N h (.bool b) (.bool b)
  | int (n t) : Is N h (.int n) (.int n t)
  | str (x t) : Is N h (.str x) (.str x t)
  | flt (x t) : Is N h (.flt x) (.float x t)
  | val (v) : Is N h (.val v) v
  | rng {a n t u v} : N a → IsRange h a 0 (n : Nat) 1 t u v → Is N h (.rng n) (.ref a)
  | list {a vs ds} : N a → h.PlainList a vs → Iss N h ds vs.toList → Is N h (.list ds) (.ref a)
  | tup {a vs ds} : N a → h.IsTuple a vs → Iss N h ds vs.toList → Is N h (.tup ds) (.ref a)
inductive Iss (N : Addr → Prop) (h : Heap) : List D → List Value → Prop
  | nil : Iss N h [] []
  | cons {d v ds vs} : Is N h d v → Iss N h ds vs → Iss N h (d :: ds) (v :: vs)
end

mutual
theorem Is.move {N N' : Addr → Prop} {h h' : Heap} (k : ∀ a o, N a → h.get? a = some o → h'.get? a = some o ∧ N' a) : ∀ {d : D} {v : Value}, Is N h d v → Is N' h' d v
  | _, _, .none => .none
  | _, _, .bool b => .bool b
  | _, _, .int n t => .int n t
  | _, _, .str x t => .str x t
  | _, _, .flt x t => .flt x t
  | _, _, .val v => .val v
  | _, _, .rng na r => .rng (k _ _ na r).2 (k _ _ na r).1
  | _, _, .list na r rs => .list (let ⟨_, e⟩ := r; (k _ _ na e).2) (let ⟨o, e⟩ := r; ⟨o, (k _ _ na e).1⟩) (Iss.move k rs)
  | _, _, .tup na r rs => .tup (let ⟨_, e, _⟩ := r; (k _ _ na e).2) (let ⟨o, e, q⟩ := r; ⟨o, (k _ _ na e).1, q⟩) (Iss.move k rs)
theorem Iss.move {N N' : Addr → Prop} {h h' : Heap} (k : ∀ a o, N a → h.get? a = some o → h'.get? a = some o ∧ N' a) : ∀ {ds : List D} {vs : List Value}, Iss N h ds vs → Iss N' h' ds vs
  | _, _, .nil => .nil
  | _, _, .cons x xs => .cons (Is.move k x) (Iss.move k xs)
end

theorem Is.keeps {N : Addr → Prop} {h h' : Heap} {d : D} {v : Value} (x : Is N h d v) (k : KP h h') : Is N h' d v := x.move fun a o n e => ⟨k a o e, n⟩
theorem Iss.keeps {N : Addr → Prop} {h h' : Heap} {d : List D} {v : List Value} (x : Iss N h d v) (k : KP h h') : Iss N h' d v := x.move fun a o n e => ⟨k a o e, n⟩
theorem Is.mono {N N' : Addr → Prop} {h : Heap} {d : D} {v : Value} (x : Is N h d v) (k : ∀ a, N a → a < h.objs.size → N' a) : Is N' h d v := x.move fun a o n e => ⟨e, k a n (Heap.lt_size e)⟩
theorem Iss.mono {N N' : Addr → Prop} {h : Heap} {d : List D} {v : List Value} (x : Iss N h d v) (k : ∀ a, N a → a < h.objs.size → N' a) : Iss N' h d v := x.move fun a o n e => ⟨e, k a n (Heap.lt_size e)⟩
theorem Iss.length {N : Addr → Prop} {h : Heap} : ∀ {ds : List D} {vs : List Value}, Iss N h ds vs → vs.length = ds.length
  | _, _, .nil => rfl
  | _, _, .cons _ xs => by simp [Iss.length xs]
theorem Iss.get {N : Addr → Prop} {h : Heap} : ∀ {ds : List D} {vs : List Value}, Iss N h ds vs → ∀ (i : Nat) (d : D), ds[i]? = some d → ∃ v, vs[i]? = some v ∧ Is N h d v
  | _, _, .nil, _, _, e => by cases e
  | _, _, .cons x xs, 0, d, e => by cases e; exact ⟨_, rfl, x⟩
  | _, _, .cons x xs, i + 1, d, e => Iss.get xs i d e
theorem Iss.get' {N : Addr → Prop} {h : Heap} : ∀ {ds : List D} {vs : List Value}, Iss N h ds vs → ∀ (i : Nat) (v : Value), vs[i]? = some v → ∃ d, ds[i]? = some d ∧ Is N h d v
  | _, _, .nil, _, _, e => by cases e
  | _, _, .cons x xs, 0, d, e => by cases e; exact ⟨_, rfl, x⟩
  | _, _, .cons x xs, i + 1, d, e => Iss.get' xs i d e
theorem Iss.append {N : Addr → Prop} {h : Heap} {ds' : List D} {vs' : List Value} (y : Iss N h ds' vs') : ∀ {ds : List D} {vs : List Value}, Iss N h ds vs → Iss N h (ds ++ ds') (vs ++ vs')
  | _, _, .nil => y
  | _, _, .cons x xs => .cons x (Iss.append y xs)
theorem Iss.set {N : Addr → Prop} {h : Heap} {d : D} {v : Value} (y : Is N h d v) : ∀ {ds : List D} {vs : List Value} (i : Nat), Iss N h ds vs → Iss N h (ds.set i d) (vs.set i v)
  | _, _, _, .nil => .nil
  | _, _, 0, .cons x xs => .cons y xs
  | _, _, i + 1, .cons x xs => .cons x (Iss.set y i xs)

structure Cx where
  I : Heap → Prop
  N : Addr → Prop
  keeps : ∀ h h', I h → KP h h' → I h'
  fresh : ∀ h a, I h → h.objs.size ≤ a → N a

structure GV (w : World) (A : Around) (env : Env) (C : Cx) (e : Expr) (d : D) : Prop where
  go : ∀ E h tk g dd o (Q : Value → Shared → Prop), C.I h → (∀ v h' tk', Is C.N h' d v → KP h h' → Q v ⟨h', g, dd, tk', o⟩) → wpAny (model P0 w) A (eval e env) Q E ⟨h, g, dd, tk, o⟩
structure Op (w : World) (A : Around) (op : Operator) (a b c : D) : Prop where
  go : ∀ (N : Addr → Prop) E h tk g dd o x y (Q : Value → Shared → Prop), (∀ l, h.objs.size ≤ l → N l) → Is N h a x → Is N h b y → (∀ v h' tk', Is N h' c v → KP h h' → Q v ⟨h', g, dd, tk', o⟩) → wpAny (model P0 w) A (binaryOp op x y) Q E ⟨h, g, dd, tk, o⟩
structure Cm (w : World) (A : Around) (op : CmpOp) (a b : D) (c : Bool) : Prop where
  go : ∀ (N : Addr → Prop) E h tk g dd o x y (Q : Value → Shared → Prop), Is N h a x → Is N h b y → (∀ h' tk', KP h h' → Q (.bool c) ⟨h', g, dd, tk', o⟩) → wpAny (model P0 w) A (compareOp op x y) Q E ⟨h, g, dd, tk, o⟩
structure GT (w : World) (A : Around) (env : Env) (C : Cx) (e : Expr) (c : Bool) : Prop where
  go : ∀ E h tk g dd o (Q : Bool → Shared → Prop), C.I h → (∀ h' tk', KP h h' → Q c ⟨h', g, dd, tk', o⟩) → wpAny (model P0 w) A (isTrue e env (eval e env)) Q E ⟨h, g, dd, tk, o⟩
structure Tr (w : World) (A : Around) (d : D) (c : Bool) : Prop where
  go : ∀ (N : Addr → Prop) E h tk g dd o x (Q : Bool → Shared → Prop), Is N h d x → (∀ h' tk', KP h h' → Q c ⟨h', g, dd, tk', o⟩) → wpAny (model P0 w) A (truthy x) Q E ⟨h, g, dd, tk, o⟩

section
variable {w : World} {A : Around} {env : Env} {C : Cx}

theorem gv_int {i : Int} {k : Nat} {p : Pos} : GV w A env C (.Constant (.int i) k p) (.int i) := ⟨fun E h tk g dd o Q _ q => wpAny_mkInt (q _ _ _ (.int _ _) (.refl _))⟩
theorem gv_float {i : UInt64} {k : Nat} {p : Pos} : GV w A env C (.Constant (.float i) k p) (.flt i) := ⟨fun E h tk g dd o Q _ q => wpAny_mkFloat (q _ _ _ (.flt _ _) (.refl _))⟩
theorem gv_bool {i : Bool} {k : Nat} {p : Pos} : GV w A env C (.Constant (.bool i) k p) (.bool i) := ⟨fun E h tk g dd o Q _ q => Constant_bool (q _ _ _ (.bool _) (.refl _))⟩
theorem gv_none {k : Nat} {p : Pos} : GV w A env C (.Constant .none k p) .none := ⟨fun E h tk g dd o Q _ q => Constant_none (q _ _ _ .none (.refl _))⟩
theorem gv_str {x : Str} {k : Nat} {p : Pos} : GV w A env C (.Constant (.str x) k p) (.str x) := ⟨fun E h tk g dd o Q _ q => Constant_str (q _ _ _ (.str _ _) (.refl _))⟩

theorem gv_bin {l r : Expr} {op : Operator} {p : Pos} {a b c : D} (h1 : GV w A env C l a) (h2 : GV w A env C r b) (h3 : Op w A op a b c) : GV w A env C (.BinOp l op r p) c :=
  ⟨fun E h tk g dd o Q i q => wpAny_BinOp (h1.go E h tk g dd o _ i fun v h' tk' x k => h2.go E h' tk' g dd o _ (C.keeps _ _ i k) fun v' h'' tk'' x' k' =>
    h3.go C.N E h'' tk'' g dd o _ _ _ (fun a ha => C.fresh _ a (C.keeps _ _ i (k.trans k')) ha) (x.keeps k') x' fun u h₃ tk₃ y k₃ => q u h₃ tk₃ y ((k.trans k').trans k₃))⟩

theorem op_add_ii {a b : Int} : Op w A .Add (.int a) (.int b) (.int (a + b)) := ⟨fun N E h tk g dd o x y Q _ hx hy q => by cases hx; cases hy; exact add_int (q _ _ _ (.int _ _) (.refl _))⟩
theorem op_sub_ii {a b : Int} : Op w A .Sub (.int a) (.int b) (.int (a - b)) := ⟨fun N E h tk g dd o x y Q _ hx hy q => by cases hx; cases hy; exact sub_int (q _ _ _ (.int _ _) (.refl _))⟩
theorem op_mul_ii {a b : Int} (hm : IntMulOk a b) : Op w A .Mult (.int a) (.int b) (.int (a * b)) := ⟨fun N E h tk g dd o x y Q _ hx hy q => by cases hx; cases hy; exact PyProof.Rows.mul_int (q _ _ _ (.int _ _) (.refl _)) hm⟩
theorem op_mod_ii {a b : Int} (hb : b ≠ 0) : Op w A .Mod (.int a) (.int b) (.int (a.fmod b)) := ⟨fun N E h tk g dd o x y Q _ hx hy q => by cases hx; cases hy; exact mod_int' hb (q _ _ _ (.int _ _) (.refl _))⟩
theorem op_fdiv_ii {a b : Int} (hb : b ≠ 0) (hp : Builtin.divisionGoesByPylong a b = false) : Op w A .FloorDiv (.int a) (.int b) (.int (a.fdiv b)) := ⟨fun N E h tk g dd o x y Q _ hx hy q => by cases hx; cases hy; exact floordiv_int hb (q _ _ _ (.int _ _) (.refl _)) (.inl hp)⟩
theorem op_pow_ii {a n : Int} (hn : 0 ≤ n) (hsz : (Builtin.Int.intBits a : Int) * n ≤ 2 ^ 27) : Op w A .Pow (.int a) (.int n) (.int (a ^ n.toNat)) := ⟨fun N E h tk g dd o x y Q _ hx hy q => by cases hx; cases hy; exact PyProof.Rows.pow_int hn hsz (q _ _ _ (.int _ _) (.refl _))⟩
theorem op_and_ii {a b : Int} : Op w A .BitAnd (.int a) (.int b) (.int (Builtin.bitAnd a b)) := ⟨fun N E h tk g dd o x y Q _ hx hy q => by cases hx; cases hy; exact PyProof.Rows.and_int (q _ _ _ (.int _ _) (.refl _))⟩
theorem op_add_ff {a b : UInt64} : Op w A .Add (.flt a) (.flt b) (.flt (Float64.add a b)) := ⟨fun N E h tk g dd o x y Q _ hx hy q => by cases hx; cases hy; exact add_float (q _ _ _ (.flt _ _) (.refl _))⟩
theorem op_sub_ff {a b : UInt64} : Op w A .Sub (.flt a) (.flt b) (.flt (Float64.sub a b)) := ⟨fun N E h tk g dd o x y Q _ hx hy q => by cases hx; cases hy; exact sub_float (q _ _ _ (.flt _ _) (.refl _))⟩
theorem op_mul_ff {a b : UInt64} : Op w A .Mult (.flt a) (.flt b) (.flt (Float64.mul a b)) := ⟨fun N E h tk g dd o x y Q _ hx hy q => by cases hx; cases hy; exact mul_float (q _ _ _ (.flt _ _) (.refl _))⟩
theorem op_div_ff {a b : UInt64} (hh : A.handled = none) (hb : Float64.isZero b = false) : Op w A .Div (.flt a) (.flt b) (.flt (Float64.div a b)) :=
  ⟨fun N E h tk g dd o x y Q _ hx hy q => by cases hx; cases hy; exact truediv_float_or hh (fun z => by rw [hb] at z; cases z) fun _ => q _ _ _ (.flt _ _) (.refl _)⟩
theorem op_mod_ff {a b : UInt64} (hh : A.handled = none) (hb : Float64.isZero b = false) : Op w A .Mod (.flt a) (.flt b) (.flt (Float64.divmod a b).2) :=
  ⟨fun N E h tk g dd o x y Q _ hx hy q => by cases hx; cases hy; exact PySem.Flt.mod_ff hh (fun z => by rw [hb] at z; cases z) fun _ => q _ _ _ (.flt _ _) (.refl _)⟩

theorem gt_cmp {l r : Expr} {op : CmpOp} {p : Pos} {a b : D} {c : Bool} (h1 : GV w A env C l a) (h2 : GV w A env C r b) (h3 : Cm w A op a b c) (hm : behindInMarks op r = false) : GT w A env C (.Compare l [op] [r] p) c :=
  ⟨fun E h tk g dd o Q i q => wpAny_isTrue_Compare1 (h1.go E h tk g dd o _ i fun v h' tk' x k => h2.go E h' tk' g dd o _ (C.keeps _ _ i k) fun v' h'' tk'' x' k' =>
    h3.go C.N E h'' tk'' g dd o _ _ _ (x.keeps k') x' fun h₃ tk₃ k₃ => wpAny_truthy_bool (q h₃ tk₃ ((k.trans k').trans k₃))) hm⟩

theorem cm_eq_ff {a b : UInt64} : Cm w A .Eq (.flt a) (.flt b) (Float64.cmp a b == some .eq) := ⟨fun N E h tk g dd o x y Q hx hy q => by cases hx; cases hy; exact AutoFloatOps.eq_0 (q _ _ (.refl _))⟩
theorem cm_lt_ff {a b : UInt64} : Cm w A .Lt (.flt a) (.flt b) (Float64.cmp a b == some .lt) := ⟨fun N E h tk g dd o x y Q hx hy q => by cases hx; cases hy; exact AutoFloatOps.lt_0 (q _ _ (.refl _))⟩
theorem cm_le_ff {a b : UInt64} : Cm w A .LtE (.flt a) (.flt b) (Float64.cmp a b == some .lt || Float64.cmp a b == some .eq) := ⟨fun N E h tk g dd o x y Q hx hy q => by cases hx; cases hy; exact AutoFloatOps.le_0 (q _ _ (.refl _))⟩
theorem cm_eq_ii {a b : Int} : Cm w A .Eq (.int a) (.int b) (a == b) := ⟨fun N E h tk g dd o x y Q hx hy q => by cases hx; cases hy; exact PyProof.Rows.eq_int (q _ _ (.refl _))⟩
theorem cm_ne_ii {a b : Int} : Cm w A .NotEq (.int a) (.int b) (a != b) := ⟨fun N E h tk g dd o x y Q hx hy q => by cases hx; cases hy; exact PyProof.Rows.ne_int (q _ _ (.refl _))⟩
theorem cm_lt_ii {a b : Int} : Cm w A .Lt (.int a) (.int b) (decide (a < b)) := ⟨fun N E h tk g dd o x y Q hx hy q => by cases hx; cases hy; exact PyProof.Rows.lt_int (q _ _ (.refl _))⟩
theorem cm_gt_ii {a b : Int} : Cm w A .Gt (.int a) (.int b) (decide (b < a)) := ⟨fun N E h tk g dd o x y Q hx hy q => by cases hx; cases hy; exact PyProof.Rows.gt_int (q _ _ (.refl _))⟩
theorem cm_le_ii {a b : Int} : Cm w A .LtE (.int a) (.int b) (decide (a ≤ b)) := ⟨fun N E h tk g dd o x y Q hx hy q => by cases hx; cases hy; exact PyProof.Rows.le_int (q _ _ (.refl _))⟩
theorem cm_eq_ss {a b : Str} : Cm w A .Eq (.str a) (.str b) (a == b) := ⟨fun N E h tk g dd o x y Q hx hy q => by cases hx; cases hy; exact PyProof.Rows.eq_str (q _ _ (.refl _))⟩
theorem cm_ne_ss {a b : Str} : Cm w A .NotEq (.str a) (.str b) (a != b) := ⟨fun N E h tk g dd o x y Q hx hy q => by cases hx; cases hy; exact PyProof.Rows.ne_str (q _ _ (.refl _))⟩

structure GVs (w : World) (A : Around) (env : Env) (C : Cx) (es : List Expr) (ds : List D) : Prop where
  go : ∀ E h tk g dd o (Q : List Value → Shared → Prop), C.I h → (∀ vs h' tk', Iss C.N h' ds vs → KP h h' → Q vs ⟨h', g, dd, tk', o⟩) → wpAny (model P0 w) A (spliced (starEach es env)) Q E ⟨h, g, dd, tk, o⟩
  plain : ∀ x ∈ starEach es env, x.1 = false
  len : ds.length = es.length

theorem gvs_nil : GVs w A env C [] [] := ⟨fun E h tk g dd o Q i q => spliced_nil (q _ _ _ .nil (.refl _)), fun _ hx => (by cases hx), rfl⟩
theorem gvs_cons {e : Expr} {es : List Expr} {d : D} {ds : List D} (h1 : GV w A env C e d) (h2 : GVs w A env C es ds) (hs : starEach (e :: es) env = (false, eval e env) :: starEach es env) : GVs w A env C (e :: es) (d :: ds) :=
  ⟨fun E h tk g dd o Q i q => by
    rw [hs]
    exact spliced_cons (h1.go E h tk g dd o _ i fun v h' tk' x k => h2.go E h' tk' g dd o _ (C.keeps _ _ i k) fun vs h'' tk'' y k' => q _ _ _ (.cons (x.keeps k') y) (k.trans k')),
  fun x hx => by
    rw [hs] at hx
    rcases List.mem_cons.mp hx with rfl | hx
    · rfl
    · exact h2.plain x hx,
  by simp [h2.len]⟩

theorem GVs.back {es : List Expr} {ds : List D} (G : GVs w A env C es ds) (p : Pos) : backTo p (starEach es env) = starEach es env := by
  have key : ∀ (l : List (Bool × Sem Value)), (∀ x ∈ l, x.1 = false) → backTo p l = l := by
    intro l
    induction l with
    | nil => intro _; rfl
    | cons x r ih =>
      intro hx
      have h0 := hx x List.mem_cons_self
      have hr := ih fun y hy => hx y (List.mem_cons_of_mem _ hy)
      obtain ⟨b, t⟩ := x
      obtain rfl : b = false := h0
      unfold backTo at hr ⊢
      rw [List.map_cons, hr]
      rfl
  exact key _ G.plain

theorem gv_tuple {es : List Expr} {k : Nat} {p : Pos} {ds : List D} (G : GVs w A env C es ds) (hn : es.length ≤ 1000) : GV w A env C (.Tuple es k p) (.tup ds) :=
  ⟨fun E h tk g dd o Q i q => by
    refine Tuple_ ?_
    rw [G.back]
    refine G.go E h tk g dd o _ i fun vs h' tk' y k => ?_
    refine wpAny_newTuple (q _ _ _ (.tup (vs := vs.toArray) (C.fresh _ _ (C.keeps _ _ i k) (Nat.le_refl _)) ⟨_, Heap.get?_push_size _ rfl, rfl, 0, rfl⟩ (y.keeps (.push _ _))) (k.trans (.push _ _))) ?_
    rw [y.length, G.len]; exact Nat.le_trans hn (by decide)⟩
theorem gv_list {es : List Expr} {p : Pos} {ds : List D} (G : GVs w A env C es ds) (hn : es.length ≤ 1000) : GV w A env C (.List es p) (.list ds) :=
  ⟨fun E h tk g dd o Q i q => by
    refine List_ ?_
    rw [G.back]
    refine G.go E h tk g dd o _ i fun vs h' tk' y k => ?_
    refine wpAny_newList (q _ _ _ (.list (vs := vs.toArray) (C.fresh _ _ (C.keeps _ _ i k) (Nat.le_refl _)) ⟨0, Heap.get?_push_size _ rfl⟩ (y.keeps (.push _ _))) (k.trans (.push _ _))) ?_
    rw [y.length, G.len]; exact Nat.le_trans hn (by decide)⟩

theorem tr_bool {b : Bool} : Tr w A (.bool b) b := ⟨fun N E h tk g dd o x Q hx q => by cases hx; exact wpAny_truthy_bool (q _ _ (.refl _))⟩
theorem gt_plain {e : Expr} {d : D} {c : Bool} (G : GV w A env C e d) (t : Tr w A d c) (he : isTrue e env (eval e env) = (do let v ← eval e env; standAt e.pos; holding [v] (truthy v))) : GT w A env C e c :=
  ⟨fun E h tk g dd o Q i q => isTrue_plain (G.go E h tk g dd o _ i fun v h' tk' x k => t.go C.N E h' tk' g dd o v _ x fun h'' tk'' k' => q _ _ (k.trans k')) he⟩
theorem gt_not {x : Expr} {p : Pos} {c : Bool} (G : GT w A env C x c) : GT w A env C (.UnaryOp .Not x p) (!c) := ⟨fun E h tk g dd o Q i q => isTrue_not (G.go E h tk g dd o _ i fun h' tk' k => q _ _ k)⟩
theorem gt_and_nil {p : Pos} : GT w A env C (.BoolOp .And [] p) true := ⟨fun E h tk g dd o Q i q => isTrue_and_nil (q _ _ (.refl _))⟩
theorem gt_or_nil {p : Pos} : GT w A env C (.BoolOp .Or [] p) false := ⟨fun E h tk g dd o Q i q => isTrue_or_nil (q _ _ (.refl _))⟩
theorem GT.whole {ex : Expr} {op : BoolOp} {l : List Expr} {p : Pos} {c : Bool} (G : GT w A env C (.BoolOp op l p) c) {E h tk g dd o} {Q : Bool → Shared → Prop} (whole : Sem Value) (i : C.I h) (q : ∀ h' tk', KP h h' → Q c ⟨h', g, dd, tk', o⟩)
    (e : isTrue (.BoolOp op l p) env whole = isTrue (.BoolOp op l p) env (eval (.BoolOp op l p) env)) : wpAny (model P0 w) A (isTrue (.BoolOp op l p) env whole) Q E ⟨h, g, dd, tk, o⟩ := by
  rw [e]; exact G.go E h tk g dd o Q i q
theorem gt_and {x : Expr} {r : List Expr} {p : Pos} {c c' : Bool} (G : GT w A env C x c) (G' : c = true → GT w A env C (.BoolOp .And r p) c') : GT w A env C (.BoolOp .And (x :: r) p) (c && c') :=
  ⟨fun E h tk g dd o Q i q => isTrue_and (G.go E h tk g dd o _ i fun h' tk' k => by
    cases c with
    | false => exact q _ _ k
    | true => exact (G' rfl).whole (ex := x) _ (C.keeps _ _ i k) (fun h'' tk'' k' => q _ _ (k.trans k')) rfl)⟩
theorem gt_or {x : Expr} {r : List Expr} {p : Pos} {c c' : Bool} (G : GT w A env C x c) (G' : c = false → GT w A env C (.BoolOp .Or r p) c') : GT w A env C (.BoolOp .Or (x :: r) p) (c || c') :=
  ⟨fun E h tk g dd o Q i q => isTrue_or (G.go E h tk g dd o _ i fun h' tk' k => by
    cases c with
    | true => exact q _ _ k
    | false => exact (G' rfl).whole (ex := x) _ (C.keeps _ _ i k) (fun h'' tk'' k' => q _ _ (k.trans k')) rfl)⟩
theorem gv_ifexp {t b e : Expr} {p : Pos} {c : Bool} {d : D} (G : GT w A env C t c) (h1 : c = true → GV w A env C b d) (h2 : c = false → GV w A env C e d) : GV w A env C (.IfExp t b e p) d :=
  ⟨fun E h tk g dd o Q i q => IfExp_ (G.go E h tk g dd o _ i fun h' tk' k => by
    cases c with
    | true => exact (h1 rfl).go E h' tk' g dd o Q (C.keeps _ _ i k) fun v h'' tk'' y k' => q _ _ _ y (k.trans k')
    | false => exact (h2 rfl).go E h' tk' g dd o Q (C.keeps _ _ i k) fun v h'' tk'' y k' => q _ _ _ y (k.trans k'))⟩
theorem gv_not {x : Expr} {p : Pos} {d : D} {c : Bool} (G : GV w A env C x d) (t : Tr w A d c) : GV w A env C (.UnaryOp .Not x p) (.bool !c) :=
  ⟨fun E h tk g dd o Q i q => UnaryOp_ (G.go E h tk g dd o _ i fun v h' tk' x k => not_of (t.go C.N E h' tk' g dd o v _ x fun h'' tk'' k' => q _ _ _ (.bool _) (k.trans k')))⟩
theorem gv_cmp {l r : Expr} {op : CmpOp} {p : Pos} {a b : D} {c : Bool} (h1 : GV w A env C l a) (h2 : GV w A env C r b) (h3 : Cm w A op a b c) (hm : behindInMarks op r = false) : GV w A env C (.Compare l [op] [r] p) (.bool c) :=
  ⟨fun E h tk g dd o Q i q => wpAny_Compare1 (h1.go E h tk g dd o _ i fun v h' tk' x k => h2.go E h' tk' g dd o _ (C.keeps _ _ i k) fun v' h'' tk'' x' k' =>
    h3.go C.N E h'' tk'' g dd o _ _ _ (x.keeps k') x' fun h₃ tk₃ k₃ => (q _ h₃ tk₃ (.bool _) ((k.trans k').trans k₃))) hm⟩
end
end Mine
end

section
open PySem PySem.W PyProof.Rows PySem.Calls
set_option maxRecDepth 100000
set_option linter.unusedVariables false
namespace Mine
structure Fm where
  h₀ : Heap
  N₀ : Addr → Prop
  env : Env
  m : Str → Option D
  mu : List (Addr × List D)
  oo : List Addr
  ex : List Addr
  X : Heap → Prop
  xs : ∀ h h', X h → (∀ b o, b ∉ oo → h.get? b = some o → h'.get? b = some o) → X h'

def Fm.N (F : Fm) (a : Addr) : Prop := F.N₀ a ∧ a ∉ F.oo ∧ a ∉ F.ex

structure Fm.I (F : Fm) (h : Heap) : Prop where
  keep : KP F.h₀ h
  above : ∀ a, a ∈ F.oo ∨ a ∈ F.ex → F.h₀.objs.size ≤ a
  alive : ∀ a, a ∈ F.oo ∨ a ∈ F.ex → ∃ o, h.get? a = some o
  sep : ∀ a, a ∈ F.ex → a ∉ F.oo
  n0 : ∀ a, F.h₀.objs.size ≤ a → F.N₀ a
  loc : F.env.locals ∈ F.oo
  cel : ∀ x c, F.env.cells.lookup x = some c → c ∈ F.oo ∧ c ≠ F.env.locals
  apart : ∀ x c x', F.env.cells.lookup x = some c → F.env.cells.lookup x' = some c → x = x'
  mus : ∀ p ∈ F.mu, p.1 ∈ F.oo ∧ p.1 ≠ F.env.locals ∧ ∀ x c, F.env.cells.lookup x = some c → c ≠ p.1
  mun : (F.mu.map (·.1)).Nodup
  names : ∃ ml, h.Ns F.env.locals ml ∧ ∀ x d, F.m x = some d → F.env.kindOf x = some .local → ∃ v, ml x = some v ∧ Is F.N h d v
  cells : ∀ x c, F.env.cells.lookup x = some c → ∃ o, h.IsCell c o ∧ ∀ d, F.m x = some d → F.env.kindOf x = some .cell → ∃ v, o = some v ∧ Is F.N h d v
  muts : ∀ p ∈ F.mu, ∃ vs, h.PlainList p.1 vs ∧ Iss F.N h p.2 vs.toList
  x : F.X h

theorem Fm.I.up {F : Fm} {h : Heap} (i : F.I h) : F.h₀.objs.size < h.objs.size := by
  obtain ⟨o, e⟩ := i.alive _ (.inl i.loc)
  exact Nat.lt_of_le_of_lt (i.above _ (.inl i.loc)) (Heap.lt_size e)

theorem Fm.stay {F : Fm} {h h' : Heap} (k : ∀ b o, b ∉ F.oo → h.get? b = some o → h'.get? b = some o) : ∀ a o, F.N a → h.get? a = some o → h'.get? a = some o ∧ F.N a :=
  fun a o n e => ⟨k a o n.2.1 e, n⟩

theorem Fm.I.keeps {F : Fm} {h h' : Heap} (i : F.I h) (k : KP h h') : F.I h' where
  keep := i.keep.trans k
  above := i.above
  alive := fun a ha => let ⟨o, e⟩ := i.alive a ha; ⟨o, k _ _ e⟩
  sep := i.sep
  n0 := i.n0
  loc := i.loc
  cel := i.cel
  apart := i.apart
  mus := i.mus
  mun := i.mun
  names := by
    obtain ⟨ml, hn, hv⟩ := i.names
    refine ⟨ml, hn.keeps k, fun x d hx hk => ?_⟩
    obtain ⟨v, e, y⟩ := hv x d hx hk
    exact ⟨v, e, y.keeps k⟩
  cells := fun x c hc => by
    obtain ⟨o, ho, hv⟩ := i.cells x c hc
    refine ⟨o, ho.keeps k, fun d hd hk => ?_⟩
    obtain ⟨v, e, y⟩ := hv d hd hk
    exact ⟨v, e, y.keeps k⟩
  muts := fun p hp => by
    obtain ⟨vs, hl, hv⟩ := i.muts p hp
    exact ⟨vs, hl.at fun o e => k _ o e, hv.keeps k⟩
  x := F.xs _ _ i.x fun b o _ e => k b o e

theorem Fm.I.fresh {F : Fm} {h : Heap} (i : F.I h) (a : Addr) (ha : h.objs.size ≤ a) : F.N a :=
  ⟨i.n0 a (Nat.le_trans (Nat.le_of_lt i.up) ha),
    fun m => by obtain ⟨o, e⟩ := i.alive a (.inl m); exact absurd (Heap.lt_size e) (Nat.not_lt.mpr ha),
    fun m => by obtain ⟨o, e⟩ := i.alive a (.inr m); exact absurd (Heap.lt_size e) (Nat.not_lt.mpr ha)⟩

def Fm.cx (F : Fm) : Cx := ⟨F.I, F.N, fun _ _ i k => i.keeps k, fun _ a i ha => i.fresh a ha⟩

def Fm.set (F : Fm) (x : Str) (d : D) : Fm := { F with m := fun y => if y = x then some d else F.m y }
def Fm.own (F : Fm) (x : Str) : Prop := F.env.kindOf x = some .local ∨ (F.env.kindOf x = some .cell ∧ (F.env.cells.lookup x).isSome = true)

section
variable {w : World} {A : Around} {E : Value → Shared → Prop}

theorem st_name {F : Fm} {h : Heap} {tk : Nat} {g dd o} {x : Str} {d : D} {v : Value} {Q : Unit → Shared → Prop} (i : F.I h) (y : Is F.N h d v) (hk : F.env.scope.kind = .function) (hx : F.own x)
    (q : ∀ h' tk', (F.set x d).I h' → (∀ b o, b ∉ F.oo → h.get? b = some o → h'.get? b = some o) → Q () ⟨h', g, dd, tk', o⟩) : wpAny (model P0 w) A (storeName F.env x v) Q E ⟨h, g, dd, tk, o⟩ := by
  rcases hx with hl | ⟨hl, hc⟩
  · obtain ⟨ml, hn, hv⟩ := i.names
    refine wpAny_storeName_local hl hn (fun h' hn' hs => ?_) (by rw [hk]; rfl)
    have kb : ∀ b o, b ∉ F.oo → h.get? b = some o → h'.get? b = some o := fun b o nb e => (hs.2 b fun z => nb (z ▸ i.loc)).trans e
    have st := Fm.stay (F := F) kb
    refine q h' _ ?_ kb
    exact { keep := fun b o e => (hs.2 b fun z => Nat.lt_irrefl _ (Nat.lt_of_lt_of_le (Heap.lt_size e) (z ▸ i.above _ (.inl i.loc)))).trans (i.keep b o e)
            above := i.above
            alive := fun a ha => by
              by_cases z : a = F.env.locals
              · subst z; obtain ⟨oo, _, _, ho, _⟩ := hn'; exact ⟨oo, ho⟩
              · obtain ⟨oo, e⟩ := i.alive a ha; exact ⟨oo, (hs.2 a z).trans e⟩
            sep := i.sep, n0 := i.n0, loc := i.loc, cel := i.cel, apart := i.apart, mus := i.mus, mun := i.mun
            names := by
              refine ⟨_, hn', fun x' d' hx' hk' => ?_⟩
              show ∃ v', (if x' = x then some v else ml x') = some v' ∧ _
              have hx'' : (if x' = x then some d else F.m x') = some d' := hx'
              by_cases z : x' = x
              · rw [if_pos z] at hx'' ⊢
                cases hx''
                exact ⟨v, rfl, y.move st⟩
              · rw [if_neg z] at hx'' ⊢
                obtain ⟨v', e', y'⟩ := hv x' d' hx'' hk'
                exact ⟨v', e', y'.move st⟩
            cells := fun x' c hc => by
              obtain ⟨o', ho', hv'⟩ := i.cells x' c hc
              refine ⟨o', ho'.sameBut hs (i.cel _ _ hc).2, fun d' hd' hk' => ?_⟩
              have hd'' : (if x' = x then some d else F.m x') = some d' := hd'
              by_cases z : x' = x
              · subst z
                have e1 : F.env.kindOf x' = some .cell := hk'
                rw [hl] at e1; cases e1
              · rw [if_neg z] at hd''
                obtain ⟨v', e', y'⟩ := hv' d' hd'' hk'
                exact ⟨v', e', y'.move st⟩
            muts := fun p hp => by
              obtain ⟨vs, hl', hv'⟩ := i.muts p hp
              exact ⟨vs, hl'.at fun o e => (hs.2 _ (i.mus p hp).2.1).trans e, hv'.move st⟩
            x := F.xs _ _ i.x kb }
  · obtain ⟨c, hc⟩ := Option.isSome_iff_exists.mp hc
    obtain ⟨o₀, ho₀, hv₀⟩ := i.cells x c hc
    refine wpAny_storeName_cell hk hl hc ho₀ fun h' hc' hs => ?_
    have hco := i.cel _ _ hc
    have kb : ∀ b o, b ∉ F.oo → h.get? b = some o → h'.get? b = some o := fun b o nb e => (hs.2 b fun z => nb (z ▸ hco.1)).trans e
    have st := Fm.stay (F := F) kb
    refine q h' _ ?_ kb
    exact { keep := fun b o e => (hs.2 b fun z => Nat.lt_irrefl _ (Nat.lt_of_lt_of_le (Heap.lt_size e) (z ▸ i.above _ (.inl hco.1)))).trans (i.keep b o e)
            above := i.above
            alive := fun a ha => by
              by_cases z : a = c
              · subst z; obtain ⟨oo, ho, _⟩ := hc'; exact ⟨oo, ho⟩
              · obtain ⟨oo, e⟩ := i.alive a ha; exact ⟨oo, (hs.2 a z).trans e⟩
            sep := i.sep, n0 := i.n0, loc := i.loc, cel := i.cel, apart := i.apart, mus := i.mus, mun := i.mun
            names := by
              obtain ⟨ml, hn, hv⟩ := i.names
              refine ⟨ml, hn.sameBut hs (Ne.symm hco.2), fun x' d' hx' hk' => ?_⟩
              have hx'' : (if x' = x then some d else F.m x') = some d' := hx'
              by_cases z : x' = x
              · subst z
                have e1 : F.env.kindOf x' = some .local := hk'
                rw [hl] at e1; cases e1
              · rw [if_neg z] at hx''
                obtain ⟨v', e', y'⟩ := hv x' d' hx'' hk'
                exact ⟨v', e', y'.move st⟩
            cells := fun x' c' hc'' => by
              by_cases z : x' = x
              · subst z
                have e1 : F.env.cells.lookup x' = some c' := hc''
                rw [hc] at e1; cases e1
                refine ⟨_, hc', fun d' hd' _ => ?_⟩
                have hd'' : (if x' = x' then some d else F.m x') = some d' := hd'
                rw [if_pos rfl] at hd''
                cases hd''
                exact ⟨v, rfl, y.move st⟩
              · obtain ⟨o', ho', hv'⟩ := i.cells x' c' hc''
                refine ⟨o', ho'.sameBut hs (fun e => z (i.apart x' c' x hc'' (e ▸ hc))), fun d' hd' hk' => ?_⟩
                have hd'' : (if x' = x then some d else F.m x') = some d' := hd'
                rw [if_neg z] at hd''
                obtain ⟨v', e', y'⟩ := hv' d' hd'' hk'
                exact ⟨v', e', y'.move st⟩
            muts := fun p hp => by
              obtain ⟨vs, hl', hv'⟩ := i.muts p hp
              exact ⟨vs, hl'.at fun o e => (hs.2 _ (fun z => (i.mus p hp).2.2 _ _ hc z.symm)).trans e, hv'.move st⟩
            x := F.xs _ _ i.x kb }

theorem ld_name {F : Fm} {x : Str} {d : D} {h : Heap} {tk : Nat} {g dd o} {Q : Value → Shared → Prop} (i : F.I h) (hv : F.m x = some d) (hk : F.env.scope.kind = .function) (hx : F.own x)
    (q : ∀ v, Is F.N h d v → Q v ⟨h, g, dd, tk, o⟩) : wpAny (model P0 w) A (loadName F.env x) Q E ⟨h, g, dd, tk, o⟩ := by
  rcases hx with hl | ⟨hl, hc⟩
  · obtain ⟨ml, hn, hv'⟩ := i.names
    obtain ⟨v, e, y⟩ := hv' x d hv hl
    exact wpAny_loadName_local hk hl hn e (q _ y)
  · obtain ⟨c, hc⟩ := Option.isSome_iff_exists.mp hc
    obtain ⟨o₀, ho₀, hv₀⟩ := i.cells x c hc
    obtain ⟨v, e, y⟩ := hv₀ d hv hl
    subst e
    exact wpAny_loadName_cell hk hl hc ho₀ (q _ y)
theorem gv_name {F : Fm} {env : Env} {x : Str} {p : Pos} {d : D} (he : F.env = env) (hv : F.m x = some d) (hk : F.env.scope.kind = .function) (hx : F.own x) (hd : (x == ("__debug__" : Str)) = false) : GV w A env F.cx (.Name x p) d :=
  he ▸ ⟨fun E h tk g dd o Q i q => wpAny_Name (ld_name i hv hk hx fun v y => q _ _ _ y (.refl _)) hd⟩

variable {Q : Flow → Shared → Prop} {h : Heap} {tk : Nat} {g dd o}

theorem wx_nil {env : Env} (q : Q .next ⟨h, g, dd, tk, o⟩) : wpAny (model P0 w) A (execs [] env) Q E ⟨h, g, dd, tk, o⟩ := wpAny_execs_nil q

theorem wx_assign {F : Fm} {env : Env} {x : Str} {px : Pos} {e : Expr} {pos : Pos} {rest : List Stmt} {d : D} (i : F.I h) (he : F.env = env) (G : GV w A env F.cx e d) (hk : F.env.scope.kind = .function) (hx : F.own x)
    (hs : swapsWith e (some (.Name x px)) pos.line env = pure false)
    (q : ∀ h' tk', (F.set x d).I h' → wpAny (model P0 w) A (execs rest env) Q E ⟨h', g, dd, tk', o⟩) : wpAny (model P0 w) A (execs (.Assign [.Name x px] e pos :: rest) env) Q E ⟨h, g, dd, tk, o⟩ := by
  subst he
  refine wpAny_execs_cons (wpAny_Assign_Name (G.go E h tk g dd o _ i fun v h' tk' y k => ?_) hs)
  exact st_name (i.keeps k) y hk hx fun h₂ tk₂ i₂ _ => q h₂ tk₂ i₂

theorem wx_return {F : Fm} {env : Env} {e : Expr} {pos : Pos} {rest : List Stmt} {d : D} (i : F.I h) (he : F.env = env) (G : GV w A env F.cx e d) (q : ∀ v h' tk', Is F.N h' d v → F.I h' → Q (.ret v) ⟨h', g, dd, tk', o⟩) :
    wpAny (model P0 w) A (execs (.Return (some e) pos :: rest) env) Q E ⟨h, g, dd, tk, o⟩ := by
  subst he
  exact wpAny_execs_cons (wpAny_Return_some (G.go E h tk g dd o _ i fun v h' tk' y k => q v h' tk' y (i.keeps k)))

theorem wx_if {F : Fm} {env : Env} {t : Expr} {b e : List Stmt} {pos : Pos} {rest : List Stmt} {c : Bool} (i : F.I h) (he : F.env = env) (G : GT w A env F.cx t c)
    (q1 : c = true → ∀ h' tk', F.I h' → wpAny (model P0 w) A (execs b env) (fun f s' => match f with | .next => wpAny (model P0 w) A (execs rest env) Q E s' | f => Q f s') E ⟨h', g, dd, tk', o⟩)
    (q2 : c = false → ∀ h' tk', F.I h' → wpAny (model P0 w) A (execs e env) (fun f s' => match f with | .next => wpAny (model P0 w) A (execs rest env) Q E s' | f => Q f s') E ⟨h', g, dd, tk', o⟩) :
    wpAny (model P0 w) A (execs (.If t b e pos :: rest) env) Q E ⟨h, g, dd, tk, o⟩ := by
  subst he
  refine wpAny_execs_cons (wpAny_If (G.go E h tk g dd o _ i fun h' tk' k => ?_))
  cases c with
  | true => exact q1 rfl h' tk' (i.keeps k)
  | false => exact q2 rfl h' tk' (i.keeps k)

theorem wx_aug_int {F : Fm} {env : Env} {x : Str} {px : Pos} {e : Expr} {pos : Pos} {rest : List Stmt} {a b : Int} (i : F.I h) (he : F.env = env) (hv : F.m x = some (.int a)) (G : GV w A env F.cx e (.int b)) (hk : F.env.scope.kind = .function) (hx : F.own x)
    (q : ∀ h' tk', (F.set x (.int (a + b))).I h' → wpAny (model P0 w) A (execs rest env) Q E ⟨h', g, dd, tk', o⟩) : wpAny (model P0 w) A (execs (.AugAssign (.Name x px) .Add e pos :: rest) env) Q E ⟨h, g, dd, tk, o⟩ := by
  subst he
  refine wpAny_execs_cons (wpAny_AugAssign_Name (ld_name i hv hk hx fun v y => G.go E h tk g dd o _ i fun v' h' tk' y' k => ?_))
  cases y; cases y'
  exact iadd_int (st_name (d := .int (a + b)) (i.keeps k) (.int _ _) hk hx fun h₂ tk₂ i₂ _ => q h₂ tk₂ i₂)
end

structure Ao (A : Around) (n : Nat) : Prop where
  hh : A.handled = none
  dp : A.depth + n < recursionLimit
  un : A.units + 8 * n + 200 < cLine

theorem Ao.less {A : Around} {n m : Nat} (a : Ao A n) (h : m ≤ n) : Ao A m := ⟨a.hh, Nat.lt_of_le_of_lt (Nat.add_le_add_left h _) a.dp, by have := a.un; omega⟩

structure Fd (w : World) (mg mb : Str → Option Value) (k : Addr) (i n : Nat) (ds : List D) (d : D) : Prop where
  go : ∀ (A : Around) (E : Value → Shared → Prop) (h : Heap) (tk : Nat) (g dd o) (Q : Value → Shared → Prop) (f : Value) (vs : List Value) (N : Addr → Prop), mg (dfn i).name = some f → Glo w mg mb k h → (∀ a, h.objs.size ≤ a → N a) → Iss N h ds vs → Ao A n →
    (∀ v h' tk', Is N h' d v → KP h h' → Q v ⟨h', g, dd, tk', o⟩) → wpAny (model P0 w) A (call f vs) Q E ⟨h, g, dd, tk, o⟩

def fm0 (h₀ : Heap) (N₀ : Addr → Prop) (i : Nat) (ds : List D) (L a : Addr) (cd : Value) : Fm :=
  { h₀ := h₀, N₀ := N₀, env := envOfC (dfn i).name (dfn i).scope L a cd, m := fun x => (((dfn i).params.args.map (·.arg)).zip ds).lookup x, mu := [],
    oo := L :: (cellsFrom (L + 1) (dfn i).scope.names []).filterMap (fun p => (cellsFrom (L + 1) (dfn i).scope.names []).lookup p.1), ex := [], X := fun _ => True, xs := fun _ _ x _ => x }

structure Bd (w : World) (mg mb : Str → Option Value) (k : Addr) (i n : Nat) (ds : List D) (d : D) : Prop where
  go : ∀ (A : Around) (E : Value → Shared → Prop) (h : Heap) (tk : Nat) (g dd o) (Q : Flow → Shared → Prop) (N₀ : Addr → Prop) (h₀ : Heap) (L a : Addr) (cd : Value), Glo w mg mb k h₀ → Ao A n → (fm0 h₀ N₀ i ds L a cd).I h →
    (∀ v h' tk', Is (fm0 h₀ N₀ i ds L a cd).N h' d v → KP h₀ h' → Q (.ret v) ⟨h', g, dd, tk', o⟩) → wpAny (model P0 w) A (execs (dfn i).body (envOfC (dfn i).name (dfn i).scope L a cd)) Q E ⟨h, g, dd, tk, o⟩
end Mine
end

section
open PySem PySem.W PyProof.Rows PySem.Calls
set_option maxRecDepth 100000
set_option linter.unusedVariables false
namespace Mine
theorem bindL_out {κ : Str → Option NameKind} {x : Str} : ∀ {names : List Str} {vs : List Value} {m : Str → Option Value}, x ∉ names → bindL κ (names.zip vs) m x = m x
  | [], _, _, _ => rfl
  | _ :: _, [], _, _ => rfl
  | n :: ns, v :: vs, m, hx => by
    have hn : x ≠ n := fun e => hx (e ▸ List.mem_cons_self)
    have hr : x ∉ ns := fun e => hx (List.mem_cons_of_mem _ e)
    show bindL κ (ns.zip vs) _ x = m x
    rw [bindL_out hr]
    split
    · exact if_neg hn
    · rfl
theorem bindL_in {κ : Str → Option NameKind} {x : Str} {d : D} {N : Addr → Prop} {h : Heap} (hk : κ x = some .local) : ∀ {names : List Str} {ds : List D} {vs : List Value} {m : Str → Option Value}, names.Nodup → Iss N h ds vs → (names.zip ds).lookup x = some d →
    ∃ v, bindL κ (names.zip vs) m x = some v ∧ Is N h d v
  | [], _, _, _, _, _, e => by cases e
  | _ :: _, [], _, _, _, _, e => by cases e
  | n :: ns, d' :: ds, v :: vs, m, nd, .cons y ys, e => by
    show ∃ v', bindL κ (ns.zip vs) _ x = some v' ∧ _
    rw [List.zip_cons_cons, List.lookup_cons] at e
    obtain ⟨hn, nd'⟩ := List.nodup_cons.mp nd
    cases hb : x == n with
    | true =>
      rw [hb] at e
      obtain rfl := beq_iff_eq.mp hb
      cases e
      rw [bindL_out hn, if_pos hk, if_pos rfl]
      exact ⟨v, rfl, y⟩
    | false =>
      rw [hb] at e
      exact bindL_in hk nd' ys e
theorem lookup_zip_mem {x : Str} {d : D} : ∀ {names : List Str} {ds : List D}, (names.zip ds).lookup x = some d → x ∈ names
  | [], _, e => by cases e
  | _ :: _, [], e => by cases e
  | n :: ns, d' :: ds, e => by
    rw [List.zip_cons_cons, List.lookup_cons] at e
    cases hb : x == n with
    | true => rw [beq_iff_eq.mp hb]; exact List.mem_cons_self
    | false => rw [hb] at e; exact List.mem_cons_of_mem _ (lookup_zip_mem e)

def pars (i : Nat) : List Str := (dfn i).params.args.map (·.arg)

def okFd (i len : Nat) : Bool :=
  decide (i ∈ defIdx) && decide ((pars i).Nodup) && (pars i).all (fun x => decide ((dfn i).scope.names.lookup x = some .local)) && decide ((dfn i).scope.kind = .function) && !(dfn i).scope.isCoroutine && !(dfn i).scope.isGenerator && decide ((pars i).length = len)

structure FdP (P : Heap → Prop) (w : World) (mg mb : Str → Option Value) (k : Addr) (i n : Nat) (ds : List D) (d : D) : Prop where
  go : ∀ (A : Around) (E : Value → Shared → Prop) (h : Heap) (tk : Nat) (g dd o) (Q : Value → Shared → Prop) (f : Value) (vs : List Value) (N : Addr → Prop), P h → mg (dfn i).name = some f → Glo w mg mb k h → (∀ a, h.objs.size ≤ a → N a) → Iss N h ds vs → Ao A n →
    (∀ v h' tk', Is N h' d v → KP h h' → Q v ⟨h', g, dd, tk', o⟩) → wpAny (model P0 w) A (call f vs) Q E ⟨h, g, dd, tk, o⟩
structure BdP (P : Heap → Prop) (w : World) (mg mb : Str → Option Value) (k : Addr) (i n : Nat) (ds : List D) (d : D) : Prop where
  go : ∀ (A : Around) (E : Value → Shared → Prop) (h : Heap) (tk : Nat) (g dd o) (Q : Flow → Shared → Prop) (N₀ : Addr → Prop) (h₀ : Heap) (L a : Addr) (cd : Value), P h₀ → Glo w mg mb k h₀ → Ao A n → (fm0 h₀ N₀ i ds L a cd).I h →
    (∀ v h' tk', Is (fm0 h₀ N₀ i ds L a cd).N h' d v → KP h₀ h' → Q (.ret v) ⟨h', g, dd, tk', o⟩) → wpAny (model P0 w) A (execs (dfn i).body (envOfC (dfn i).name (dfn i).scope L a cd)) Q E ⟨h, g, dd, tk, o⟩

theorem fdp_of_body {P : Heap → Prop} {w : World} {mg mb : Str → Option Value} {k : Addr} {i n : Nat} {ds : List D} {d : D} (ok : okFd i ds.length = true)
    (hbind : ∀ pm cd doc vs, vs.length = ds.length → bindArgs (docDef (dfn i).name (dfn i).params (dfn i).body (dfn i).scope pm cd doc) ⟨vs, []⟩ = pure ((pars i).zip vs))
    (B : BdP P w mg mb k i n ds d) : FdP P w mg mb k i (n + 1) ds d := by
  unfold okFd at ok
  simp only [Bool.and_eq_true, decide_eq_true_eq, Bool.not_eq_true', List.all_eq_true] at ok
  obtain ⟨⟨⟨⟨⟨⟨hi, hnd⟩, hloc⟩, hk⟩, hco⟩, hgen⟩, hlen⟩ := ok
  refine ⟨fun A E h tk g dd o Q f vs N hP hf G hN ha ao q => ?_⟩
  obtain ⟨a, ob, pm, cd, doc, e1, e2, e3, e4, _, _⟩ := G.fn _ (dfn_mem hi)
  rw [e1] at hf
  cases hf
  have hkind : ∀ x ∈ pars i, (envOfC (dfn i).name (dfn i).scope h.objs.size a (.ref cd)).kindOf x = some .local := hloc
  refine wpAny_call (call_cells (s := ⟨h, g, dd, tk, o⟩) (by have := ao.dp; omega) e2 e3 G.nolimit e4 (hbind pm (.ref cd) doc vs ha.length) (fun x hx => .inl (hloc x.1 (List.of_mem_zip hx).1)) (fun h₁ tk₁ F X => ?_) hco hgen hk)
  refine wpAny_mono (E := fun _ _ => False) (B.go (A.deeper _) (fun _ _ => False) h₁ tk₁ g dd o _ N h h.objs.size a (.ref cd) hP G ⟨ao.hh, ?_, ?_⟩ ?_ fun v h' tk' y kp => ?_) (fun _ _ x => x) fun _ _ x => x.elim
  · show A.depth + 1 + n < recursionLimit; have := ao.dp; omega
  · show A.units + 3 + 8 * n + 200 < cLine; have := ao.un; omega
  · have lo : ∀ a', a' ∈ (fm0 h N i ds h.objs.size a (.ref cd)).oo → h.objs.size ≤ a' := fun a' ha' => by
      rcases List.mem_cons.mp ha' with rfl | ha'
      · exact Nat.le_refl _
      · obtain ⟨p, hp, e⟩ := List.mem_filterMap.mp ha'
        exact Nat.le_of_lt (X.above p.1 a' (mem_of_lookup e))
    have mv : ∀ {d : D} {v : Value}, Is N h d v → Is (fm0 h N i ds h.objs.size a (.ref cd)).N h₁ d v := fun y => y.move fun b ob nb e =>
      ⟨F.keep b ob e, nb, fun hm => Nat.lt_irrefl _ (Nat.lt_of_lt_of_le (Heap.lt_size e) (lo b hm)), fun hm => by cases hm⟩
    exact
      { keep := F.keep
        above := fun a' ha' => ha'.elim (lo a') fun x => by cases x
        alive := fun a' ha' => by
          rcases ha' with ha' | ha'
          · rcases List.mem_cons.mp ha' with rfl | ha'
            · obtain ⟨ob, _, _, eo, _⟩ := F.ns; exact ⟨ob, eo⟩
            · obtain ⟨p, hp, e⟩ := List.mem_filterMap.mp ha'
              obtain ⟨ob, eo, _⟩ := X.cell p.1 a' e
              exact ⟨ob, eo⟩
          · cases ha'
        sep := fun a' ha' => by cases ha'
        n0 := hN
        loc := List.mem_cons_self
        cel := fun x c hc => ⟨List.mem_cons_of_mem _ (List.mem_filterMap.mpr ⟨_, mem_of_lookup hc, hc⟩), Nat.ne_of_gt (X.above _ _ (mem_of_lookup hc))⟩
        apart := fun x c x' hc hc' => name_of_addr X.apart (mem_of_lookup hc) (mem_of_lookup hc')
        mus := fun p hp => by cases hp
        mun := List.nodup_nil
        names := by
          refine ⟨_, F.ns, fun x d' hx hkx => ?_⟩
          obtain ⟨v, e, y⟩ := bindL_in (m := fun _ => none) hkx hnd ha hx
          exact ⟨v, e, mv y⟩
        cells := fun x c hc => by
          refine ⟨_, X.cell x c hc, fun d' hd' hk' => ?_⟩
          have hxp : x ∈ pars i := lookup_zip_mem hd'
          have e1 := (hkind x hxp).symm.trans hk'
          cases e1
        muts := fun p hp => by cases hp
        x := trivial }
  · exact q v h' tk' (y.mono fun a' na _ => na.1) kp
theorem fd_of_body {w : World} {mg mb : Str → Option Value} {k : Addr} {i n : Nat} {ds : List D} {d : D} (ok : okFd i ds.length = true)
    (hbind : ∀ pm cd doc vs, vs.length = ds.length → bindArgs (docDef (dfn i).name (dfn i).params (dfn i).body (dfn i).scope pm cd doc) ⟨vs, []⟩ = pure ((pars i).zip vs))
    (B : Bd w mg mb k i n ds d) : Fd w mg mb k i (n + 1) ds d :=
  ⟨fun A E h tk g dd o Q f vs N hf G hN ha ao q => (fdp_of_body (P := fun _ => True) ok hbind ⟨fun A E h tk g dd o Q N₀ h₀ L a cd _ G ao i q => B.go A E h tk g dd o Q N₀ h₀ L a cd G ao i q⟩).go A E h tk g dd o Q f vs N trivial hf G hN ha ao q⟩
end Mine
end

section
open PySem PySem.W PyProof.Rows PySem.Calls
set_option maxRecDepth 100000
set_option linter.unusedVariables false
namespace Mine
structure GC (w : World) (mg mb : Str → Option Value) (k : Addr) (C : Cx) : Prop where
  at' : ∀ h, C.I h → Glo w mg mb k h
structure EOk (env : Env) : Prop where
  kd : env.scope.kind = .function
  gl : env.globals = mainGlobals
  bl : env.builtins = builtinsNs

section
variable {w : World} {mg mb : Str → Option Value} {k : Addr} {A : Around} {C : Cx} {env : Env}

theorem Fm.gc {F : Fm} (G : Glo w mg mb k F.h₀) : GC w mg mb k F.cx := ⟨fun h i => G.keeps (Fm.I.keep i)⟩

theorem gv_glob {x : Str} {p : Pos} {v : Value} {d : D} (gc : GC w mg mb k C) (eo : EOk env) (hv : mg x = some v) (hd : ∀ N h, Is N h d v) (hx : env.kindOf x = some .globalImplicit) (hdb : (x == ("__debug__" : Str)) = false) :
    GV w A env C (.Name x p) d :=
  ⟨fun E h tk g dd o Q i q => Name_function_global eo.kd hx (by
    have G := gc.at' h i
    refine loadGlobal_global (mg := mg) ?_ hv (q _ _ _ (hd _ _) (.refl _))
    rw [eo.gl]; exact G.g) hdb⟩
theorem gv_blt {x : Str} {p : Pos} {v : Value} (gc : GC w mg mb k C) (eo : EOk env) (h1 : x ∉ bootMainNames) (h2 : x ∉ P0.boundNames) (hv : bootBuiltins x = some v) (hx : env.kindOf x = some .globalImplicit)
    (hdb : (x == ("__debug__" : Str)) = false) : GV w A env C (.Name x p) (.val v) :=
  ⟨fun E h tk g dd o Q i q => Name_function_global eo.kd hx (by
    have G := gc.at' h i
    refine loadGlobal_builtin (mg := mg) (mb := mb) ?_ (G.names x h1 h2) ?_ ((G.builtins x (fun e => h1 (by rw [e]; decide))).trans hv) (q _ _ _ (.val _) (.refl _))
    · rw [eo.gl]; exact G.g
    · rw [eo.bl]; exact G.b) hdb⟩

theorem args_of {f : Value} {es : List Expr} {ds : List D} {E} {h : Heap} {tk : Nat} {g dd o} {Q : Args → Shared → Prop} (i : C.I h) (Gs : GVs w A env C es ds) (p : Pos)
    (q : ∀ vs h' tk', Iss C.N h' ds vs → KP h h' → Q ⟨vs, []⟩ ⟨h', g, dd, tk', o⟩) : wpAny (model P0 w) A (evalArgs f true (backTo p (starEach es env)) []) Q E ⟨h, g, dd, tk, o⟩ := by
  rw [Gs.back]
  have key := Gs.go E h tk g dd o (fun vs s' => Q ⟨vs, []⟩ s') i q
  have pl := Gs.plain
  cases hz : starEach es env with
  | nil =>
    rw [hz] at key
    unfold evalArgs
    show wpAny _ A (spliced [] >>= _) Q E _
    refine wpAny_bind (wpAny_mono key (fun vs s' h' => ?_) fun _ _ x => x)
    exact wpAny_holding (wpAny_bind (wpAny_pure (wpAny_bind (wpAny_pure (wpAny_pure h')))))
  | cons x r =>
    rw [hz] at key pl
    obtain ⟨b, t⟩ := x
    obtain rfl : b = false := pl _ List.mem_cons_self
    exact evalArgs_plain key

theorem GVs.any {es : List Expr} {ds : List D} (Gs : GVs w A env C es ds) (p : Pos) : (backTo p (starEach es env)).any (·.1) = false := by
  rw [Gs.back, List.any_eq_false]
  intro x hx
  rw [Gs.plain x hx]; decide

structure CB (w : World) (A : Around) (f : Value) (ds : List D) (d : D) : Prop where
  go : ∀ (N : Addr → Prop) E h tk g dd o vs (Q : Value → Shared → Prop), (∀ l, h.objs.size ≤ l → N l) → Iss N h ds vs → (∀ v h' tk', Is N h' d v → KP h h' → Q v ⟨h', g, dd, tk', o⟩) → wpAny (model P0 w) A (call f vs) Q E ⟨h, g, dd, tk, o⟩

theorem gv_callB {x : Str} {p pos : Pos} {es : List Expr} {id : String} {ds : List D} {d : D} (hf : GV w A env C (.Name x p) (.val (.builtin id))) (Gs : GVs w A env C es ds) (c : CB w A (.builtin id) ds d) : GV w A env C (.Call (.Name x p) es [] pos) d :=
  ⟨fun E h tk g dd o Q i q => Call_Name rfl (hf.go E h tk g dd o _ i fun v h' tk' e kp => by
    cases e
    refine callWith_builtin (Gs.any pos) (args_of (C.keeps _ _ i kp) Gs pos fun vs h₂ tk₂ y k₂ => ?_)
    exact c.go C.N E h₂ tk₂ g dd o vs Q (fun l hl => C.fresh _ l (C.keeps _ _ (C.keeps _ _ i kp) k₂) hl) y fun v h₃ tk₃ z k₃ => q v h₃ tk₃ z ((kp.trans k₂).trans k₃))⟩
theorem gv_callT {x : Str} {p pos : Pos} {es : List Expr} {T : String} {ds : List D} {d : D} (hf : GV w A env C (.Name x p) (.val (.type T))) (Gs : GVs w A env C es ds) (c : CB w A (.type T) ds d) : GV w A env C (.Call (.Name x p) es [] pos) d :=
  ⟨fun E h tk g dd o Q i q => Call_Name rfl (hf.go E h tk g dd o _ i fun v h' tk' e kp => by
    cases e
    refine PyProof.Rows.callWith_type (Gs.any pos) (args_of (C.keeps _ _ i kp) Gs pos fun vs h₂ tk₂ y k₂ => ?_)
    exact c.go C.N E h₂ tk₂ g dd o vs Q (fun l hl => C.fresh _ l (C.keeps _ _ (C.keeps _ _ i kp) k₂) hl) y fun v h₃ tk₃ z k₃ => q v h₃ tk₃ z ((kp.trans k₂).trans k₃))⟩

theorem gv_callV {j n : Nat} {fe : Str} {p pos : Pos} {es : List Expr} {ds : List D} {d : D} {f : Value} (gc : GC w mg mb k C) (hj : j ∈ defIdx) (hfv : mg (dfn j).name = some f) (Gf : GV w A env C (.Name fe p) (.val f))
    (Gs : GVs w A env C es ds) (ao : Ao A n) (c : Fd w mg mb k j n ds d) : GV w A env C (.Call (.Name fe p) es [] pos) d :=
  ⟨fun E h tk g dd o Q i q => by
    have G := gc.at' h i
    obtain ⟨f', ob, pm, cdd, doc, e1, e2, e3, e4, _, _⟩ := G.fn _ (dfn_mem hj)
    refine Call_Name rfl (Gf.go E h tk g dd o _ i fun v h' tk' e kp => ?_)
    rw [hfv] at e1
    cases e1
    cases e
    refine callWith_function (args_of (C.keeps _ _ i kp) Gs pos fun vs h₂ tk₂ y k₂ => ⟨⟨k₂ _ _ (kp _ _ e2), e3⟩, ?_⟩)
    have i₂ := C.keeps _ _ (C.keeps _ _ i kp) k₂
    exact c.go A E h₂ tk₂ g dd o Q (.ref f') vs C.N hfv (gc.at' _ i₂) (fun l hl => C.fresh _ l i₂ hl) y ao fun v h₃ tk₃ z k₃ => q v h₃ tk₃ z ((kp.trans k₂).trans k₃)⟩
theorem gv_callF {hg : Heap} {j n : Nat} {p pos : Pos} {es : List Expr} {ds : List D} {d : D} {x : Str} (G : Glo w mg mb k hg) (gc : GC w mg mb k C) (eo : EOk env) (hj : j ∈ defIdx) (hx : env.kindOf x = some .globalImplicit) (hdb : (x == ("__debug__" : Str)) = false) (hn : x = (dfn j).name)
    (Gs : GVs w A env C es ds) (ao : Ao A n) (c : Fd w mg mb k j n ds d) : GV w A env C (.Call (.Name x p) es [] pos) d := by
  obtain ⟨f', ob, pm, cdd, doc, e1, e2, e3, e4, _, _⟩ := G.fn _ (dfn_mem hj)
  exact gv_callV gc hj e1 (gv_glob gc eo (hn ▸ e1) (fun _ _ => .val _) hx hdb) Gs ao c
end

def ltF (a b : UInt64) : Bool := Float64.cmp a b == some .lt
def max3F (a b c : UInt64) : UInt64 := if ltF a b then (if ltF b c then c else b) else (if ltF a c then c else a)
def min3F (a b c : UInt64) : UInt64 := if ltF b a then (if ltF c b then c else b) else (if ltF c a then c else a)

section
variable {w : World} {A : Around} {E : Value → Shared → Prop}

theorem max_three_num {s : Shared} {Q : Value → Shared → Prop} {a b c : Value} (hh : A.handled = none) (ha : PySem.Flt.NumV a) (hb : PySem.Flt.NumV b) (hc : PySem.Flt.NumV c)
    (h : ∀ h' tk, (∀ d o, s.heap.get? d = some o → h'.get? d = some o) → Q (if PySem.Flt.ltV a b then (if PySem.Flt.ltV b c then c else b) else (if PySem.Flt.ltV a c then c else a)) { s with heap := h', toks := tk }) :
    wpAny (model P0 w) A (call (.builtin "max") [a, b, c]) Q E s := by
  have hT : (s.heap.push { cls := .type "tuple", data := .seq #[a, b, c] }).IsTuple s.heap.objs.size #[a, b, c] := ⟨_, Heap.get?_push_size _ rfl, rfl, 0, rfl⟩
  refine call_max_three (wpAny_pyIter_tuple hT ?_)
  have hsz : (s.heap.push { cls := .type "tuple", data := .seq #[a, b, c] }).objs.size = s.heap.objs.size + 1 := Heap.size_push ..
  refine ⟨_, [_, s.heap.objs.size], [_], _, _, _, _, rfl, Walks.tuple (A := A.in1) hh _ s.heap.objs.size (by rw [hsz]; exact Nat.ne_of_lt (Nat.lt_succ_self _)) #[a, b, c],
    ⟨⟨_, Heap.get?_push_size _ rfl, rfl, rfl⟩, hT.push _⟩, fun d hd => ?_, by simp, PySem.Flt.cmpOf_gt #[a, b, c] (by simp [ha, hb, hc]), fun v h' tk hP hk => ?_⟩
  · show d < ((s.heap.push _).push _).objs.size
    rw [Heap.size_push, hsz]
    rcases List.mem_cons.mp hd with rfl | hd
    · rw [hsz]; exact Nat.lt_succ_self _
    · rcases List.mem_cons.mp hd with rfl | hd
      · exact Nat.lt_succ_of_lt (Nat.lt_succ_self _)
      · cases hd
  · have hold : ∀ d o, s.heap.get? d = some o → h'.get? d = some o := fun d o e => by
      refine hk d o (fun hm => ?_) (Heap.get?_push_of_some _ (Heap.get?_push_of_some _ e))
      rcases List.mem_cons.mp hm with e1 | hm
      · have := Heap.lt_size e; rw [e1, hsz] at this; exact Nat.lt_irrefl _ (Nat.lt_of_succ_lt this)
      · cases hm
    have := h h' tk hold
    have hv : v = if PySem.Flt.ltV a b then (if PySem.Flt.ltV b c then c else b) else (if PySem.Flt.ltV a c then c else a) := by
      cases h1 : PySem.Flt.ltV a b <;> cases h2 : PySem.Flt.ltV b c <;> cases h3 : PySem.Flt.ltV a c <;> simp [argBest, h1, h2, h3] at hP <;> simp [hP]
    rw [hv]; exact this
theorem min_three_num {s : Shared} {Q : Value → Shared → Prop} {a b c : Value} (hh : A.handled = none) (ha : PySem.Flt.NumV a) (hb : PySem.Flt.NumV b) (hc : PySem.Flt.NumV c)
    (h : ∀ h' tk, (∀ d o, s.heap.get? d = some o → h'.get? d = some o) → Q (if PySem.Flt.ltV b a then (if PySem.Flt.ltV c b then c else b) else (if PySem.Flt.ltV c a then c else a)) { s with heap := h', toks := tk }) :
    wpAny (model P0 w) A (call (.builtin "min") [a, b, c]) Q E s := by
  have hT : (s.heap.push { cls := .type "tuple", data := .seq #[a, b, c] }).IsTuple s.heap.objs.size #[a, b, c] := ⟨_, Heap.get?_push_size _ rfl, rfl, 0, rfl⟩
  refine call_min_three (wpAny_pyIter_tuple hT ?_)
  have hsz : (s.heap.push { cls := .type "tuple", data := .seq #[a, b, c] }).objs.size = s.heap.objs.size + 1 := Heap.size_push ..
  refine ⟨_, [_, s.heap.objs.size], [_], _, _, _, _, rfl, Walks.tuple (A := A.in1) hh _ s.heap.objs.size (by rw [hsz]; exact Nat.ne_of_lt (Nat.lt_succ_self _)) #[a, b, c],
    ⟨⟨_, Heap.get?_push_size _ rfl, rfl, rfl⟩, hT.push _⟩, fun d hd => ?_, by simp, PySem.Flt.cmpOf_lt #[a, b, c] (by simp [ha, hb, hc]), fun v h' tk hP hk => ?_⟩
  · show d < ((s.heap.push _).push _).objs.size
    rw [Heap.size_push, hsz]
    rcases List.mem_cons.mp hd with rfl | hd
    · rw [hsz]; exact Nat.lt_succ_self _
    · rcases List.mem_cons.mp hd with rfl | hd
      · exact Nat.lt_succ_of_lt (Nat.lt_succ_self _)
      · cases hd
  · have hold : ∀ d o, s.heap.get? d = some o → h'.get? d = some o := fun d o e => by
      refine hk d o (fun hm => ?_) (Heap.get?_push_of_some _ (Heap.get?_push_of_some _ e))
      rcases List.mem_cons.mp hm with e1 | hm
      · have := Heap.lt_size e; rw [e1, hsz] at this; exact Nat.lt_irrefl _ (Nat.lt_of_succ_lt this)
      · cases hm
    have := h h' tk hold
    have hv : v = if PySem.Flt.ltV b a then (if PySem.Flt.ltV c b then c else b) else (if PySem.Flt.ltV c a then c else a) := by
      cases h1 : PySem.Flt.ltV b a <;> cases h2 : PySem.Flt.ltV c b <;> cases h3 : PySem.Flt.ltV c a <;> simp [argBest, h1, h2, h3] at hP <;> simp [hP]
    rw [hv]; exact this

theorem Iss.three {N : Addr → Prop} {h : Heap} {a b c : D} {vs : List Value} (x : Iss N h [a, b, c] vs) : ∃ u v t, vs = [u, v, t] ∧ Is N h a u ∧ Is N h b v ∧ Is N h c t := by
  cases x with | cons x y => cases y with | cons y z => cases z with | cons z r => cases r; exact ⟨_, _, _, rfl, x, y, z⟩
theorem Iss.one {N : Addr → Prop} {h : Heap} {a : D} {vs : List Value} (x : Iss N h [a] vs) : ∃ u, vs = [u] ∧ Is N h a u := by
  cases x with | cons x y => cases y; exact ⟨_, rfl, x⟩

theorem cb_max3 {x y z : UInt64} (hh : A.handled = none) : CB w A (.builtin "max") [.flt x, .flt y, .flt z] (.flt (max3F x y z)) :=
  ⟨fun N E h tk g dd o vs Q _ a q => by
    obtain ⟨u, v, t, rfl, y1, y2, y3⟩ := a.three
    cases y1; cases y2; cases y3
    refine max_three_num hh (.float _ _) (.float _ _) (.float _ _) fun h' tk' kp => ?_
    refine q _ h' tk' ?_ kp
    unfold max3F
    show Is N h' _ (if ltF x y then (if ltF y z then _ else _) else (if ltF x z then _ else _))
    repeat' split
    all_goals exact .flt _ _⟩
theorem cb_min3 {x y z : UInt64} (hh : A.handled = none) : CB w A (.builtin "min") [.flt x, .flt y, .flt z] (.flt (min3F x y z)) :=
  ⟨fun N E h tk g dd o vs Q _ a q => by
    obtain ⟨u, v, t, rfl, y1, y2, y3⟩ := a.three
    cases y1; cases y2; cases y3
    refine min_three_num hh (.float _ _) (.float _ _) (.float _ _) fun h' tk' kp => ?_
    refine q _ h' tk' ?_ kp
    unfold min3F
    show Is N h' _ (if ltF y x then (if ltF z y then _ else _) else (if ltF z x then _ else _))
    repeat' split
    all_goals exact .flt _ _⟩
end
end Mine
end

section
open PySem PySem.W PyProof.Rows PySem.Calls
set_option maxRecDepth 100000
set_option linter.unusedVariables false
namespace Mine
section
variable {w : World} {A : Around} {E : Value → Shared → Prop}

theorem draw_walks {I : Addr} {fp wr : List Addr} {N : Nat} {P : Nat → Value → Prop} {St : Nat → Heap → Prop} (W : Walks P0 w A I fp wr N P St) : ∀ (n i : Nat) (s : Shared) (Q : List Value → Shared → Prop), St i s.heap → i + n ≤ N →
    (∀ vs h' tk, vs.length = n → (∀ j v, vs[j]? = some v → P (i + j) v) → St (i + n) h' → (∀ b o, b ∉ wr → s.heap.get? b = some o → h'.get? b = some o) → Q vs { s with heap := h', toks := tk }) → wpAny (model P0 w) A (draw (.ref I) n) Q E s
  | 0, i, s, Q, st, _, hQ => by
    show wpAny _ _ (pure []) Q E s
    exact wpAny_pure (hQ [] s.heap s.toks rfl (fun j v e => by cases e) st fun _ _ _ e => e)
  | n + 1, i, s, Q, st, hle, hQ => by
    show wpAny _ _ (pyNext (.ref I) >>= _) Q E s
    refine wpAny_bind (W.item i s _ E (by omega) st fun v h₁ tk₁ hP st₁ k₁ => ?_)
    refine wpAny_bind (wpAny_holding (draw_walks W n (i + 1) _ _ st₁ (by omega) fun vs h₂ tk₂ hl hPs st₂ k₂ => wpAny_pure ?_))
    refine hQ (v :: vs) h₂ tk₂ (by simp [hl]) (fun j u e => ?_) (by rw [show i + (n + 1) = i + 1 + n by omega]; exact st₂) fun b o nb e => k₂ b o nb (k₁ b o nb e)
    cases j with
    | zero => cases e; exact hP
    | succ j => have := hPs j u e; rwa [show i + 1 + j = i + (j + 1) by omega] at this

theorem unpack_list {l : Addr} {items : Array Value} {s : Shared} {Q : List Value → Shared → Prop} (hh : A.handled = none) (hl : s.heap.IsList l items)
    (hQ : ∀ h' tk, KP s.heap h' → Q items.toList { s with heap := h', toks := tk }) : wpAny (model P0 w) A (unpackItems (.ref l) items.size none) Q E s := by
  have hlt : l ≠ s.heap.objs.size := by obtain ⟨o, ho, _⟩ := hl; exact Nat.ne_of_lt (Heap.lt_size ho)
  unfold unpackItems
  refine wpAny_bind ?_
  unfold notIterableAtAll
  refine wpAny_bind (wpAny_specialOf hl.typeIs slot_list_iter.lookup ?_)
  refine wpAny_pure ?_
  simp only [Bool.false_eq_true, if_false]
  refine wpAny_bind (wpAny_holding (wpAny_pyIter_list hl ?_))
  have W := Walks.list (prog := P0) (w := w) (A := A) hh s.heap.objs.size l hlt items
  refine wpAny_bind (wpAny_holding (draw_walks W items.size 0 _ _ ⟨⟨_, Heap.get?_push_size _ rfl, rfl, rfl⟩, hl.push _⟩ (by omega) fun vs h₁ tk₁ hlen hP st₁ k₁ => ?_))
  have hvs : vs = items.toList := list_of_places hlen fun j v e => by have := hP j v e; rwa [Nat.zero_add] at this
  subst hvs
  rw [if_neg (by simp)]
  refine wpAny_bind (wpAny_holding (W.done _ _ E (by rw [Nat.zero_add] at st₁; exact st₁) fun h₂ tk₂ k₂ => ?_))
  simp only [Option.isSome_none, Bool.false_eq_true, if_false]
  refine wpAny_pure (hQ h₂ tk₂ fun b o e => ?_)
  have nb : b ∉ [s.heap.objs.size] := fun hm => by
    rcases List.mem_cons.mp hm with z | z
    · exact Nat.lt_irrefl _ (z ▸ Heap.lt_size e)
    · cases z
  exact k₂ b o nb (k₁ b o nb (Heap.get?_push_of_some _ e))

inductive Un : D → List D → Prop
  | list (ds) : Un (.list ds) ds
  | tup (ds) : Un (.tup ds) ds

theorem un_items {N : Addr → Prop} {h : Heap} {tk : Nat} {g dd o} {d : D} {ds : List D} {x : Value} {n : Nat} {Q : List Value → Shared → Prop} (hh : A.handled = none) (u : Un d ds) (y : Is N h d x) (hn : n = ds.length)
    (hQ : ∀ vs h' tk', Iss N h' ds vs → KP h h' → Q vs ⟨h', g, dd, tk', o⟩) : wpAny (model P0 w) A (unpackItems x n none) Q E ⟨h, g, dd, tk, o⟩ := by
  cases u with
  | list =>
    cases y with
    | list na hl ys =>
      have := ys.length
      rw [Array.length_toList] at this
      rw [hn, ← this]
      exact unpack_list (s := ⟨h, g, dd, tk, o⟩) hh hl.isList fun h' tk' k => hQ _ _ _ (ys.keeps k) k
  | tup =>
    cases y with
    | tup na hl ys =>
      have := ys.length
      rw [Array.length_toList] at this
      rw [hn, ← this]
      refine wpAny_unpackItems_tuple (s := ⟨h, g, dd, tk, o⟩) hh hl fun h' k => ?_
      have kp : KP h h' := fun b ob e => k b ob (Nat.ne_of_lt (Heap.lt_size e)) e
      exact hQ _ _ _ (ys.keeps kp) kp

inductive Nms : List Expr → List Str → Prop
  | nil : Nms [] []
  | cons {x p es xs} : Nms es xs → Nms (.Name x p :: es) (x :: xs)

def Fm.sets (F : Fm) : List Str → List D → Fm
  | x :: xs, d :: ds => (F.set x d).sets xs ds
  | _, _ => F

theorem Fm.sets_oo (F : Fm) : ∀ (xs : List Str) (ds : List D), (F.sets xs ds).oo = F.oo ∧ (F.sets xs ds).env = F.env ∧ (F.sets xs ds).N = F.N
  | [], _ => ⟨rfl, rfl, rfl⟩
  | _ :: _, [] => ⟨rfl, rfl, rfl⟩
  | x :: xs, d :: ds => Fm.sets_oo (F.set x d) xs ds

theorem Nms.stars {env : Env} : ∀ {es : List Expr} {xs : List Str}, Nms es xs → (assignEach es env).length = xs.length ∧ (assignEach es env).findIdx? (·.1) = none
  | _, _, .nil => ⟨rfl, rfl⟩
  | _, _, .cons (x := x) (p := p) (es := es) r => by
    have := Nms.stars (env := env) r
    have e : assignEach (.Name x p :: es) env = (false, assign (.Name x p) env) :: assignEach es env := rfl
    rw [e]
    refine ⟨by simp [this.1], ?_⟩
    rw [List.findIdx?_cons]
    simp [this.2]

theorem as_names : ∀ {es : List Expr} {xs : List Str} {ds : List D} {vs : List Value} {F : Fm} {h : Heap} {tk : Nat} {g dd o} {Q : Unit → Shared → Prop}, Nms es xs → Iss F.N h ds vs → xs.length = ds.length → F.I h → F.env.scope.kind = .function → (∀ x ∈ xs, F.own x) →
    (∀ h' tk', (F.sets xs ds).I h' → (∀ b o, b ∉ F.oo → h.get? b = some o → h'.get? b = some o) → Q () ⟨h', g, dd, tk', o⟩) → wpAny (model P0 w) A (assignInOrder ((assignEach es F.env).map (·.2)) vs) Q E ⟨h, g, dd, tk, o⟩
  | _, _, _, _, F, h, tk, g, dd, o, Q, .nil, .nil, _, i, _, _, q => assignInOrder_nil (q h tk i fun _ _ _ e => e)
  | _, _, _, _, F, h, tk, g, dd, o, Q, .cons (x := x) (p := p) (es := es) r, .cons y ys, hl, i, hk, ho, q => by
    have e : assignEach (.Name x p :: es) F.env = (false, assign (.Name x p) F.env) :: assignEach es F.env := rfl
    rw [e, List.map_cons]
    refine assignInOrder_cons (PyProof.Rows.assign_Name (st_name i y hk (ho x List.mem_cons_self) fun h₁ tk₁ i₁ k₁ => ?_))
    refine as_names (F := F.set x _) r (ys.move (Fm.stay (F := F) k₁)) (by simpa using hl) i₁ hk (fun z hz => ho z (List.mem_cons_of_mem _ hz)) fun h₂ tk₂ i₂ k₂ => ?_
    exact q h₂ tk₂ i₂ fun b ob nb e => k₂ b ob nb (k₁ b ob nb e)

theorem as_tuple {es : List Expr} {k1 : Nat} {pos : Pos} {xs : List Str} {d : D} {ds : List D} {v : Value} {F : Fm} {h : Heap} {tk : Nat} {g dd o} {Q : Unit → Shared → Prop} (hh : A.handled = none) (nm : Nms es xs) (u : Un d ds) (y : Is F.N h d v) (hl : xs.length = ds.length) (i : F.I h)
    (hk : F.env.scope.kind = .function) (ho : ∀ x ∈ xs, F.own x) (q : ∀ h' tk', (F.sets xs ds).I h' → (∀ b o, b ∉ F.oo → h.get? b = some o → h'.get? b = some o) → Q () ⟨h', g, dd, tk', o⟩) :
    wpAny (model P0 w) A (assign (.Tuple es k1 pos) F.env v) Q E ⟨h, g, dd, tk, o⟩ := by
  rw [arm_assign_Tuple]
  refine wpAny_bind (wpAny_standAt ?_)
  unfold unpack
  obtain ⟨s1, s2⟩ := nm.stars (env := F.env)
  rw [s1, s2]
  refine wpAny_bind (wpAny_holding (un_items hh u y hl fun vs h' tk' ys k => ?_))
  exact as_names nm ys hl (i.keeps k) hk ho fun h₂ tk₂ i₂ k₂ => q h₂ tk₂ i₂ fun b ob nb e => k₂ b ob nb (k b ob e)

variable {Q : Flow → Shared → Prop} {h : Heap} {tk : Nat} {g dd o}

theorem wx_unpack {F : Fm} {env : Env} {es : List Expr} {k1 : Nat} {tp : Pos} {e : Expr} {pos : Pos} {rest : List Stmt} {xs : List Str} {d : D} {ds : List D} (i : F.I h) (he : F.env = env) (hh : A.handled = none) (G : GV w A env F.cx e d) (u : Un d ds) (nm : Nms es xs) (hl : xs.length = ds.length)
    (hk : F.env.scope.kind = .function) (ho : ∀ x ∈ xs, F.own x) (hs : swapsWithSole [.Tuple es k1 tp] e pos.line env = pure false) (hw : swappedStores [.Tuple es k1 tp] e env = pure none)
    (q : ∀ h' tk', (F.sets xs ds).I h' → wpAny (model P0 w) A (execs rest env) Q E ⟨h', g, dd, tk', o⟩) : wpAny (model P0 w) A (execs (.Assign [.Tuple es k1 tp] e pos :: rest) env) Q E ⟨h, g, dd, tk, o⟩ := by
  subst he
  refine wpAny_execs_cons (Assign_Tuple (G.go E h tk g dd o _ i fun v h' tk' y k => ?_) hs hw)
  exact as_tuple hh nm u y hl (i.keeps k) hk ho fun h₂ tk₂ i₂ _ => q h₂ tk₂ i₂

theorem bind_names : ∀ {xs : List Str} {ds : List D} {vs : List Value} {F : Fm} {h : Heap} {tk : Nat} {g dd o} {Q : Unit → Shared → Prop}, Iss F.N h ds vs → xs.length = ds.length → F.I h → F.env.scope.kind = .function → (∀ x ∈ xs, F.own x) →
    (∀ h' tk', (F.sets xs ds).I h' → Q () ⟨h', g, dd, tk', o⟩) → wpAny (model P0 w) A (assignInOrder (xs.map fun n => bindName F.env n) vs) Q E ⟨h, g, dd, tk, o⟩
  | [], _, _, F, h, tk, g, dd, o, Q, .nil, _, i, _, _, q => assignInOrder_nil (q h tk i)
  | x :: xs, _, _, F, h, tk, g, dd, o, Q, .cons y ys, hl, i, hk, ho, q => by
    rw [List.map_cons]
    refine assignInOrder_cons (bindName_ (st_name i y hk (ho x List.mem_cons_self) fun h₁ tk₁ i₁ k₁ => ?_))
    exact bind_names (F := F.set x _) (ys.move (Fm.stay (F := F) k₁)) (by simpa using hl) i₁ hk (fun z hz => ho z (List.mem_cons_of_mem _ hz)) fun h₂ tk₂ i₂ => q h₂ tk₂ i₂

theorem Iss.reverse {N : Addr → Prop} {h : Heap} : ∀ {ds : List D} {vs : List Value}, Iss N h ds vs → Iss N h ds.reverse vs.reverse
  | _, _, .nil => .nil
  | _, _, .cons x xs => by
    rw [List.reverse_cons, List.reverse_cons]
    exact Iss.append (.cons x .nil) (Iss.reverse xs)

theorem wx_unpack_swapped {F : Fm} {env : Env} {es : List Expr} {k1 : Nat} {tp : Pos} {e : Expr} {pos : Pos} {rest : List Stmt} {xs : List Str} {ds : List D} (i : F.I h) (he : F.env = env) (hh : A.handled = none) (G : GV w A env F.cx e (.tup ds)) (hl : xs.length = ds.length)
    (hk : F.env.scope.kind = .function) (ho : ∀ x ∈ xs, F.own x) (hs : swapsWithSole [.Tuple es k1 tp] e pos.line env = pure false) (hw : swappedStores [.Tuple es k1 tp] e env = pure (some xs))
    (q : ∀ h' tk', (F.sets xs.reverse ds.reverse).I h' → wpAny (model P0 w) A (execs rest env) Q E ⟨h', g, dd, tk', o⟩) : wpAny (model P0 w) A (execs (.Assign [.Tuple es k1 tp] e pos :: rest) env) Q E ⟨h, g, dd, tk, o⟩ := by
  subst he
  refine wpAny_execs_cons (Assign_Tuple_swapped (names := xs) (G.go E h tk g dd o _ i fun v h' tk' y k => ?_) hs hw)
  refine un_items hh (.tup ds) y hl fun vs h'' tk'' ys k' => ?_
  exact bind_names (F := F) ys.reverse (by simp [hl]) ((i.keeps k).keeps k') hk (fun x hx => ho x (List.mem_reverse.mp hx)) q
end
end Mine
end

section
open PySem PySem.W PyProof.Rows PySem.Calls
set_option maxRecDepth 100000
set_option linter.unusedVariables false
namespace Mine
section
variable {w : World} {A : Around}

structure Wk (w : World) (A : Around) (N : Addr → Prop) (h : Heap) (ds : List D) (I : Addr) (fp wr : List Addr) (P : Nat → Value → Prop) (St : Nat → Heap → Prop) : Prop where
  W : Walks P0 w A I fp wr ds.length P St
  fpN : ∀ b ∈ fp, b ∈ wr ∨ (N b ∧ ∃ o, h.get? b = some o)
  wrU : ∀ b ∈ wr, h.objs.size ≤ b
  live : ∀ i h', St i h' → ∀ b ∈ wr, ∃ o, h'.get? b = some o
  item : ∀ i v, i < ds.length → P i v → ∃ d, ds[i]? = some d ∧ Is N h d v
  lot : ∀ elts x1 pos T i (s : Shared) (Q : Unit → Shared → Prop) (E : Value → Shared → Prop), St i s.heap → Q () s → wpAny (model P0 w) A (letOwnedTupleGo (.Tuple elts x1 pos) (.ref I) T) Q E s

structure It (w : World) (A : Around) (d : D) (ds : List D) : Prop where
  go : ∀ (N : Addr → Prop) E h tk g dd o x (Q : Value → Shared → Prop), Is N h d x → (∀ l, h.objs.size ≤ l → N l) →
    (∀ I fp wr P St h' tk', Wk w A N h ds I fp wr P St → St 0 h' → KP h h' → h.objs.size ≤ h'.objs.size → Q (.ref I) ⟨h', g, dd, tk', o⟩) → wpAny (model P0 w) A (pyIter x) Q E ⟨h, g, dd, tk, o⟩

theorem size_push_le (h : Heap) (ob : Obj) : h.objs.size ≤ (h.push ob).objs.size := by rw [Heap.size_push]; exact Nat.le_succ _

theorem lot_of {elts : List Expr} {x1 : Nat} {pos : Pos} {I : Addr} {T : Value} {s : Shared} {Q : Unit → Shared → Prop} {E : Value → Shared → Prop} {ob : Obj} {n : String} {vs : Array Value} (ho : s.heap.get? I = some ob) (hc : ob.cls = .type n) (hd : ob.data = .fields vs)
    (hn : (["enumerate", "zip", "dict_itemiterator", "dict_reverseitemiterator", "odict_iterator", "itertools.zip_longest", "itertools.pairwise"].contains n) = false) (q : Q () s) : wpAny (model P0 w) A (letOwnedTupleGo (.Tuple elts x1 pos) (.ref I) T) Q E s := by
  cases T with
  | ref a =>
    unfold letOwnedTupleGo
    refine wpAny_bind (wpAny_load ho ?_)
    rw [hc, hd]
    show wpAny _ A (if (["enumerate", "zip", "dict_itemiterator", "dict_reverseitemiterator", "odict_iterator", "itertools.zip_longest", "itertools.pairwise"].contains n && vs[0]? == some (rawInt a)) = true then _ else _) Q E s
    rw [if_neg (by rw [hn, Bool.false_and]; decide)]
    exact wpAny_pure q
  | _ => exact wpAny_pure q

theorem it_list (ds : List D) (hh : A.handled = none) : It w A (.list ds) ds :=
  ⟨fun N E h tk g dd o x Q y hN q => by
    cases y with
    | @list a vs ds na hl ys =>
      have hlt : a ≠ h.objs.size := by obtain ⟨n, e⟩ := hl; exact Nat.ne_of_lt (Heap.lt_size e)
      have hlen : vs.size = ds.length := by have := ys.length; rwa [Array.length_toList] at this
      refine wpAny_pyIter_list (s := ⟨h, g, dd, tk, o⟩) hl.isList ?_
      refine q h.objs.size [h.objs.size, a] [h.objs.size] _ _ _ _ ⟨hlen ▸ Walks.list hh h.objs.size a hlt vs, fun b hb => ?_, fun b hb => ?_, fun i h' st b hb => ?_, fun i v hi e => ?_, fun elts x1 pos T i s Q E st q => ?_⟩ ⟨⟨_, Heap.get?_push_size _ rfl, rfl, rfl⟩, hl.isList.push _⟩ (.push _ _) (size_push_le _ _)
      · rcases List.mem_cons.mp hb with rfl | hb
        · exact .inl List.mem_cons_self
        · rcases List.mem_cons.mp hb with rfl | hb
          · obtain ⟨n, e⟩ := hl; exact .inr ⟨na, _, e⟩
          · cases hb
      · rcases List.mem_cons.mp hb with rfl | hb
        · exact Nat.le_refl _
        · cases hb
      · rcases List.mem_cons.mp hb with rfl | hb
        · obtain ⟨ob, e, _⟩ := st.1; exact ⟨ob, e⟩
        · cases hb
      · exact ys.get' i v (by rw [← e]; simp)
      · obtain ⟨ob, e, e1, e2⟩ := st.1
        exact lot_of e e1 e2 (by decide) q⟩
theorem it_tup (ds : List D) (hh : A.handled = none) : It w A (.tup ds) ds :=
  ⟨fun N E h tk g dd o x Q y hN q => by
    cases y with
    | @tup a vs ds na hl ys =>
      have hlt : a ≠ h.objs.size := by obtain ⟨n, e, _⟩ := hl; exact Nat.ne_of_lt (Heap.lt_size e)
      have hlen : vs.size = ds.length := by have := ys.length; rwa [Array.length_toList] at this
      refine wpAny_pyIter_tuple (s := ⟨h, g, dd, tk, o⟩) hl ?_
      refine q h.objs.size [h.objs.size, a] [h.objs.size] _ _ _ _ ⟨hlen ▸ Walks.tuple hh h.objs.size a hlt vs, fun b hb => ?_, fun b hb => ?_, fun i h' st b hb => ?_, fun i v hi e => ?_, fun elts x1 pos T i s Q E st q => ?_⟩ ⟨⟨_, Heap.get?_push_size _ rfl, rfl, rfl⟩, hl.push _⟩ (.push _ _) (size_push_le _ _)
      · rcases List.mem_cons.mp hb with rfl | hb
        · exact .inl List.mem_cons_self
        · rcases List.mem_cons.mp hb with rfl | hb
          · obtain ⟨n, e, _⟩ := hl; exact .inr ⟨na, _, e⟩
          · cases hb
      · rcases List.mem_cons.mp hb with rfl | hb
        · exact Nat.le_refl _
        · cases hb
      · rcases List.mem_cons.mp hb with rfl | hb
        · obtain ⟨ob, e, _⟩ := st.1; exact ⟨ob, e⟩
        · cases hb
      · exact ys.get' i v (by rw [← e]; simp)
      · obtain ⟨ob, e, e1, e2⟩ := st.1
        exact lot_of e e1 e2 (by decide) q⟩

theorem range_size (n : Nat) (hn : n ≤ 1000) : Builtin.Range.rangeSize 0 (n : Nat) 1 = (n : Nat) ∧ Builtin.Range.small 0 (n : Nat) 1 = true := by
  have key : ∀ m : Fin 1001, Builtin.Range.rangeSize 0 ((m.val : Nat) : Int) 1 = ((m.val : Nat) : Int) ∧ Builtin.Range.small 0 ((m.val : Nat) : Int) 1 = true := by decide +kernel
  exact key ⟨n, by omega⟩

theorem it_rng (n : Nat) (hn : n ≤ 1000) (hh : A.handled = none) : It w A (.rng n) ((List.range n).map fun i => .int (i : Nat)) :=
  ⟨fun N E h tk g dd o x Q y hN q => by
    cases y with
    | @rng a n t u v na hr =>
      obtain ⟨e1, e2⟩ := range_size n hn
      refine wpAny_pyIter_range (s := ⟨h, g, dd, tk, o⟩) hr e2 ?_
      rw [e1]
      have hlen : n = ((List.range n).map fun i => D.int (i : Nat)).length := by simp
      have W := Walks.range (prog := P0) (w := w) (A := A) hh h.objs.size 0 1 n
      refine q h.objs.size [h.objs.size] [h.objs.size] _ _ _ _ ⟨hlen ▸ W, fun b hb => .inl hb, fun b hb => ?_, fun i h' st b hb => ?_, fun i v hi e => ?_, fun elts x1 pos T i s Q E st q => ?_⟩ ?_ (.push _ _) (size_push_le _ _)
      · rcases List.mem_cons.mp hb with rfl | hb
        · exact Nat.le_refl _
        · cases hb
      · rcases List.mem_cons.mp hb with rfl | hb
        · exact ⟨_, st⟩
        · cases hb
      · obtain ⟨t, rfl⟩ := e
        have hi' : i < n := by simpa using hi
        refine ⟨.int (i : Nat), by simp [hi'], ?_⟩
        rw [show (0 : Int) + (i : Nat) * 1 = (i : Nat) by omega]
        exact .int _ _
      · exact lot_of st rfl rfl (by decide) q
      · show IsRangeIter _ _ _ _ _
        simpa using Heap.get?_push_size _ rfl⟩

def Fm.loop (F : Fm) (ex : List Addr) (X : Heap → Prop) (xs : ∀ h h', X h → (∀ b o, b ∉ F.oo → h.get? b = some o → h'.get? b = some o) → X h') (m : Str → Option D) (mu : List (Addr × List D)) : Fm :=
  { F with ex := ex, X := X, xs := xs, m := m, mu := mu }

theorem Fm.I.exturn {F : Fm} {h h' : Heap} (i : F.I h) (X : Heap → Prop) (xs : ∀ h h', X h → (∀ b o, b ∉ F.oo → h.get? b = some o → h'.get? b = some o) → X h')
    (k : ∀ b o, b ∉ F.ex → h.get? b = some o → h'.get? b = some o) (al : ∀ a ∈ F.ex, ∃ o, h'.get? a = some o) (x : X h') : (F.loop F.ex X xs F.m F.mu).I h' := by
  have no : ∀ a, a ∈ F.oo → a ∉ F.ex := fun a h1 h2 => i.sep a h2 h1
  have mv : ∀ a o, F.N a → h.get? a = some o → h'.get? a = some o ∧ F.N a := fun a o n e => ⟨k a o n.2.2 e, n⟩
  exact
    { keep := fun b o e => k b o (fun hm => Nat.lt_irrefl _ (Nat.lt_of_lt_of_le (Heap.lt_size e) (i.above b (.inr hm)))) (i.keep b o e)
      above := i.above
      alive := fun a ha => by
        rcases ha with ha | ha
        · obtain ⟨o, e⟩ := i.alive a (.inl ha); exact ⟨o, k a o (no a ha) e⟩
        · exact al a ha
      sep := i.sep, n0 := i.n0, loc := i.loc, cel := i.cel, apart := i.apart, mus := i.mus, mun := i.mun
      names := by
        obtain ⟨ml, hn, hv⟩ := i.names
        refine ⟨ml, hn.at' fun o e => k _ o (no _ i.loc) e, fun x d hx hk => ?_⟩
        obtain ⟨v, e, y⟩ := hv x d hx hk
        exact ⟨v, e, y.move mv⟩
      cells := fun x c hc => by
        obtain ⟨o, ⟨ob, ho, hd⟩, hv⟩ := i.cells x c hc
        refine ⟨o, ⟨ob, k _ _ (no _ (i.cel x c hc).1) ho, hd⟩, fun d hd hk => ?_⟩
        obtain ⟨v, e, y⟩ := hv d hd hk
        exact ⟨v, e, y.move mv⟩
      muts := fun p hp => by
        obtain ⟨vs, hl, hv⟩ := i.muts p hp
        exact ⟨vs, hl.at fun o e => k _ o (no _ (i.mus p hp).1) e, hv.move mv⟩
      x := x }

theorem Fm.I.exdrop {F : Fm} {h h' : Heap} (i : F.I h) (ex : List Addr) (X : Heap → Prop) (xs : ∀ h h', X h → (∀ b o, b ∉ F.oo → h.get? b = some o → h'.get? b = some o) → X h') (sub : ∀ a ∈ ex, a ∈ F.ex)
    (k : ∀ b o, (b ∈ F.ex → b ∈ ex) → h.get? b = some o → h'.get? b = some o) (x : X h') : (F.loop ex X xs F.m F.mu).I h' := by
  have no : ∀ a, a ∈ F.oo → a ∈ F.ex → a ∈ ex := fun a h1 h2 => absurd h1 (i.sep a h2)
  have mv : ∀ a o, F.N a → h.get? a = some o → h'.get? a = some o ∧ (F.loop ex X xs F.m F.mu).N a := fun a o n e => ⟨k a o (fun q => absurd q n.2.2) e, n.1, n.2.1, fun q => n.2.2 (sub a q)⟩
  exact
    { keep := fun b o e => k b o (fun hm => absurd (Nat.lt_of_lt_of_le (Heap.lt_size e) (i.above b (.inr hm))) (Nat.lt_irrefl _)) (i.keep b o e)
      above := fun a ha => i.above a (ha.imp id (sub a))
      alive := fun a ha => by
        rcases ha with ha | ha
        · obtain ⟨o, e⟩ := i.alive a (.inl ha); exact ⟨o, k a o (no a ha) e⟩
        · obtain ⟨o, e⟩ := i.alive a (.inr (sub a ha)); exact ⟨o, k a o (fun _ => ha) e⟩
      sep := fun a ha => i.sep a (sub a ha)
      n0 := i.n0, loc := i.loc, cel := i.cel, apart := i.apart, mus := i.mus, mun := i.mun
      names := by
        obtain ⟨ml, hn, hv⟩ := i.names
        refine ⟨ml, hn.at' fun o e => k _ o (no _ i.loc) e, fun x d hx hk => ?_⟩
        obtain ⟨v, e, y⟩ := hv x d hx hk
        exact ⟨v, e, y.move mv⟩
      cells := fun x c hc => by
        obtain ⟨o, ⟨ob, ho, hd⟩, hv⟩ := i.cells x c hc
        refine ⟨o, ⟨ob, k _ _ (no _ (i.cel x c hc).1) ho, hd⟩, fun d hd hk => ?_⟩
        obtain ⟨v, e, y⟩ := hv d hd hk
        exact ⟨v, e, y.move mv⟩
      muts := fun p hp => by
        obtain ⟨vs, hl, hv⟩ := i.muts p hp
        exact ⟨vs, hl.at fun o e => k _ o (no _ (i.mus p hp).1) e, hv.move mv⟩
      x := x }

theorem Fm.I.addex {F : Fm} {h h' : Heap} (i : F.I h) (wr : List Addr) (X : Heap → Prop) (xs : ∀ h h', X h → (∀ b o, b ∉ F.oo → h.get? b = some o → h'.get? b = some o) → X h') (k : KP h h') (up : ∀ a ∈ wr, h.objs.size ≤ a) (al : ∀ a ∈ wr, ∃ o, h'.get? a = some o) (x : X h') :
    (F.loop (wr ++ F.ex) X xs F.m F.mu).I h' := by
  have nw : ∀ {a : Addr}, a < h.objs.size → a ∉ wr := fun hl hm => Nat.lt_irrefl _ (Nat.lt_of_lt_of_le hl (up _ hm))
  have mv : ∀ a o, F.N a → h.get? a = some o → h'.get? a = some o ∧ (F.loop (wr ++ F.ex) X xs F.m F.mu).N a := fun a o n e =>
    ⟨k a o e, n.1, n.2.1, fun hm => (List.mem_append.mp hm).elim (nw (Heap.lt_size e)) n.2.2⟩
  exact
    { keep := i.keep.trans k
      above := fun a ha => by
        rcases ha with ha | ha
        · exact i.above a (.inl ha)
        · rcases List.mem_append.mp ha with ha | ha
          · exact Nat.le_trans (Nat.le_of_lt i.up) (up a ha)
          · exact i.above a (.inr ha)
      alive := fun a ha => by
        rcases ha with ha | ha
        · obtain ⟨o, e⟩ := i.alive a (.inl ha); exact ⟨o, k _ _ e⟩
        · rcases List.mem_append.mp ha with ha | ha
          · exact al a ha
          · obtain ⟨o, e⟩ := i.alive a (.inr ha); exact ⟨o, k _ _ e⟩
      sep := fun a ha hm => by
        rcases List.mem_append.mp ha with ha | ha
        · obtain ⟨o, e⟩ := i.alive a (.inl hm); exact nw (Heap.lt_size e) ha
        · exact i.sep a ha hm
      n0 := i.n0, loc := i.loc, cel := i.cel, apart := i.apart, mus := i.mus, mun := i.mun
      names := by
        obtain ⟨ml, hn, hv⟩ := i.names
        refine ⟨ml, hn.keeps k, fun x d hx hk => ?_⟩
        obtain ⟨v, e, y⟩ := hv x d hx hk
        exact ⟨v, e, y.move mv⟩
      cells := fun x c hc => by
        obtain ⟨o, ho, hv⟩ := i.cells x c hc
        refine ⟨o, ho.keeps k, fun d hd hk => ?_⟩
        obtain ⟨v, e, y⟩ := hv d hd hk
        exact ⟨v, e, y.move mv⟩
      muts := fun p hp => by
        obtain ⟨vs, hl, hv⟩ := i.muts p hp
        exact ⟨vs, hl.at fun o e => k _ o e, hv.move mv⟩
      x := x }

theorem Fm.I.less {F : Fm} {h : Heap} (i : F.I h) (ex : List Addr) (X : Heap → Prop) (xs : ∀ h h', X h → (∀ b o, b ∉ F.oo → h.get? b = some o → h'.get? b = some o) → X h') (m : Str → Option D) (sub : ∀ a ∈ ex, a ∈ F.ex) (hm : ∀ x d, m x = some d → F.m x = some d) (x : X h) :
    (F.loop ex X xs m F.mu).I h := by
  have mv : ∀ a, F.N a → a < h.objs.size → (F.loop ex X xs m F.mu).N a := fun a n _ => ⟨n.1, n.2.1, fun q => n.2.2 (sub a q)⟩
  exact
    { keep := i.keep
      above := fun a ha => i.above a (ha.imp id (sub a))
      alive := fun a ha => i.alive a (ha.imp id (sub a))
      sep := fun a ha => i.sep a (sub a ha)
      n0 := i.n0, loc := i.loc, cel := i.cel, apart := i.apart, mus := i.mus, mun := i.mun
      names := by
        obtain ⟨ml, hn, hv⟩ := i.names
        refine ⟨ml, hn, fun x d hx hk => ?_⟩
        obtain ⟨v, e, y⟩ := hv x d (hm x d hx) hk
        exact ⟨v, e, y.mono mv⟩
      cells := fun x c hc => by
        obtain ⟨o, ho, hv⟩ := i.cells x c hc
        refine ⟨o, ho, fun d hd hk => ?_⟩
        obtain ⟨v, e, y⟩ := hv d (hm x d hd) hk
        exact ⟨v, e, y.mono mv⟩
      muts := fun p hp => by
        obtain ⟨vs, hl, hv⟩ := i.muts p hp
        exact ⟨vs, hl, hv.mono mv⟩
      x := x }
theorem Fm.I.only {F : Fm} {h : Heap} (i : F.I h) (m : Str → Option D) (hm : ∀ x d, m x = some d → F.m x = some d) : ({ F with m := m } : Fm).I h := i.less F.ex F.X F.xs m (fun _ h => h) hm i.x

inductive Tg : Expr → D → List Str → List D → Prop
  | name {x p d} : Tg (.Name x p) d [x] [d]
  | tup {es xs d ds k p} : Nms es xs → Un d ds → xs.length = ds.length → Tg (.Tuple es k p) d xs ds

theorem wx_for {E : Value → Shared → Prop} {F : Fm} {env : Env} {target iter : Expr} {body : List Stmt} {pos : Pos} {rest : List Stmt} {d : D} {ds : List D} {h : Heap} {tk : Nat} {g dd o} {Q : Flow → Shared → Prop}
    (ms : Nat → Str → Option D) (mus : Nat → List (Addr × List D)) (xs : List Str) (tds : Nat → List D)
    (i : F.I h) (he : F.env = env) (hh : A.handled = none) (G : GV w A env F.cx iter d) (it : It w A d ds) (hs : ∀ x, foldedSetIterable iter env x = pure x) (hk : F.env.scope.kind = .function)
    (tg : ∀ j dj, ds[j]? = some dj → Tg target dj xs (tds j)) (ho : ∀ x ∈ xs, F.own x) (h0 : ∀ x d, ms 0 x = some d → F.m x = some d) (u0 : mus 0 = F.mu)
    (step : ∀ j ex X xs' (E' : Value → Shared → Prop) (h' : Heap) (tk' : Nat) (Q' : Flow → Shared → Prop), j < ds.length → ((F.loop ex X xs' (ms j) (mus j)).sets xs (tds j)).I h' →
      (∀ h'' tk'', (F.loop ex X xs' (ms (j + 1)) (mus (j + 1))).I h'' → Q' .next ⟨h'', g, dd, tk'', o⟩) → wpAny (model P0 w) A (execs body env) Q' E' ⟨h', g, dd, tk', o⟩)
    (q : ∀ h' tk', ({ F with m := ms ds.length, mu := mus ds.length } : Fm).I h' → wpAny (model P0 w) A (execs rest env) Q E ⟨h', g, dd, tk', o⟩) :
    wpAny (model P0 w) A (execs (.For target iter body [] pos :: rest) env) Q E ⟨h, g, dd, tk, o⟩ := by
  subst he
  refine wpAny_execs_cons (wpAny_For (G.go E h tk g dd o _ i fun v h₁ tk₁ y k₁ => ?_) hs)
  have i₁ := i.keeps k₁
  refine it.go F.N E h₁ tk₁ g dd o v _ y (fun l hl => i₁.fresh l hl) fun I fp wr P St h₂ tk₂ K st₀ k₂ hsz₂ => ?_
  have wno : ∀ b ∈ wr, b ∉ F.oo := fun b hb hm => by
    obtain ⟨ob, e⟩ := i₁.alive b (.inl hm)
    exact Nat.lt_irrefl _ (Nat.lt_of_lt_of_le (Heap.lt_size e) (K.wrU b hb))
  have fno : ∀ b ∈ fp, b ∉ F.oo := fun b hb => (K.fpN b hb).elim (wno b) fun n => n.1.2.1
  let X : Nat → Heap → Prop := fun j h => F.X h ∧ St j h ∧ ∀ b o, b ∉ F.oo → h₁.get? b = some o → h.get? b = some o
  have xst : ∀ j h h', X j h → (∀ b o, b ∉ F.oo → h.get? b = some o → h'.get? b = some o) → X j h' := fun j h h' x k => ⟨F.xs h h' x.1 k, K.W.frame j h h' x.2.1 fun b hb o e => k b o (fno b hb) e, fun b o nb e => k b o nb (x.2.2 b o nb e)⟩
  have wlo : ∀ {b : Addr} {ob : Obj}, h₁.get? b = some ob → b ∉ wr := fun e hm => Nat.lt_irrefl _ (Nat.lt_of_lt_of_le (Heap.lt_size e) (K.wrU _ hm))
  have fxe : ∀ b ∈ F.ex, ∀ hb : b ∈ wr, False := fun b hb hw => by
    obtain ⟨ob, e⟩ := i₁.alive b (.inr hb)
    exact wlo e hw
  refine codeAny_forLoop_any (fun n s => ∃ j h' tk', n = ds.length + 1 - j ∧ j ≤ ds.length ∧ s = ⟨h', g, dd, tk', o⟩ ∧ (F.loop (wr ++ F.ex) (X j) (xst j) (ms j) (mus j)).I h') ?_ (ds.length + 1) ?_
  · rintro n s ⟨j, h', tk', rfl, hj, rfl, ij⟩
    by_cases hlt : j < ds.length
    · refine K.W.item j ⟨h', g, dd, tk', o⟩ _ _ hlt ij.x.2.1 fun v h₃ tk₃ hP st₃ k₃ => ?_
      obtain ⟨dj, ed, yd⟩ := K.item j v hlt hP
      have old₃ : ∀ b o, b ∉ F.oo → h₁.get? b = some o → h₃.get? b = some o := fun b ob nb e => k₃ b ob (wlo e) (ij.x.2.2 b ob nb e)
      have i₃ := ij.exturn (h' := h₃) (X (j + 1)) (xst (j + 1)) (fun b ob nb e => k₃ b ob (fun hm => nb (List.mem_append.mpr (.inl hm))) e)
        (fun a ha => by
          rcases List.mem_append.mp ha with ha | ha
          · exact K.live _ _ st₃ a ha
          · obtain ⟨ob, e⟩ := ij.alive a (.inr (List.mem_append.mpr (.inr ha)))
            exact ⟨ob, k₃ a ob (fun hw => fxe a ha hw) e⟩)
        ⟨F.xs _ _ i₁.x old₃, st₃, old₃⟩
      have yv : Is (F.loop (wr ++ F.ex) (X (j + 1)) (xst (j + 1)) (ms j) (mus j)).N h₃ dj v := yd.move fun a ob n e =>
        ⟨old₃ a ob n.2.1 e, n.1, n.2.1, fun hm => (List.mem_append.mp hm).elim (wlo e) n.2.2⟩
      have fin := fun Q' E' h₄ tk₄ => step j (wr ++ F.ex) (X (j + 1)) (xst (j + 1)) E' h₄ tk₄ Q' hlt
      have T := tg j dj ed
      generalize tds j = tj at T fin
      cases T with
      | name =>
        refine wpAny_pure ?_
        exact PyProof.Rows.assign_Name (st_name (F := F.loop (wr ++ F.ex) (X (j + 1)) (xst (j + 1)) (ms j) (mus j)) i₃ yv hk (ho _ List.mem_cons_self) fun h₄ tk₄ i₄ _ => fin _ _ h₄ tk₄ i₄ fun h₅ tk₅ i₅ => ⟨ds.length + 1 - (j + 1), by omega, j + 1, h₅, tk₅, rfl, hlt, rfl, i₅⟩)
      | tup nm u hl =>
        refine K.lot _ _ _ v (j + 1) _ _ _ st₃ ?_
        exact as_tuple (F := F.loop (wr ++ F.ex) (X (j + 1)) (xst (j + 1)) (ms j) (mus j)) hh nm u yv hl i₃ hk ho fun h₄ tk₄ i₄ _ => fin _ _ h₄ tk₄ i₄ fun h₅ tk₅ i₅ => ⟨ds.length + 1 - (j + 1), by omega, j + 1, h₅, tk₅, rfl, hlt, rfl, i₅⟩
    · obtain rfl : j = ds.length := by omega
      refine K.W.done ⟨h', g, dd, tk', o⟩ _ _ ij.x.2.1 fun h₃ tk₃ k₃ => ?_
      refine wpAny_execs_nil ?_
      have old₃ : ∀ b o, b ∉ F.oo → h₁.get? b = some o → h₃.get? b = some o := fun b ob nb e => k₃ b ob (wlo e) (ij.x.2.2 b ob nb e)
      have e₃ := ij.exdrop (h' := h₃) F.ex F.X F.xs (fun a ha => List.mem_append.mpr (.inr ha)) (fun b ob nb e => k₃ b ob (fun hw => fxe b (nb (List.mem_append.mpr (.inl hw))) hw) e) (F.xs _ _ i₁.x old₃)
      exact q h₃ tk₃ e₃
  · refine ⟨0, h₂, tk₂, rfl, Nat.zero_le _, rfl, ?_⟩
    have a := i₁.addex wr (X 0) (xst 0) k₂ K.wrU (K.live 0 _ st₀) ⟨F.xs _ _ i₁.x fun b ob _ e => k₂ b ob e, st₀, fun b ob _ e => k₂ b ob e⟩
    have b := a.less (wr ++ F.ex) (X 0) (xst 0) (ms 0) (fun _ h => h) h0 a.x
    rw [u0]; exact b
end
end Mine
end

section
open PySem PySem.W PyProof.Rows PySem.Calls
set_option maxRecDepth 100000
set_option linter.unusedVariables false
namespace Mine
structure GTs (w : World) (A : Around) (env : Env) (C : Cx) (ifs : List Expr) (c : Bool) : Prop where
  go : ∀ E h tk g dd o (Q : Bool → Shared → Prop), C.I h → (∀ h' tk', KP h h' → Q c ⟨h', g, dd, tk', o⟩) →
    wpAny (model P0 w) A (forIn ifs true fun c r => if r = true then do let ok ← isTrue c env (eval c env); pure (ForInStep.yield ok) else pure (ForInStep.yield r)) Q E ⟨h, g, dd, tk, o⟩

section
variable {w : World} {A : Around} {env : Env} {C : Cx}
theorem gts_nil : GTs w A env C [] true := ⟨fun E h tk g dd o Q i q => wpAny_tests_nil (q _ _ (.refl _))⟩
theorem gts_one {c : Expr} {b : Bool} (G : GT w A env C c b) : GTs w A env C [c] b := ⟨fun E h tk g dd o Q i q => wpAny_tests_one (G.go E h tk g dd o Q i q)⟩
end

structure CompAt (F : Fm) (Ca : Addr) (x : Str) (d : D) (C : Cx) : Prop where
  var : ∀ h, C.I h → ∃ m v, h.Ns Ca m ∧ m x = some v ∧ Is C.N h d v
  frm : ∀ h, C.I h → ∃ hb, F.I hb ∧ KP hb h ∧ ∀ a, F.N a → a < hb.objs.size → C.N a

theorem adr_ne {a b n : Nat} (h1 : a < n) (h2 : n ≤ b) : a ≠ b := by omega
theorem adr_no {a n : Nat} {p : Prop} (h1 : a < n) (h2 : n ≤ a) : p := absurd h1 (by omega)
theorem take_fm {outs : List (Option D)} {j : Nat} {od : Option D} (e : outs[j]? = some od) : (outs.take (j + 1)).filterMap id = (outs.take j).filterMap id ++ od.toList := by
  rw [List.take_add_one, e, List.filterMap_append]
  cases od <;> rfl

section
variable {w : World} {A : Around} {E : Value → Shared → Prop}

theorem comp_block {F : Fm} {elt iter : Expr} {x : Str} {px : Pos} {ifs : List Expr} {scope : Scope} {cl : List (Str × Addr)} {pos : Pos} {ds : List D} {outs : List (Option D)} {I : Addr} {fp wr : List Addr} {P : Nat → Value → Prop} {St : Nat → Heap → Prop}
    {h₁ h₂ : Heap} {tk₂ : Nat} {g dd o} {RR : Value → Addr → Result → Shared → Prop} (i₁ : F.I h₁) (K : Wk w A F.N h₁ ds I fp wr P St) (st₀ : St 0 h₂) (k₂ : KP h₁ h₂) (hsz₂ : h₁.objs.size ≤ h₂.objs.size)
    (hcell : ∀ y ∈ scope.names, y.2 ≠ .cell) (hkind : scope.kind = .function) (hx : scope.names.lookup x = some .local) (hlen : outs.length = ds.length) (hsz : ds.length ≤ 1000)
    (body : ∀ (j : Nat) dj od (C : Cx) (Ca : Addr), ds[j]? = some dj → outs[j]? = some od → CompAt F Ca x dj C → GTs w A (compEnvC scope cl Ca F.env) C ifs od.isSome ∧ ∀ d', od = some d' → GV w A (compEnvC scope cl Ca F.env) C elt d')
    (hRR : ∀ Da Ca h' tk' m' ys, h₁.objs.size ≤ Da → h₁.objs.size ≤ Ca → Da ≠ Ca → h'.Ns Ca m' → h'.PlainList Da ys → Iss (fun a => F.N a ∧ a ≠ Ca ∧ a ≠ Da) h' (outs.filterMap id) ys.toList → KP h₁ h' → RR (.ref Da) Ca (.ok .next) ⟨h', g, dd, tk', o⟩) :
    wpAny (model P0 w) A (newList []) (fun acc s₃ => wpAny (model P0 w) A (newFunctionEnv scope F.env.globals cl [] F.env.qual none .none (some F.env)) (fun cenv s₄ =>
      codeAny (model P0 w) A (.compStart (.ListComp elt [⟨.Name x px, iter, ifs, 0⟩] scope pos) 0 (.ref I) acc { cenv with scope := relabel scope F.env }) (RR acc cenv.locals) s₄) E s₃) E ⟨h₂, g, dd, tk₂, o⟩ := by
  refine wpAny_newObj_type (wpAny_newFunctionEnv hcell (by intro y hy; simp at hy) (fun h₃ hns₃ hsb₃ => ?_) hkind)
  dsimp only at hns₃ hsb₃ ⊢
  generalize hH2 : h₂.push { cls := .type "list", dict := none, data := .seq ([] : List Value).toArray } = H2 at hns₃ hsb₃ ⊢
  have hC : H2.objs.size = h₂.objs.size + 1 := by rw [← hH2, Heap.size_push]
  generalize hCa : H2.objs.size = Ca at hns₃ hsb₃ ⊢
  generalize hDa : h₂.objs.size = Da at hsz₂ ⊢
  have hDC' : Da < Ca := by rw [← hCa, hC, hDa]; exact Nat.lt_succ_self _
  have hDC : Da ≠ Ca := Nat.ne_of_lt hDC'
  have old : ∀ b ob, h₂.get? b = some ob → h₃.get? b = some ob := fun b ob e =>
    hsb₃.extBut b ob (adr_ne (Heap.lt_size e) (by rw [hDa]; exact Nat.le_of_lt hDC')) (Heap.get?_push_of_some _ (hH2 ▸ Heap.get?_push_of_some _ e))
  have hacc : h₃.PlainList Da #[] := by
    refine ⟨0, hsb₃.extBut _ _ hDC (Heap.get?_push_of_some _ (hH2 ▸ ?_))⟩
    rw [← hDa]; exact Heap.get?_push_size _ rfl
  have wlt : ∀ b ∈ wr, b < Da := fun b hb => by obtain ⟨ob, e⟩ := K.live 0 _ st₀ b hb; rw [← hDa]; exact Heap.lt_size e
  have flt : ∀ b ∈ fp, b < Da := fun b hb => by
    rcases K.fpN b hb with hw | ⟨_, ob, e⟩
    · exact wlt b hw
    · exact Nat.lt_of_lt_of_le (Heap.lt_size e) hsz₂
  have hst₃ : St 0 h₃ := K.W.frame _ _ _ st₀ fun b _ ob e => old b ob e
  have hCa₁ : h₁.objs.size ≤ Ca := Nat.le_trans hsz₂ (Nat.le_of_lt hDC')
  have nown : ∀ {b : Addr} {ob : Obj}, h₁.get? b = some ob → b ≠ Ca ∧ b ≠ Da ∧ b ∉ wr := fun e => by
    exact ⟨adr_ne (Heap.lt_size e) hCa₁, adr_ne (Heap.lt_size e) hsz₂, fun hm => adr_no (Heap.lt_size e) (K.wrU _ hm)⟩
  let N' : Addr → Prop := fun a => F.N a ∧ a ≠ Ca ∧ a ≠ Da ∧ a ∉ wr
  have loop : ∀ s₃ : Shared, s₃ = ⟨h₃, g, dd, tk₂ + ([] : List (Str × Value)).length, o⟩ →
      codeAny (model P0 w) A (.compLoop (.ListComp elt [⟨.Name x px, iter, ifs, 0⟩] scope pos) 0 (.ref I) (.ref Da) (compEnvC scope cl Ca F.env)) (RR (.ref Da) Ca) s₃ := by
    rintro s₃ rfl
    refine codeAny_compLoop_tests (fun k s' => ∃ j h' tk' m' ys, s' = ⟨h', g, dd, tk', o⟩ ∧ St j h' ∧ h'.PlainList Da ys ∧ h'.Ns Ca m' ∧ Iss N' h' ((outs.take j).filterMap id) ys.toList ∧ j ≤ ds.length ∧ k = ds.length + 1 - j ∧ KP h₁ h') ?_ (ds.length + 1)
      ⟨0, h₃, _, _, #[], rfl, hst₃, hacc, hns₃, .nil, Nat.zero_le _, rfl, fun b ob e => old b ob (k₂ b ob e)⟩
    rintro k s' ⟨j, h', tk', m', ys, rfl, st, hl, hn, hys, hj, rfl, kp⟩
    have cw : Ca ∉ wr := fun hm => adr_no (wlt _ hm) (Nat.le_of_lt hDC')
    have dw : Da ∉ wr := fun hm => Nat.lt_irrefl _ (wlt _ hm)
    by_cases hlt : j < ds.length
    · refine K.W.item j ⟨h', g, dd, tk', o⟩ _ _ hlt st fun v h₄ tk₄ hP st₄ k₄ => ?_
      obtain ⟨dj, ed, yd⟩ := K.item j v hlt hP
      obtain ⟨od, eo⟩ : ∃ od, outs[j]? = some od := by
        cases hz : outs[j]? with
        | some od => exact ⟨od, rfl⟩
        | none => rw [List.getElem?_eq_none_iff] at hz; omega
      refine wpAny_assign_Name (wpAny_storeName_local (lookup_relabel_local hx) (hn.at' fun ob e => k₄ _ ob cw e) (fun h₅ hn₅ hs₅ => ?_) (by show (scope.kind == .class || (scope.kind == .module && _)) = false; rw [hkind]; rfl))
      have k₅ : ∀ b ob, b ≠ Ca → b ∉ wr → h'.get? b = some ob → h₅.get? b = some ob := fun b ob hbc hbw e => hs₅.extBut b ob hbc (k₄ b ob hbw e)
      have kp₅ : KP h₁ h₅ := fun b ob e => k₅ b ob (nown e).1 (nown e).2.2 (kp b ob e)
      have st₅ : St (j + 1) h₅ := K.W.frame _ _ _ st₄ fun b hb ob e => hs₅.extBut b ob (adr_ne (flt b hb) (Nat.le_of_lt hDC')) e
      have hl₅ : h₅.PlainList Da ys := hl.at fun ob e => k₅ _ ob hDC dw e
      have hys₅ : Iss N' h₅ ((outs.take j).filterMap id) ys.toList := hys.move fun a ob n e => ⟨k₅ a ob n.2.1 n.2.2.2 e, n⟩
      let C : Cx :=
        { I := fun h => KP h₁ h ∧ (∃ m v, h.Ns Ca m ∧ m x = some v ∧ Is N' h dj v) ∧ (∀ a, a = Ca ∨ a = Da ∨ a ∈ wr → ∃ ob, h.get? a = some ob)
          N := N'
          keeps := fun h h' i k => ⟨i.1.trans k, (let ⟨m, v, a, b, c⟩ := i.2.1; ⟨m, v, a.keeps k, b, c.keeps k⟩), fun a ha => let ⟨ob, e⟩ := i.2.2 a ha; ⟨ob, k _ _ e⟩⟩
          fresh := fun h a i ha => by
            refine ⟨(i₁.keeps i.1).fresh a ha, fun z => ?_, fun z => ?_, fun z => ?_⟩
            · obtain ⟨ob, e⟩ := i.2.2 a (.inl z); exact adr_no (Heap.lt_size e) ha
            · obtain ⟨ob, e⟩ := i.2.2 a (.inr (.inl z)); exact adr_no (Heap.lt_size e) ha
            · obtain ⟨ob, e⟩ := i.2.2 a (.inr (.inr z)); exact adr_no (Heap.lt_size e) ha }
      have at' : CompAt F Ca x dj C := ⟨fun h i => i.2.1, fun h i => ⟨h₁, i₁, i.1, fun a n hlt => ⟨n, adr_ne hlt hCa₁, adr_ne hlt hsz₂, fun hm => adr_no hlt (K.wrU _ hm)⟩⟩⟩
      obtain ⟨b1, b2⟩ := body j dj od C Ca ed eo at'
      have yd₅ : Is N' h₅ dj v := yd.move fun a ob n e => ⟨kp₅ a ob e, n, (nown e).1, (nown e).2.1, (nown e).2.2⟩
      have ci : C.I h₅ := ⟨kp₅, ⟨_, v, hn₅, by simp, yd₅⟩, fun a ha => by
        rcases ha with rfl | rfl | ha
        · obtain ⟨ob, _, _, e, _⟩ := hn₅; exact ⟨ob, e⟩
        · obtain ⟨n, e⟩ := hl₅; exact ⟨_, e⟩
        · exact K.live _ _ st₅ a ha⟩
      refine b1.go _ h₅ _ g dd o _ ci fun h₆ tk₆ k₆ => ?_
      have c6 := C.keeps _ _ ci k₆
      have st₆ : St (j + 1) h₆ := K.W.frame _ _ _ st₅ fun b _ ob e => k₆ b ob e
      cases od with
      | none =>
        simp only [Option.isSome_none, Bool.false_eq_true, if_false]
        refine ⟨ds.length + 1 - (j + 1), by omega, j + 1, h₆, tk₆, _, ys, rfl, st₆, hl₅.at fun ob e => k₆ _ ob e, hn₅.keeps k₆, ?_, hlt, rfl, kp₅.trans k₆⟩
        rw [take_fm eo]; simpa using hys₅.keeps k₆
      | some d' =>
        simp only [Option.isSome_some, if_true]
        refine (b2 d' rfl).go _ h₆ tk₆ g dd o _ c6 fun y h₇ tk₇ yy k₇ => ?_
        have hys₇ : Iss N' h₇ ((outs.take j).filterMap id) ys.toList := (hys₅.keeps k₆).keeps k₇
        have hysz : ys.size ≤ 1000 := by
          have e1 := hys₇.length
          rw [Array.length_toList] at e1
          have e2 : ((outs.take j).filterMap id).length ≤ (outs.take j).length := List.length_filterMap_le _ _
          have e3 : (outs.take j).length ≤ j := by rw [List.length_take]; omega
          omega
        refine wpAny_list_append_plain (s := ⟨h₇, g, dd, tk₇, o⟩) (hsz := Nat.le_trans hysz (by decide)) ((hl₅.at fun ob e => k₆ _ ob e).at fun ob e => k₇ _ ob e) fun h₈ hl₈ hs₈ => ?_
        have k₈ : ∀ b ob, b ≠ Da → h₇.get? b = some ob → h₈.get? b = some ob := fun b ob nb e => hs₈.extBut b ob nb e
        refine ⟨ds.length + 1 - (j + 1), by omega, j + 1, h₈, tk₇, _, ys.push y, rfl, ?_, hl₈, ((hn₅.keeps k₆).keeps k₇).sameBut hs₈ (Ne.symm hDC), ?_, hlt, rfl, fun b ob e => k₈ b ob (nown e).2.1 (k₇ _ _ (k₆ _ _ (kp₅ b ob e)))⟩
        · exact K.W.frame _ _ _ st₆ fun b hb ob e => k₈ b ob (Nat.ne_of_lt (flt b hb)) (k₇ _ _ e)
        · rw [take_fm eo, Array.toList_push]
          exact Iss.append (.cons (yy.move fun a ob n e => ⟨k₈ a ob n.2.2.1 e, n⟩) .nil) (hys₇.move fun a ob n e => ⟨k₈ a ob n.2.2.1 e, n⟩)
    · obtain rfl : j = ds.length := by omega
      refine K.W.done ⟨h', g, dd, tk', o⟩ _ _ st fun h₄ tk₄ k₄ => ?_
      refine hRR Da Ca h₄ tk₄ m' ys hsz₂ hCa₁ hDC (hn.at' fun ob e => k₄ _ ob cw e) (hl.at fun ob e => k₄ _ ob dw e) ?_ fun b ob e => k₄ b ob (nown e).2.2 (kp b ob e)
      rw [List.take_of_length_le (by omega)] at hys
      exact hys.move fun a ob n e => ⟨k₄ a ob n.2.2.2 e, n.1, n.2.1, n.2.2.1⟩
  exact codeAny_compStart_list (loop _ rfl) (K.W.self 0 _ _ _ hst₃ (loop _ rfl))

theorem gv_comp {F : Fm} {env : Env} {elt iter : Expr} {x : Str} {px : Pos} {ifs : List Expr} {scope : Scope} {cl : List (Str × Addr)} {pos : Pos} {d : D} {ds : List D} (outs : List (Option D)) (he : F.env = env) (G : GV w A env F.cx iter d) (it : It w A d ds)
    (hclos : closureFor scope env = pure cl) (hcell : ∀ y ∈ scope.names, y.2 ≠ .cell) (hkind : scope.kind = .function) (hnames : ∀ y ∈ scope.names, y.2 = .local → scope.names.lookup y.1 = some .local) (hx : scope.names.lookup x = some .local)
    (hs : ∀ x, foldedSetIterable iter env x = pure x) (hlen : outs.length = ds.length) (hsz : ds.length ≤ 1000)
    (body : ∀ (j : Nat) dj od (C : Cx) (Ca : Addr), ds[j]? = some dj → outs[j]? = some od → CompAt F Ca x dj C → GTs w A (compEnvC scope cl Ca env) C ifs od.isSome ∧ ∀ d', od = some d' → GV w A (compEnvC scope cl Ca env) C elt d') :
    GV w A env F.cx (.ListComp elt [⟨.Name x px, iter, ifs, 0⟩] scope pos) (.list (outs.filterMap id)) := by
  subst he
  refine ⟨fun E h tk g dd o Q i q => ?_⟩
  rw [eval_ListComp]
  refine wpAny_comprehension_free (use := none) rfl hs hclos hkind hnames (G.go E h tk g dd o _ i fun v h₁ tk₁ y k₁ => ?_)
  have i₁ : F.I h₁ := Fm.I.keeps i k₁
  refine it.go F.N E h₁ tk₁ g dd o v _ y (fun l hl => i₁.fresh l hl) fun I fp wr P St h₂ tk₂ K st₀ k₂ hsz₂ => ?_
  refine comp_block (RR := fun acc C => compPost (model P0 w) A E none Q acc C) i₁ K st₀ k₂ hsz₂ hcell hkind hx hlen hsz body fun Da Ca h' tk' m' ys hD hC hDC hn hl hys kp => ?_
  refine ⟨m', hn, fun h'' hs'' => ?_⟩
  have kc : ∀ b ob, b ≠ Ca → h'.get? b = some ob → h''.get? b = some ob := fun b ob nb e => hs''.extBut b ob nb e
  refine q _ h'' tk' (.list (vs := ys) (i₁.fresh _ hD) (hl.at fun ob e => kc _ ob hDC e) (hys.move fun a ob n e => ⟨kc a ob n.2.1 e, n.1⟩)) fun b ob e => ?_
  exact kc b ob (adr_ne (Heap.lt_size (k₁ _ _ e)) hC) (kp b ob (k₁ _ _ e))

theorem wx_assign_comp {F : Fm} {env : Env} {elt iter : Expr} {x y : Str} {px py : Pos} {ifs : List Expr} {scope : Scope} {cl : List (Str × Addr)} {pos spos : Pos} {rest : List Stmt} {d : D} {ds : List D} {h : Heap} {tk : Nat} {g dd o} {Q : Flow → Shared → Prop} (outs : List (Option D))
    (i : F.I h) (he : F.env = env) (G : GV w A env F.cx iter d) (it : It w A d ds) (hk : F.env.scope.kind = .function) (hy : F.own y)
    (hsw : swapsWith (.ListComp elt [⟨.Name x px, iter, ifs, 0⟩] scope pos) (some (.Name y py)) spos.line env = pure true)
    (hclos : closureFor scope env = pure cl) (hcell : ∀ y ∈ scope.names, y.2 ≠ .cell) (hkind : scope.kind = .function) (hnames : ∀ y ∈ scope.names, y.2 = .local → scope.names.lookup y.1 = some .local) (hx : scope.names.lookup x = some .local)
    (hs : ∀ x, foldedSetIterable iter env x = pure x) (hlen : outs.length = ds.length) (hsz : ds.length ≤ 1000)
    (body : ∀ (j : Nat) dj od (C : Cx) (Ca : Addr), ds[j]? = some dj → outs[j]? = some od → CompAt F Ca x dj C → GTs w A (compEnvC scope cl Ca env) C ifs od.isSome ∧ ∀ d', od = some d' → GV w A (compEnvC scope cl Ca env) C elt d')
    (q : ∀ h' tk', (F.set y (.list (outs.filterMap id))).I h' → wpAny (model P0 w) A (execs rest env) Q E ⟨h', g, dd, tk', o⟩) :
    wpAny (model P0 w) A (execs (.Assign [.Name y py] (.ListComp elt [⟨.Name x px, iter, ifs, 0⟩] scope pos) spos :: rest) env) Q E ⟨h, g, dd, tk, o⟩ := by
  subst he
  refine wpAny_execs_cons ?_
  rw [exec_Assign_Name_used _ _ _ _ hsw]
  refine wpAny_bind (wpAny_standAt (wpAny_bind ?_))
  show wpAny _ A (do let _ ← comprehension (.ListComp elt [⟨.Name x px, iter, ifs, 0⟩] scope pos) scope F.env _ (newList []) false (eval iter F.env) (some (assign (.Name y py) F.env))) _ _ _
  refine wpAny_bind (wpAny_mono (wpAny_comprehension_free (use := some (assign (.Name y py) F.env)) (Q := fun _ s' => wpAny (model P0 w) A (execs rest F.env) Q E s') rfl hs hclos hkind hnames
    (G.go E h tk g dd o _ i fun v h₁ tk₁ yv k₁ => ?_)) (fun _ s' hq => wpAny_pure (wpAny_pure hq)) fun _ _ e => e)
  have i₁ : F.I h₁ := Fm.I.keeps i k₁
  refine it.go F.N E h₁ tk₁ g dd o v _ yv (fun l hl => i₁.fresh l hl) fun I fp wr P St h₂ tk₂ K st₀ k₂ hsz₂ => ?_
  refine comp_block (RR := fun acc C => compPost (model P0 w) A E (some (assign (.Name y py) F.env)) (fun _ s' => wpAny (model P0 w) A (execs rest F.env) Q E s') acc C) i₁ K st₀ k₂ hsz₂ hcell hkind hx hlen hsz body
    fun Da Ca h' tk' m' ys hD hC hDC hn hl hys kp => ?_
  show wpAny _ A (assign (.Name y py) F.env (.ref Da)) _ _ _
  have cno : Ca ∉ F.oo := fun hm => by obtain ⟨ob, e⟩ := i₁.alive _ (.inl hm); exact adr_no (Heap.lt_size e) hC
  have cne : Ca ∉ F.ex := fun hm => by obtain ⟨ob, e⟩ := i₁.alive _ (.inr hm); exact adr_no (Heap.lt_size e) hC
  have xsC : ∀ h h', (F.X h ∧ ∃ m, h.Ns Ca m) → (∀ b o, b ∉ F.oo → h.get? b = some o → h'.get? b = some o) → (F.X h' ∧ ∃ m, h'.Ns Ca m) := fun a b x k => ⟨F.xs a b x.1 k, let ⟨m, hm⟩ := x.2; ⟨m, hm.at' fun ob e => k _ ob cno e⟩⟩
  have i' := i₁.addex [Ca] (fun h => F.X h ∧ ∃ m, h.Ns Ca m) xsC kp
    (fun a ha => by rcases List.mem_cons.mp ha with rfl | ha; exact hC; cases ha)
    (fun a ha => by rcases List.mem_cons.mp ha with rfl | ha; (obtain ⟨ob, _, _, e, _⟩ := hn; exact ⟨ob, e⟩); cases ha)
    ⟨F.xs _ _ i₁.x fun b ob _ e => kp b ob e, m', hn⟩
  have dN : F.N Da := i₁.fresh _ hD
  refine wpAny_assign_Name (st_name (F := F.loop ([Ca] ++ F.ex) (fun h => F.X h ∧ ∃ m, h.Ns Ca m) xsC F.m F.mu) i' (d := .list (outs.filterMap id)) (.list (vs := ys) ⟨dN.1, dN.2.1, fun hm => ?_⟩ hl (hys.mono fun a n _ => ⟨n.1.1, n.1.2.1, fun hm => ?_⟩)) hk hy fun h₃ tk₃ i₃ k₃ => ?_)
  · rcases List.mem_cons.mp hm with z | z
    · exact hDC z
    · exact dN.2.2 z
  · rcases List.mem_cons.mp hm with z | z
    · exact n.2.1 z
    · exact n.1.2.2 z
  obtain ⟨_, m₃, hm₃⟩ := i₃.x
  refine ⟨m₃, hm₃, fun h₄ hs₄ => q h₄ tk₃ ?_⟩
  refine i₃.exdrop (h' := h₄) F.ex F.X F.xs (fun a ha => List.mem_cons_of_mem _ ha) (fun b ob nb e => hs₄.extBut b ob (fun z => cne (z ▸ nb (z ▸ List.mem_cons_self))) e) ?_
  exact F.xs _ _ i₁.x fun b ob nb e => hs₄.extBut b ob (adr_ne (Heap.lt_size e) hC) (k₃ b ob nb (kp b ob e))
end
end Mine
end

section
open PySem PySem.W PyProof.Rows PySem.Calls
set_option maxRecDepth 100000
set_option linter.unusedVariables false
namespace Mine
section
variable {w : World} {mg mb : Str → Option Value} {k : Addr} {A : Around} {C : Cx} {env : Env} {F : Fm} {Ca : Addr} {x : Str} {d : D} {scope : Scope} {cl : List (Str × Addr)}

theorem CompAt.gc (a : CompAt F Ca x d C) (G : Glo w mg mb k F.h₀) : GC w mg mb k C := ⟨fun h i => by
  obtain ⟨hb, ib, kp, _⟩ := a.frm h i
  exact (G.keeps ib.keep).keeps kp⟩

theorem gv_cvar {p : Pos} (a : CompAt F Ca x d C) (hk : scope.kind = .function) (hx : scope.names.lookup x = some .local) (hd : (x == ("__debug__" : Str)) = false) : GV w A (compEnvC scope cl Ca env) C (.Name x p) d :=
  ⟨fun E h tk g dd o Q i q => by
    obtain ⟨m, v, hn, hv, y⟩ := a.var h i
    exact wpAny_Name (wpAny_loadName_local hk (lookup_relabel_local hx) hn hv (q _ _ _ y (.refl _))) hd⟩

theorem gv_ccell {y : Str} {p : Pos} {d' : D} {c : Addr} (a : CompAt F Ca x d C) (hv : F.m y = some d') (hc : F.env.cells.lookup y = some c) (hk₀ : F.env.kindOf y = some .cell) (hk : scope.kind = .function) (hcl : cl.lookup y = some c)
    (hl : (compEnvC scope cl Ca env).kindOf y = some .cell) (hd : (y == ("__debug__" : Str)) = false) : GV w A (compEnvC scope cl Ca env) C (.Name y p) d' :=
  ⟨fun E h tk g dd o Q i q => by
    obtain ⟨hb, ib, kp, kn⟩ := a.frm h i
    obtain ⟨o₀, ho₀, hv₀⟩ := ib.cells y c hc
    obtain ⟨v, e, yv⟩ := hv₀ d' hv hk₀
    subst e
    exact wpAny_Name (wpAny_loadName_cell hk hl hcl (ho₀.keeps kp) (q _ _ _ (yv.move fun a ob n e => ⟨kp a ob e, kn a n (Heap.lt_size e)⟩) (.refl _))) hd⟩

theorem gv_sub {value slice : Expr} {pos : Pos} {ds : List D} {k : Int} {d : D} (h1 : GV w A env C value (.list ds)) (h2 : GV w A env C slice (.int k)) (h0 : 0 ≤ k) (hfit : k < 2 ^ 63) (hd : ds[k.toNat]? = some d)
    (hs : ∀ l u, subscripted slice false (.ref l) (.int k u) = operate [.ref l, .int k u] (getItem (.ref l) (.int k u))) : GV w A env C (.Subscript value slice pos) d :=
  ⟨fun E h tk g dd o Q i q => Subscript_ (h1.go E h tk g dd o _ i fun v h' tk' y kp => h2.go E h' tk' g dd o _ (C.keeps _ _ i kp) fun v' h'' tk'' y' kp' => by
    have y₂ := y.keeps kp'
    cases y' with
    | int k u =>
    cases y₂ with
    | list na hl ys =>
      obtain ⟨v, ev, yv⟩ := ys.get k.toNat d hd
      exact item_listR (s := ⟨h'', g, dd, tk'', o⟩) hl.isList h0 hfit (by rw [← ev]; simp) (q _ _ _ yv (kp.trans kp')) (hs _ _))⟩

theorem gt_chain2 {l r₁ r₂ : Expr} {op₁ op₂ : CmpOp} {p : Pos} {a b c : D} {t₁ t₂ : Bool} (h1 : GV w A env C l a) (h2 : GV w A env C r₁ b) (h3 : GV w A env C r₂ c) (c1 : Cm w A op₁ a b t₁) (c2 : Cm w A op₂ b c t₂) (hm : lastMarks [op₁, op₂] [r₁, r₂] = false) :
    GT w A env C (.Compare l [op₁, op₂] [r₁, r₂] p) (t₁ && t₂) :=
  ⟨fun E h tk g dd o Q i q => isTrue_chain (h1.go E h tk g dd o _ i fun v h₁ tk₁ y k₁ => test_link (h2.go E h₁ tk₁ g dd o _ (C.keeps _ _ i k₁) fun v' h₂ tk₂ y' k₂ =>
    c1.go C.N E h₂ tk₂ g dd o _ _ _ (y.keeps k₂) y' fun h₃ tk₃ k₃ => wpAny_truthy_bool (by
      cases t₁ with
      | false => exact q _ _ ((k₁.trans k₂).trans k₃)
      | true => exact test_last (h3.go E h₃ tk₃ g dd o _ (C.keeps _ _ i ((k₁.trans k₂).trans k₃)) fun v'' h₄ tk₄ y'' k₄ =>
          c2.go C.N E h₄ tk₄ g dd o _ _ _ ((y'.keeps k₃).keeps k₄) y'' fun h₅ tk₅ k₅ => wpAny_truthy_bool (q _ _ ((((k₁.trans k₂).trans k₃).trans k₄).trans k₅)))))) hm⟩

theorem cm_isnot_none {d : D} (hd : ∀ N h v, Is N h d v → v ≠ .none ∧ plainIs v .none = true) : Cm w A .IsNot d .none true := ⟨fun N E h tk g dd o x y Q hx hy q => by
  cases hy; exact wpAny_isNot_other (hd _ _ _ hx).2 (hd _ _ _ hx).1 (q _ _ (.refl _))⟩
theorem cm_is_none {d : D} (hd : ∀ N h v, Is N h d v → v ≠ .none ∧ plainIs v .none = true) : Cm w A .Is d .none false := ⟨fun N E h tk g dd o x y Q hx hy q => by
  cases hy; exact wpAny_is_other (hd _ _ _ hx).2 (hd _ _ _ hx).1 (q _ _ (.refl _))⟩
theorem cm_isnot_nn : Cm w A .IsNot .none .none false := ⟨fun N E h tk g dd o x y Q hx hy q => by cases hx; cases hy; exact wpAny_isNot_self rfl (q _ _ (.refl _))⟩
theorem cm_isnot_bb {a b : Bool} : Cm w A .IsNot (.bool a) (.bool b) (a != b) := ⟨fun N E h tk g dd o x y Q hx hy q => by
  cases hx; cases hy
  refine wpAny_isNot_plain rfl ?_
  have : (!(Value.bool a == Value.bool b)) = (a != b) := by cases a <;> cases b <;> rfl
  rw [this]; exact q _ _ (.refl _)⟩
theorem nn_list (ds : List D) : ∀ N h v, Is N h (.list ds) v → v ≠ .none ∧ plainIs v .none = true := fun N h v y => by cases y; exact ⟨(by intro e; cases e), rfl⟩

theorem op_div_ii {a b : Int} (hh : A.handled = none) (hfit : a.natAbs < 2 ^ 1023) (hb : b ≠ 0) : Op w A .Div (.int a) (.int b) (.flt (Float64.ofFrac (decide (a < 0) != decide (b < 0)) a.natAbs b.natAbs)) :=
  ⟨fun N E h tk g dd o x y Q _ hx hy q => by cases hx; cases hy; exact PySem.Flt.div_ii_fits hh hfit (fun e => absurd e hb) fun _ _ => q _ _ _ (.flt _ _) (.refl _)⟩
theorem op_sub_fi {a : UInt64} {n : Int} (hfit : n.natAbs < 2 ^ 1023) : Op w A .Sub (.flt a) (.int n) (.flt (Float64.sub a (Float64.ofInt n))) := ⟨fun N E h tk g dd o x y Q _ hx hy q => by cases hx; cases hy; exact PyProof.Rows.sub_fi_fits hfit (q _ _ _ (.flt _ _) (.refl _))⟩
theorem op_mul_fi {a : UInt64} {n : Int} (hfit : n.natAbs < 2 ^ 1023) : Op w A .Mult (.flt a) (.int n) (.flt (Float64.mul a (Float64.ofInt n))) := ⟨fun N E h tk g dd o x y Q _ hx hy q => by cases hx; cases hy; exact PyProof.Rows.mul_fi_fits hfit (q _ _ _ (.flt _ _) (.refl _))⟩

theorem cb_int {a : UInt64} (hh : A.handled = none) (hf : Float64.isFinite a = true) (h1 : Float64.isNaN a = false) (h2 : Float64.isInf a = false) : CB w A (.type "int") [.flt a] (.int (PySem.Flt.toInt Float64.truncOf a)) :=
  ⟨fun N E h tk g dd o vs Q _ y q => by
    obtain ⟨u, rfl, y1⟩ := y.one
    cases y1
    refine PySem.Flt.call_int_float3 hh (fun e => by rw [h1] at e; cases e) (fun e => by rw [h2] at e; cases e) fun _ => ?_
    exact q _ _ _ (.int _ _) (.refl _)⟩
theorem cb_round {a : UInt64} (hh : A.handled = none) (hf : Float64.isFinite a = true) (h1 : Float64.isNaN a = false) (h2 : Float64.isInf a = false) : CB w A (.builtin "round") [.flt a] (.int (PySem.Flt.toInt Float64.nearestOf a)) :=
  ⟨fun N E h tk g dd o vs Q _ y q => by
    obtain ⟨u, rfl, y1⟩ := y.one
    cases y1
    refine PySem.Flt.call_round_float hh (fun e => by rw [h1] at e; cases e) (fun e => by rw [h2] at e; cases e) fun _ => ?_
    exact q _ _ _ (.int _ _) (.refl _)⟩
theorem cb_ord {c : Nat} : CB w A (.builtin "ord") [.str ⟨#[c]⟩] (.int c) :=
  ⟨fun N E h tk g dd o vs Q _ y q => by
    obtain ⟨u, rfl, y1⟩ := y.one
    cases y1
    refine P.ord_of_char ?_
    exact q _ _ _ (.int _ _) (.refl _)⟩
theorem cb_chr {i : Int} (h0 : 0 ≤ i) (h1 : i ≤ 0x10FFFF) : CB w A (.builtin "chr") [.int i] (.str ⟨#[i.toNat]⟩) :=
  ⟨fun N E h tk g dd o vs Q _ y q => by
    obtain ⟨u, rfl, y1⟩ := y.one
    cases y1
    refine P.chr_of_int ?_ ?_
    rotate_left
    · exact q _ _ _ (.str _ _) (.refl _)
    rw [Bool.or_eq_false_iff]
    exact ⟨decide_eq_false (by omega), decide_eq_false (by omega)⟩⟩
theorem cb_len_str {x : Str} (hx : x.length ≤ 1000) : CB w A (.builtin "len") [.str x] (.int x.length) :=
  ⟨fun N E h tk g dd o vs Q _ y q => by
    obtain ⟨u, rfl, y1⟩ := y.one
    cases y1
    refine PyProof.Rows.len_str ?_ ?_
    · omega
    · exact q _ _ _ (.int _ _) (.refl _)⟩
theorem cb_range {n : Nat} : CB w A (.type "range") [.int (n : Nat)] (.rng n) :=
  ⟨fun N E h tk g dd o vs Q hN y q => by
    obtain ⟨u, rfl, y1⟩ := y.one
    cases y1
    refine call_range_1 (s := ⟨h, g, dd, tk, o⟩) ?_
    exact q _ _ _ (.rng (hN _ (Nat.le_refl _)) (Heap.get?_push_size _ rfl)) (.push _ _)⟩

theorem op_add_ll {ds es : List D} (hn : ds.length + es.length ≤ 1000) : Op w A .Add (.list ds) (.list es) (.list (ds ++ es)) :=
  ⟨fun N E h tk g dd o x y Q hN hx hy q => by
    cases hx with
    | list na hl ys =>
    cases hy with
    | list na' hl' ys' =>
      obtain ⟨n1, e1⟩ := hl
      obtain ⟨n2, e2⟩ := hl'
      have l1 := ys.length
      have l2 := ys'.length
      rw [Array.length_toList] at l1 l2
      refine P.add_list (s := ⟨h, g, dd, tk, o⟩) e1 e2 (q _ _ _ (.list (hN _ (Nat.le_refl _)) ⟨0, Heap.get?_push_size _ rfl⟩ ?_) (.push _ _)) (Nat.le_trans (by omega) (by decide : 1000 ≤ sizeLine))
      rw [Array.toList_append]
      exact Iss.append (ys'.keeps (.push _ _)) (ys.keeps (.push _ _))⟩
end

def nb (x : Str) : Prop := x ∉ bootMainNames ∧ x ∉ P0.boundNames
theorem gv_bltN {w : World} {mg mb : Str → Option Value} {k : Addr} {A : Around} {C : Cx} {env : Env} {x : Str} {p : Pos} {v : Value} (n : nb x) (gc : GC w mg mb k C) (eo : EOk env) (hv : bootBuiltins x = some v) (hx : env.kindOf x = some .globalImplicit)
    (hdb : (x == ("__debug__" : Str)) = false) : GV w A env C (.Name x p) (.val v) := gv_blt gc eo n.1 n.2 hv hx hdb
theorem nb_max : nb "max" := ⟨by decide +kernel, by decide +kernel⟩
theorem nb_min : nb "min" := ⟨by decide +kernel, by decide +kernel⟩
theorem nb_int : nb "int" := ⟨by decide +kernel, by decide +kernel⟩
theorem nb_round : nb "round" := ⟨by decide +kernel, by decide +kernel⟩
theorem nb_ord : nb "ord" := ⟨by decide +kernel, by decide +kernel⟩
theorem nb_chr : nb "chr" := ⟨by decide +kernel, by decide +kernel⟩
theorem nb_len : nb "len" := ⟨by decide +kernel, by decide +kernel⟩
theorem nb_sum : nb "sum" := ⟨by decide +kernel, by decide +kernel⟩
theorem nb_range : nb "range" := ⟨by decide +kernel, by decide +kernel⟩
end Mine
end

section
open PySem PySem.W PyProof.Rows PySem.Calls
set_option maxRecDepth 100000
set_option linter.unusedVariables false
namespace Mine
mutual
inductive Py : D → PyData → Prop
  | none : Py .none .none
  | bool (b) : Py (.bool b) (.bool b)
  | int (n) : Py (.int n) (.int n)
  | str (x) : Py (.str x) (.str x)
  | list {ds ps} : Pys ds ps → Py (.list ds) (.list ps)
  | tup {ds ps} : Pys ds ps → Py (.tup ds) (.tuple ps)
inductive Pys : List D → List PyData → Prop
  | nil : Pys [] []
  | cons {d p ds ps} : Py d p → Pys ds ps → Pys (d :: ds) (p :: ps)
end

mutual
theorem Is.reads {N : Addr → Prop} {h : Heap} : ∀ {d : D} {p : PyData} {v : Value}, Py d p → Is N h d v → ∃ as, PySem.Reads h v p as
  | _, _, _, .none, .none => ⟨_, .none⟩
  | _, _, _, .bool b, .bool _ => ⟨_, .bool b⟩
  | _, _, _, .int n, .int _ t => ⟨_, .int n t⟩
  | _, _, _, .str x, .str _ t => ⟨_, .str x t⟩
  | _, _, _, .list ps, .list _ ⟨n, e⟩ ys => let ⟨as, r⟩ := Iss.reads ps ys; ⟨_, .list e rfl rfl r⟩
  | _, _, _, .tup ps, .tup _ ⟨o, e, c, n, e2⟩ ys => let ⟨as, r⟩ := Iss.reads ps ys; ⟨_, .tuple e c e2 r⟩
theorem Iss.reads {N : Addr → Prop} {h : Heap} : ∀ {ds : List D} {ps : List PyData} {vs : List Value}, Pys ds ps → Iss N h ds vs → ∃ as, PySem.ReadsAll h vs ps as
  | _, _, _, .nil, .nil => ⟨_, .nil⟩
  | _, _, _, .cons p ps, .cons y ys => let ⟨as, r⟩ := Is.reads p y; let ⟨bs, rs⟩ := Iss.reads ps ys; ⟨_, .cons r rs⟩
end

section
variable {w : World} {mg mb : Str → Option Value} {k : Addr} {A : Around} {C : Cx} {env : Env}

theorem cm_eq_d {a b : D} {pa pb : PyData} (ha : Py a pa) (hb : Py b pb) (sa : PySem.SeqAt.shaped pa = true) (sb : PySem.SeqAt.shaped pb = true) (hu : A.units + 64 < cLine) : Cm w A .Eq a b (PyData.eqv pa pb) :=
  ⟨fun N E h tk g dd o x y Q hx hy q => by
    obtain ⟨as, ra⟩ := hx.reads ha
    obtain ⟨bs, rb⟩ := hy.reads hb
    exact PySem.SeqAt.compareEq_shaped (s := ⟨h, g, dd, tk, o⟩) ra rb sa sb hu (q _ _ (.refl _))⟩
theorem cm_ne_d {a b : D} {pa pb : PyData} (ha : Py a pa) (hb : Py b pb) (sa : PySem.SeqAt.shaped pa = true) (sb : PySem.SeqAt.shaped pb = true) (hu : A.units + 64 < cLine) : Cm w A .NotEq a b (!PyData.eqv pa pb) :=
  ⟨fun N E h tk g dd o x y Q hx hy q => by
    obtain ⟨as, ra⟩ := hx.reads ha
    obtain ⟨bs, rb⟩ := hy.reads hb
    exact PySem.SeqAt.compareNe_shaped (s := ⟨h, g, dd, tk, o⟩) ra rb sa sb hu (q _ _ (.refl _))⟩

theorem Glo.glob {h : Heap} (G : Glo w mg mb k h) (i : Nat) (hi : i < 40) (h1 : isFn (stAt i) = false) (h2 : keepSt (stAt i) = true) : ∃ v, mg (nmOf (stAt i)) = some v ∧ phi w k (nmOf (stAt i)) h v := by
  refine G.val (nmOf (stAt i), phi w k (nmOf (stAt i))) (List.mem_flatMap.mpr ⟨stAt i, ?_, ?_⟩)
  · rw [body_stAt]; exact List.mem_map.mpr ⟨i, List.mem_range.mpr hi, rfl⟩
  · unfold valOfSt; rw [h1, if_neg (by decide), h2, if_pos rfl]; exact List.mem_singleton.mpr rfl

theorem gv_inset {l : Expr} {x : Str} {p p' : Pos} {ns : List Int} {n : Int} (gc : GC w mg mb k C) (eo : EOk env) (hS : ∀ h, Glo w mg mb k h → ∃ v, mg x = some v ∧ SI w k ns h v) (G : GV w A env C l (.int n)) (hx : env.kindOf x = some .globalImplicit)
    (hdb : (x == ("__debug__" : Str)) = false) : GV w A env C (.Compare l [.In] [.Name x p'] p) (.bool (ns.contains n)) :=
  ⟨fun E h tk g dd o Q i q => wpAny_Compare1 (G.go E h tk g dd o _ i fun v h' tk' y kp => by
    have i' := C.keeps _ _ i kp
    obtain ⟨sv, es, a, S, m, e, hlt, hset, hm⟩ := hS h' (gc.at' _ i')
    subst e
    refine (gv_glob (d := .val (.ref a)) gc eo es (fun _ _ => .val _) hx hdb).go E h' tk' g dd o _ i' fun v' h'' tk'' y' kp' => ?_
    cases y'
    cases y with
    | int n t =>
    obtain ⟨o', es', ep, tt, ho, r⟩ := hset
    refine wpAny_inSet_of (s := ⟨h'', g, dd, tk'', o⟩) (knd := intKind P0 w) (k := n) (intKind_is P0 w n t) rfl ⟨o', es', ep, tt, kp' _ _ ho, r⟩ ?_
    rw [hm]
    exact q _ _ _ (.bool _) (kp.trans kp')) rfl⟩

theorem gv_dget {e : Expr} {p apos pos : Pos} {n : Int} (gc : GC w mg mb k C) (eo : EOk env) (G : GV w A env C e (.int n)) (hn : keys0.contains n = false) (hx : env.kindOf "b3_exceptions" = some .globalImplicit) (hs : starEach [e] env = [(false, eval e env)]) (hline : (apos.endLine == pos.line) = true)
    (hbase : attributeBase (.Name "b3_exceptions" p) "get" env (eval (.Name "b3_exceptions" p) env) = eval (.Name "b3_exceptions" p) env) : GV w A env C (.Call (.Attribute (.Name "b3_exceptions" p) "get" apos) [e] [] pos) .none :=
  ⟨fun E h tk g dd o Q i q => Call_method1 hbase hs hline (by
    have Gl := gc.at' h i
    obtain ⟨dv, es, a, f, e1, hlt, hm, hf⟩ := Gl.glob 13 (by decide) (by decide +kernel) (by decide +kernel)
    subst e1
    refine (gv_glob (d := .val (.ref a)) gc eo es (fun _ _ => .val _) hx rfl).go E h tk g dd o _ i fun v h' tk' y kp => ?_
    cases y
    have lo : (a == sysModules) = false := by
      rw [beq_eq_false_iff_ne]
      intro z
      have h1 := Gl.low
      have h2 : k < a := hlt
      subst z
      exact absurd (Nat.lt_trans h1 h2) (by decide)
    obtain ⟨ob, es', ep, ho, hr⟩ := hm
    have hm' : ∀ h'', KP h' h'' → h''.MapOf (intKind P0 w) a f := fun h'' k' => ⟨ob, es', ep, k' _ _ (kp _ _ ho), hr⟩
    refine ⟨"dict", "dict.get", PySem.F.plainAttrs_dict, PySem.F.slot_dict_get, PySem.F.type_dict_get, (hm' h' (.refl _)).typeIs, (hm' h' (.refl _)).noDict, wpAny_dict_get1 (knd := intKind P0 w) lo ?_⟩
    refine G.go E h' tk' g dd o _ (C.keeps _ _ i kp) fun v' h'' tk'' y' kp' => ?_
    cases y' with
    | int n t =>
    refine ⟨n, f, intKind_is P0 w n t, hm' h'' kp', ?_⟩
    rw [hf n hn]
    exact q _ _ _ .none (kp.trans kp'))⟩

theorem gv_lower {e : Expr} {apos pos : Pos} {x : Str} (G : GV w A env C e (.str x)) (hfit : x.length ≤ 5592405) (hline : (apos.endLine == pos.line) = true)
    (hbase : attributeBase e "lower" env (eval e env) = eval e env) : GV w A env C (.Call (.Attribute e "lower" apos) [] [] pos) (.str (Txt.lower x)) :=
  ⟨fun E h tk g dd o Q i q => Call_method0 hbase hline (G.go E h tk g dd o _ i fun v h' tk' y kp => by
    cases y
    exact SBL.lower hfit fun _ => q _ _ _ (.str _ _) kp)⟩

theorem Iss.two {N : Addr → Prop} {h : Heap} {a b : D} {vs : List Value} (x : Iss N h [a, b] vs) : ∃ u v, vs = [u, v] ∧ Is N h a u ∧ Is N h b v := by
  cases x with | cons x y => cases y with | cons y z => cases z; exact ⟨_, _, rfl, x, y⟩
theorem cm_in_tup2 {n a b : Int} : Cm w A .In (.int n) (.tup [.int a, .int b]) (n == a || n == b) := ⟨fun N E h tk g dd o x y Q hx hy q => by
  cases hx with
  | int n t =>
  cases hy with
  | @tup l vs ds na hl ys =>
  obtain ⟨u, v, e, yu, yv⟩ := ys.two
  have ev : vs = #[u, v] := Array.toList_inj.mp (by rw [e])
  subst ev
  cases yu with
  | int _ tu =>
  cases yv with
  | int _ tv =>
  refine PySem.SeqAt.in_tupleAt (s := ⟨h, g, dd, tk, o⟩) (fun v => match v with | .int m _ => m == n | _ => false) hl (fun v hv => ?_) ?_
  · have hv' : v = .int a tu ∨ v = .int b tv := by simpa using hv
    rcases hv' with rfl | rfl
    · exact .int_int _ _ _ _
    · exact .int_int _ _ _ _
  · have e : (#[Value.int a tu, Value.int b tv].any fun v => match v with | .int m _ => m == n | _ => false) = (n == a || n == b) := by
      simp [Bool.beq_comm]
    rw [e]; exact q _ _ (.refl _)⟩
end
end Mine
end

section
open PySem PySem.W PyProof.Rows PySem.Calls
set_option maxRecDepth 100000
set_option linter.unusedVariables false
namespace Mine
structure XS (w : World) (A : Around) (env : Env) (ss : List Stmt) (Q : Flow → Shared → Prop) (E : Value → Shared → Prop) (s : Shared) : Prop where
  go : wpAny (model P0 w) A (execs ss env) Q E s

section
variable {w : World} {A : Around} {E : Value → Shared → Prop} {Q : Flow → Shared → Prop} {h : Heap} {tk : Nat} {g dd o} {F : Fm} {env : Env} {pos : Pos} {rest : List Stmt}

theorem ex_nil (q : Q .next ⟨h, g, dd, tk, o⟩) : XS w A env [] Q E ⟨h, g, dd, tk, o⟩ := ⟨wx_nil q⟩
theorem ex_assign {x : Str} {px : Pos} {e : Expr} {d : D} (i : F.I h) (he : F.env = env) (G : GV w A env F.cx e d) (hk : F.env.scope.kind = .function) (hx : F.own x) (hs : swapsWith e (some (.Name x px)) pos.line env = pure false)
    (q : ∀ h' tk', (F.set x d).I h' → XS w A env rest Q E ⟨h', g, dd, tk', o⟩) : XS w A env (.Assign [.Name x px] e pos :: rest) Q E ⟨h, g, dd, tk, o⟩ := ⟨wx_assign i he G hk hx hs fun h' tk' i' => (q h' tk' i').go⟩
theorem ex_return {e : Expr} {d : D} (i : F.I h) (he : F.env = env) (G : GV w A env F.cx e d) (q : ∀ v h' tk', Is F.N h' d v → F.I h' → Q (.ret v) ⟨h', g, dd, tk', o⟩) : XS w A env (.Return (some e) pos :: rest) Q E ⟨h, g, dd, tk, o⟩ :=
  ⟨wx_return i he G q⟩
def thenQ (w : World) (A : Around) (env : Env) (rest : List Stmt) (Q : Flow → Shared → Prop) (E : Value → Shared → Prop) (f : Flow) (s' : Shared) : Prop :=
  match f with | .next => XS w A env rest Q E s' | f => Q f s'
theorem ex_if {t : Expr} {b e : List Stmt} {c : Bool} (i : F.I h) (he : F.env = env) (G : GT w A env F.cx t c) (q1 : c = true → ∀ h' tk', F.I h' → XS w A env b (thenQ w A env rest Q E) E ⟨h', g, dd, tk', o⟩)
    (q2 : c = false → ∀ h' tk', F.I h' → XS w A env e (thenQ w A env rest Q E) E ⟨h', g, dd, tk', o⟩) : XS w A env (.If t b e pos :: rest) Q E ⟨h, g, dd, tk, o⟩ := by
  have key : ∀ (f : Flow) (s' : Shared), thenQ w A env rest Q E f s' → (match f with | .next => wpAny (model P0 w) A (execs rest env) Q E s' | f => Q f s') := fun f s' x => by
    cases f with
    | next => exact XS.go x
    | cont => exact x
    | brk => exact x
    | ret v => exact x
  exact ⟨wx_if i he G (fun hc h' tk' i' => wpAny_mono (q1 hc h' tk' i').go key fun _ _ x => x) (fun hc h' tk' i' => wpAny_mono (q2 hc h' tk' i').go key fun _ _ x => x)⟩
theorem ex_then (x : XS w A env rest Q E ⟨h, g, dd, tk, o⟩) : thenQ w A env rest Q E .next ⟨h, g, dd, tk, o⟩ := x
theorem ex_aug_int {x : Str} {px : Pos} {e : Expr} {a b : Int} (i : F.I h) (he : F.env = env) (hv : F.m x = some (.int a)) (G : GV w A env F.cx e (.int b)) (hk : F.env.scope.kind = .function) (hx : F.own x)
    (q : ∀ h' tk', (F.set x (.int (a + b))).I h' → XS w A env rest Q E ⟨h', g, dd, tk', o⟩) : XS w A env (.AugAssign (.Name x px) .Add e pos :: rest) Q E ⟨h, g, dd, tk, o⟩ := ⟨wx_aug_int i he hv G hk hx fun h' tk' i' => (q h' tk' i').go⟩
theorem ex_unpack {es : List Expr} {k1 : Nat} {tp : Pos} {e : Expr} {xs : List Str} {d : D} {ds : List D} (i : F.I h) (he : F.env = env) (hh : A.handled = none) (G : GV w A env F.cx e d) (u : Un d ds) (nm : Nms es xs) (hl : xs.length = ds.length)
    (hk : F.env.scope.kind = .function) (ho : ∀ x ∈ xs, F.own x) (hs : swapsWithSole [.Tuple es k1 tp] e pos.line env = pure false) (hw : swappedStores [.Tuple es k1 tp] e env = pure none)
    (q : ∀ h' tk', (F.sets xs ds).I h' → XS w A env rest Q E ⟨h', g, dd, tk', o⟩) : XS w A env (.Assign [.Tuple es k1 tp] e pos :: rest) Q E ⟨h, g, dd, tk, o⟩ := ⟨wx_unpack i he hh G u nm hl hk ho hs hw fun h' tk' i' => (q h' tk' i').go⟩
theorem ex_unpack_swapped {es : List Expr} {k1 : Nat} {tp : Pos} {e : Expr} {xs : List Str} {ds : List D} (i : F.I h) (he : F.env = env) (hh : A.handled = none) (G : GV w A env F.cx e (.tup ds)) (hl : xs.length = ds.length)
    (hk : F.env.scope.kind = .function) (ho : ∀ x ∈ xs, F.own x) (hs : swapsWithSole [.Tuple es k1 tp] e pos.line env = pure false) (hw : swappedStores [.Tuple es k1 tp] e env = pure (some xs))
    (q : ∀ h' tk', (F.sets xs.reverse ds.reverse).I h' → XS w A env rest Q E ⟨h', g, dd, tk', o⟩) : XS w A env (.Assign [.Tuple es k1 tp] e pos :: rest) Q E ⟨h, g, dd, tk, o⟩ := ⟨wx_unpack_swapped i he hh G hl hk ho hs hw fun h' tk' i' => (q h' tk' i').go⟩
theorem ex_for {target iter : Expr} {body : List Stmt} {d : D} {ds : List D} (ms : Nat → Str → Option D) (mus : Nat → List (Addr × List D)) (xs : List Str) (tds : Nat → List D)
    (i : F.I h) (he : F.env = env) (hh : A.handled = none) (G : GV w A env F.cx iter d) (it : It w A d ds) (hs : ∀ x, foldedSetIterable iter env x = pure x) (hk : F.env.scope.kind = .function)
    (tg : ∀ j dj, ds[j]? = some dj → Tg target dj xs (tds j)) (ho : ∀ x ∈ xs, F.own x) (h0 : ∀ x d, ms 0 x = some d → F.m x = some d) (u0 : mus 0 = F.mu)
    (step : ∀ j ex X xs' (E' : Value → Shared → Prop) (h' : Heap) (tk' : Nat) (Q' : Flow → Shared → Prop), j < ds.length → ((F.loop ex X xs' (ms j) (mus j)).sets xs (tds j)).I h' →
      (∀ h'' tk'', (F.loop ex X xs' (ms (j + 1)) (mus (j + 1))).I h'' → Q' .next ⟨h'', g, dd, tk'', o⟩) → XS w A env body Q' E' ⟨h', g, dd, tk', o⟩)
    (q : ∀ h' tk', ({ F with m := ms ds.length, mu := mus ds.length } : Fm).I h' → XS w A env rest Q E ⟨h', g, dd, tk', o⟩) : XS w A env (.For target iter body [] pos :: rest) Q E ⟨h, g, dd, tk, o⟩ :=
  ⟨wx_for ms mus xs tds i he hh G it hs hk tg ho h0 u0 (fun j ex X xs' E' h' tk' Q' hj i' q' => (step j ex X xs' E' h' tk' Q' hj i' q').go) fun h' tk' i' => (q h' tk' i').go⟩
theorem ex_assign_comp {elt iter : Expr} {x y : Str} {px py : Pos} {ifs : List Expr} {scope : Scope} {cl : List (Str × Addr)} {cpos : Pos} {d : D} {ds : List D} (outs : List (Option D))
    (i : F.I h) (he : F.env = env) (G : GV w A env F.cx iter d) (it : It w A d ds) (hk : F.env.scope.kind = .function) (hy : F.own y)
    (hsw : swapsWith (.ListComp elt [⟨.Name x px, iter, ifs, 0⟩] scope cpos) (some (.Name y py)) pos.line env = pure true)
    (hclos : closureFor scope env = pure cl) (hcell : ∀ y ∈ scope.names, y.2 ≠ .cell) (hkind : scope.kind = .function) (hnames : ∀ y ∈ scope.names, y.2 = .local → scope.names.lookup y.1 = some .local) (hx : scope.names.lookup x = some .local)
    (hs : ∀ x, foldedSetIterable iter env x = pure x) (hlen : outs.length = ds.length) (hsz : ds.length ≤ 1000)
    (body : ∀ (j : Nat) dj od (C : Cx) (Ca : Addr), ds[j]? = some dj → outs[j]? = some od → CompAt F Ca x dj C → GTs w A (compEnvC scope cl Ca env) C ifs od.isSome ∧ ∀ d', od = some d' → GV w A (compEnvC scope cl Ca env) C elt d')
    (q : ∀ h' tk', (F.set y (.list (outs.filterMap id))).I h' → XS w A env rest Q E ⟨h', g, dd, tk', o⟩) :
    XS w A env (.Assign [.Name y py] (.ListComp elt [⟨.Name x px, iter, ifs, 0⟩] scope cpos) pos :: rest) Q E ⟨h, g, dd, tk, o⟩ :=
  ⟨wx_assign_comp outs i he G it hk hy hsw hclos hcell hkind hnames hx hs hlen hsz body fun h' tk' i' => (q h' tk' i').go⟩
end

structure Bx (w : World) (mg mb : Str → Option Value) (k : Addr) (i n : Nat) (ds : List D) (d : D) : Prop where
  go : ∀ (A : Around) (E : Value → Shared → Prop) (h : Heap) (tk : Nat) (g dd o) (Q : Flow → Shared → Prop) (N₀ : Addr → Prop) (h₀ : Heap) (L a : Addr) (cd : Value), Glo w mg mb k h₀ → Ao A n → (fm0 h₀ N₀ i ds L a cd).I h →
    (∀ v h' tk', Is (fm0 h₀ N₀ i ds L a cd).N h' d v → KP h₀ h' → Q (.ret v) ⟨h', g, dd, tk', o⟩) → XS w A (envOfC (dfn i).name (dfn i).scope L a cd) (dfn i).body Q E ⟨h, g, dd, tk, o⟩
theorem fd_of {w : World} {mg mb : Str → Option Value} {k : Addr} {i n : Nat} {ds : List D} {d : D} (ok : okFd i ds.length = true)
    (hbind : ∀ pm cd doc vs, vs.length = ds.length → bindArgs (docDef (dfn i).name (dfn i).params (dfn i).body (dfn i).scope pm cd doc) ⟨vs, []⟩ = pure ((pars i).zip vs))
    (B : Bx w mg mb k i n ds d) : Fd w mg mb k i (n + 1) ds d := fd_of_body ok hbind ⟨fun A E h tk g dd o Q N₀ h₀ L a cd G ao i q => (B.go A E h tk g dd o Q N₀ h₀ L a cd G ao i q).go⟩
end Mine
end

section
open PySem PySem.W PyProof.Rows PySem.Calls
namespace Mine
local macro_rules | `(tactic| walk_at "mine:op") => `(tactic| first | exact op_add_ff | exact op_sub_ff | exact op_mul_ff | exact op_add_ii | exact op_sub_ii | exact op_div_ff (by assumption) (by assumption) | exact op_div_ff (by assumption) (by decide +kernel) | exact op_mod_ff (by assumption) (by decide +kernel) | exact op_sub_fi (by assumption) | exact op_mul_fi (by assumption) | exact op_mod_ii (by decide) | exact op_mod_ii (by assumption) | exact op_fdiv_ii (by decide) (PyProof.noPylong_small (by decide)) | exact op_fdiv_ii (by decide) (PyProof.noPylong_of_log2 (by decide +kernel)) | exact op_mul_ii (IntMulOk.of_left (by decide)) | exact op_pow_ii (by decide) (by decide) | exact op_add_ll (by decide))
local macro_rules | `(tactic| walk_at "mine:cm") => `(tactic| first | exact cm_eq_ff | exact cm_lt_ff | exact cm_le_ff | exact cm_eq_ii | exact cm_lt_ii | exact cm_le_ii | exact cm_gt_ii | exact cm_ne_ii | exact cm_eq_ss | exact cm_ne_ss)
local macro_rules | `(tactic| walk_at "mine:own") => `(tactic| first | exact .inl rfl | exact .inr ⟨rfl, rfl⟩)
local macro_rules | `(tactic| walk_at "mine:eo") => `(tactic| exact ⟨rfl, rfl, rfl⟩)
local macro_rules | `(tactic| walk_at "mine:cb") => `(tactic| first | exact cb_max3 (by assumption) | exact cb_min3 (by assumption) | exact cb_ord | exact cb_range | exact cb_int (by assumption) (by assumption) (by assumption) (by assumption) | exact cb_round (by assumption) (by assumption) (by assumption) (by assumption) | (exact cb_chr (by assumption) (by assumption)) | exact cb_len_str (by assumption))
local macro_rules | `(tactic| walk_at "mine:gv") => `(tactic| first
  | exact gv_int | exact gv_float | exact gv_bool | exact gv_none | exact gv_str
  | (refine' gv_name rfl rfl rfl ?o rfl; (case o => walk_at "mine:own"))
  | (refine' gv_bin ?l ?r ?op; (case l => walk_at "mine:gv"); (case r => walk_at "mine:gv"); (case op => walk_at "mine:op"))
  | (refine' gv_tuple ?es (by decide); (case es => walk_at "mine:gvs"))
  | (refine' gv_list ?es (by decide); (case es => walk_at "mine:gvs"))
  | (refine' gv_callB ?f ?es ?c; (case f => walk_at "mine:blt"); (case es => walk_at "mine:gvs"); (case c => walk_at "mine:cb"))
  | (refine' gv_callT ?f ?es ?c; (case f => walk_at "mine:blt"); (case es => walk_at "mine:gvs"); (case c => walk_at "mine:cb")))
local macro_rules | `(tactic| walk_at "mine:gc") => `(tactic| first | exact Fm.gc (by assumption) | exact CompAt.gc (by assumption) (by assumption))
local macro_rules | `(tactic| walk_at "mine:blt") => `(tactic| (refine' gv_bltN ?n ?gc ⟨rfl, rfl, rfl⟩ rfl rfl rfl; (case n => (first | exact nb_max | exact nb_min | exact nb_int | exact nb_round | exact nb_ord | exact nb_chr | exact nb_len | exact nb_sum | exact nb_range)); (case gc => walk_at "mine:gc")))
local macro_rules | `(tactic| walk_at "mine:gvs") => `(tactic| first
  | exact gvs_nil
  | (refine' gvs_cons ?e ?es rfl; (case e => walk_at "mine:gv"); (case es => walk_at "mine:gvs")))
local macro_rules | `(tactic| walk_at "mine:gt") => `(tactic| first
  | (refine' gt_cmp ?l ?r ?c rfl; (case l => walk_at "mine:gv"); (case r => walk_at "mine:gv"); (case c => walk_at "mine:cm")))
section
open PySem PySem.W PyProof.Rows PySem.Calls
set_option maxRecDepth 100000
set_option linter.unusedVariables false
def yF (r g b : UInt64) : UInt64 := Float64.add (Float64.add (Float64.mul 0x3fd3333333333333 r) (Float64.mul 0x3fe2e147ae147ae1 g)) (Float64.mul 0x3fbc28f5c28f5c29 b)
def iF (r g b : UInt64) : UInt64 := Float64.sub (Float64.mul 0x3fe7ae147ae147ae (Float64.sub r (yF r g b))) (Float64.mul 0x3fd147ae147ae148 (Float64.sub b (yF r g b)))
def qF (r g b : UInt64) : UInt64 := Float64.add (Float64.mul 0x3fdeb851eb851eb8 (Float64.sub r (yF r g b))) (Float64.mul 0x3fda3d70a3d70a3d (Float64.sub b (yF r g b)))

section
variable {w : World} {mg mb : Str → Option Value} {k : Addr}

theorem fd_yiq (r g b : UInt64) : Fd w mg mb k 4 1 [.flt r, .flt g, .flt b] (.tup [.flt (yF r g b), .flt (iF r g b), .flt (qF r g b)]) := by
  refine fd_of (by show okFd _ 3 = true; decide +kernel) (fun pm cd doc vs hl => ?_) ⟨fun A E h tk gs dd o Q N₀ h₀ L a cd G ao i q => ?_⟩
  · match vs, hl with
    | [a, b, c], _ => rfl
  refine' ex_assign (d := .flt (yF r g b)) i rfl ?G rfl ?o rfl ?q
  case G => walk_at "mine:gv"
  case o => walk_at "mine:own"
  case q =>
  intro h₁ tk₁ i₁
  refine' ex_assign (d := .flt (iF r g b)) i₁ rfl ?G rfl ?o rfl ?q
  case G => walk_at "mine:gv"
  case o => walk_at "mine:own"
  case q =>
  intro h₂ tk₂ i₂
  refine' ex_assign (d := .flt (qF r g b)) i₂ rfl ?G rfl ?o rfl ?q
  case G => walk_at "mine:gv"
  case o => walk_at "mine:own"
  case q =>
  intro h₃ tk₃ i₃
  refine' ex_return i₃ rfl ?G ?q
  case G => walk_at "mine:gv"
  case q => intro v h' tk' y i'; exact q v h' tk' y i'.keep

def eqF (a b : UInt64) : Bool := Float64.cmp a b == some .eq
def leF (a b : UInt64) : Bool := Float64.cmp a b == some .lt || Float64.cmp a b == some .eq
def hue0F (r g b : UInt64) : UInt64 :=
  if eqF r (max3F r g b) then Float64.sub (Float64.div (Float64.sub (max3F r g b) b) (Float64.sub (max3F r g b) (min3F r g b))) (Float64.div (Float64.sub (max3F r g b) g) (Float64.sub (max3F r g b) (min3F r g b)))
  else if eqF g (max3F r g b) then Float64.sub (Float64.add 0x4000000000000000 (Float64.div (Float64.sub (max3F r g b) r) (Float64.sub (max3F r g b) (min3F r g b)))) (Float64.div (Float64.sub (max3F r g b) b) (Float64.sub (max3F r g b) (min3F r g b)))
  else Float64.sub (Float64.add 0x4010000000000000 (Float64.div (Float64.sub (max3F r g b) g) (Float64.sub (max3F r g b) (min3F r g b)))) (Float64.div (Float64.sub (max3F r g b) r) (Float64.sub (max3F r g b) (min3F r g b)))
def hueF (r g b : UInt64) : UInt64 := (Float64.divmod (Float64.div (hue0F r g b) 0x4018000000000000) 0x3ff0000000000000).2
def satF (r g b : UInt64) : UInt64 := Float64.div (Float64.sub (max3F r g b) (min3F r g b)) (max3F r g b)

theorem fd_hsv_grey (r g b : UInt64) (he : eqF (min3F r g b) (max3F r g b) = true) : Fd w mg mb k 8 1 [.flt r, .flt g, .flt b] (.tup [.flt 0, .flt 0, .flt (max3F r g b)]) := by
  refine fd_of (by show okFd _ 3 = true; decide +kernel) (fun pm cd doc vs hl => ?_) ⟨fun A E h tk gs dd o Q N₀ h₀ L a cd G ao i q => ?_⟩
  · match vs, hl with
    | [a, b, c], _ => rfl
  have hh := ao.hh
  refine' ex_assign (d := .flt (max3F r g b)) i rfl ?G rfl ?o rfl ?q
  case G => walk_at "mine:gv"
  case o => walk_at "mine:own"
  case q =>
  intro h₁ tk₁ i₁
  refine' ex_assign (d := .flt (min3F r g b)) i₁ rfl ?G rfl ?o rfl ?q
  case G => walk_at "mine:gv"
  case o => walk_at "mine:own"
  case q =>
  intro h₂ tk₂ i₂
  refine' ex_assign i₂ rfl ?G rfl ?o rfl ?q
  case G => walk_at "mine:gv"
  case o => walk_at "mine:own"
  case q =>
  intro h₃ tk₃ i₃
  refine' ex_assign i₃ rfl ?G rfl ?o rfl ?q
  case G => walk_at "mine:gv"
  case o => walk_at "mine:own"
  case q =>
  intro h₄ tk₄ i₄
  refine' ex_if (c := eqF (min3F r g b) (max3F r g b)) i₄ rfl ?G ?q1 ?q2
  case G => walk_at "mine:gt"
  case q2 => intro hc; rw [he] at hc; cases hc
  case q1 =>
  intro _ h₅ tk₅ i₅
  refine' ex_return i₅ rfl ?G ?q
  case G => walk_at "mine:gv"
  case q => intro v h' tk' y i'; exact q v h' tk' y i'.keep
end
end

section
open PySem PySem.W PyProof.Rows PySem.Calls
set_option maxRecDepth 100000
set_option linter.unusedVariables false
section
variable {w : World} {mg mb : Str → Option Value} {k : Addr}

theorem Glo.third {h : Heap} (G : Glo w mg mb k h) : ∃ t, mg "ONE_THIRD" = some (.float oneThird t) := by
  obtain ⟨v, e, t, rfl⟩ := G.glob 1 (by decide) (by decide +kernel) (by decide +kernel); exact ⟨t, e⟩
theorem Glo.sixth {h : Heap} (G : Glo w mg mb k h) : ∃ t, mg "ONE_SIXTH" = some (.float oneSixth t) := by
  obtain ⟨v, e, t, rfl⟩ := G.glob 2 (by decide) (by decide +kernel) (by decide +kernel); exact ⟨t, e⟩
theorem Glo.two {h : Heap} (G : Glo w mg mb k h) : ∃ t, mg "TWO_THIRD" = some (.float twoThird t) := by
  obtain ⟨v, e, t, rfl⟩ := G.glob 3 (by decide) (by decide +kernel) (by decide +kernel); exact ⟨t, e⟩
theorem gv_gflt {A : Around} {C : Cx} {env : Env} {x : Str} {p : Pos} {b : UInt64} (gc : GC w mg mb k C) (eo : EOk env) (hv : ∃ t, mg x = some (.float b t)) (hx : env.kindOf x = some .globalImplicit) (hdb : (x == ("__debug__" : Str)) = false) :
    GV w A env C (.Name x p) (.flt b) := by obtain ⟨t, e⟩ := hv; exact gv_glob gc eo e (fun _ _ => .flt _ _) hx hdb
theorem fd_hsv_col (r g b : UInt64) (he : eqF (min3F r g b) (max3F r g b) = false) (hz : Float64.isZero (Float64.sub (max3F r g b) (min3F r g b)) = false) (hm : Float64.isZero (max3F r g b) = false) : Fd w mg mb k 8 1 [.flt r, .flt g, .flt b] (.tup [.flt (hueF r g b), .flt (satF r g b), .flt (max3F r g b)]) := by
  refine fd_of (by show okFd _ 3 = true; decide +kernel) (fun pm cd doc vs hl => ?_) ⟨fun A E h tk gs dd o Q N₀ h₀ L a cd G ao i q => ?_⟩
  · match vs, hl with
    | [a, b, c], _ => rfl
  have hh := ao.hh
  refine' ex_assign (d := .flt (max3F r g b)) i rfl ?G rfl ?o rfl ?q
  case G => walk_at "mine:gv"
  case o => walk_at "mine:own"
  case q =>
  intro _ _ i
  refine' ex_assign (d := .flt (min3F r g b)) i rfl ?G rfl ?o rfl ?q
  case G => walk_at "mine:gv"
  case o => walk_at "mine:own"
  case q =>
  intro _ _ i
  refine' ex_assign (d := .flt (Float64.sub (max3F r g b) (min3F r g b))) i rfl ?G rfl ?o rfl ?q
  case G => walk_at "mine:gv"
  case o => walk_at "mine:own"
  case q =>
  intro _ _ i
  refine' ex_assign i rfl ?G rfl ?o rfl ?q
  case G => walk_at "mine:gv"
  case o => walk_at "mine:own"
  case q =>
  intro _ _ i
  refine' ex_if (c := eqF (min3F r g b) (max3F r g b)) i rfl ?G3 ?q1_3 ?q2_3
  case G3 => walk_at "mine:gt"
  case q1_3 =>
    intro hc; rw [he] at hc; cases hc
  case q2_3 =>
    intro hc _ _ i
    refine ex_nil (ex_then ?_)
    refine' ex_assign (d := .flt (satF r g b)) i rfl ?G rfl ?o rfl ?q
    case G => walk_at "mine:gv"
    case o => walk_at "mine:own"
    case q =>
    intro _ _ i
    refine' ex_assign i rfl ?G rfl ?o rfl ?q
    case G => walk_at "mine:gv"
    case o => walk_at "mine:own"
    case q =>
    intro _ _ i
    refine' ex_assign i rfl ?G rfl ?o rfl ?q
    case G => walk_at "mine:gv"
    case o => walk_at "mine:own"
    case q =>
    intro _ _ i
    refine' ex_assign i rfl ?G rfl ?o rfl ?q
    case G => walk_at "mine:gv"
    case o => walk_at "mine:own"
    case q =>
    intro _ _ i
    refine' ex_if (c := eqF r (max3F r g b)) i rfl ?G2 ?q1_2 ?q2_2
    case G2 => walk_at "mine:gt"
    case q1_2 =>
      intro hc _ _ i
      refine' ex_assign (d := .flt (hue0F r g b)) i rfl ?G rfl ?o rfl ?q
      case G => (have e : hue0F r g b = _ := if_pos hc); rw [e]; walk_at "mine:gv"
      case o => walk_at "mine:own"
      case q =>
      intro _ _ i
      refine ex_nil (ex_then ?_)
      refine' ex_assign (d := .flt (hueF r g b)) i rfl ?G rfl ?o rfl ?q
      case G => walk_at "mine:gv"
      case o => walk_at "mine:own"
      case q =>
      intro _ _ i
      refine' ex_return i rfl ?G ?q
      case G => walk_at "mine:gv"
      case q => intro v h' tk' y i'; exact q v h' tk' y i'.keep
    case q2_2 =>
      intro hc _ _ i
      refine' ex_if (c := eqF g (max3F r g b)) i rfl ?G1 ?q1_1 ?q2_1
      case G1 => walk_at "mine:gt"
      case q1_1 =>
        intro hc' _ _ i
        refine' ex_assign (d := .flt (hue0F r g b)) i rfl ?G rfl ?o rfl ?q
        case G => (have e : hue0F r g b = _ := (if_neg (by rw [hc]; decide)).trans (if_pos hc')); rw [e]; walk_at "mine:gv"
        case o => walk_at "mine:own"
        case q =>
        intro _ _ i
        refine ex_nil (ex_then ?_)
        refine ex_nil (ex_then ?_)
        refine' ex_assign (d := .flt (hueF r g b)) i rfl ?G rfl ?o rfl ?q
        case G => walk_at "mine:gv"
        case o => walk_at "mine:own"
        case q =>
        intro _ _ i
        refine' ex_return i rfl ?G ?q
        case G => walk_at "mine:gv"
        case q => intro v h' tk' y i'; exact q v h' tk' y i'.keep
      case q2_1 =>
        intro hc' _ _ i
        refine' ex_assign (d := .flt (hue0F r g b)) i rfl ?G rfl ?o rfl ?q
        case G => (have e : hue0F r g b = _ := (if_neg (by rw [hc]; decide)).trans (if_neg (by rw [hc']; decide))); rw [e]; walk_at "mine:gv"
        case o => walk_at "mine:own"
        case q =>
        intro _ _ i
        refine ex_nil (ex_then ?_)
        refine ex_nil (ex_then ?_)
        refine' ex_assign (d := .flt (hueF r g b)) i rfl ?G rfl ?o rfl ?q
        case G => walk_at "mine:gv"
        case o => walk_at "mine:own"
        case q =>
        intro _ _ i
        refine' ex_return i rfl ?G ?q
        case G => walk_at "mine:gv"
        case q => intro v h' tk' y i'; exact q v h' tk' y i'.keep

def lumF (r g b : UInt64) : UInt64 := Float64.div (Float64.add (max3F r g b) (min3F r g b)) 0x4000000000000000
def hlsSF (r g b : UInt64) : UInt64 := if leF (lumF r g b) 0x3fe0000000000000 then Float64.div (Float64.sub (max3F r g b) (min3F r g b)) (Float64.add (max3F r g b) (min3F r g b))
  else Float64.div (Float64.sub (max3F r g b) (min3F r g b)) (Float64.sub (Float64.sub 0x4000000000000000 (max3F r g b)) (min3F r g b))
theorem fd_hls_grey (r g b : UInt64) (he : eqF (min3F r g b) (max3F r g b) = true) : Fd w mg mb k 5 1 [.flt r, .flt g, .flt b] (.tup [.flt 0, .flt (lumF r g b), .flt 0]) := by
  refine fd_of (by show okFd _ 3 = true; decide +kernel) (fun pm cd doc vs hl => ?_) ⟨fun A E h tk gs dd o Q N₀ h₀ L a cd G ao i q => ?_⟩
  · match vs, hl with
    | [a, b, c], _ => rfl
  have hh := ao.hh
  refine' ex_assign (d := .flt (max3F r g b)) i rfl ?G rfl ?o rfl ?q
  case G => walk_at "mine:gv"
  case o => walk_at "mine:own"
  case q =>
  intro _ _ i
  refine' ex_assign (d := .flt (min3F r g b)) i rfl ?G rfl ?o rfl ?q
  case G => walk_at "mine:gv"
  case o => walk_at "mine:own"
  case q =>
  intro _ _ i
  refine' ex_assign (d := .flt (Float64.add (max3F r g b) (min3F r g b))) i rfl ?G rfl ?o rfl ?q
  case G => walk_at "mine:gv"
  case o => walk_at "mine:own"
  case q =>
  intro _ _ i
  refine' ex_assign (d := .flt (Float64.sub (max3F r g b) (min3F r g b))) i rfl ?G rfl ?o rfl ?q
  case G => walk_at "mine:gv"
  case o => walk_at "mine:own"
  case q =>
  intro _ _ i
  refine' ex_assign (d := .flt (lumF r g b)) i rfl ?G rfl ?o rfl ?q
  case G => walk_at "mine:gv"
  case o => walk_at "mine:own"
  case q =>
  intro _ _ i
  refine' ex_if (c := eqF (min3F r g b) (max3F r g b)) i rfl ?G4 ?q1_4 ?q2_4
  case G4 => walk_at "mine:gt"
  case q1_4 =>
    intro hc _ _ i
    refine' ex_return i rfl ?G ?q
    case G => walk_at "mine:gv"
    case q => intro v h' tk' y i'; exact q v h' tk' y i'.keep
  case q2_4 =>
    intro hc; rw [he] at hc; cases hc
theorem fd_hls_col (r g b : UInt64) (he : eqF (min3F r g b) (max3F r g b) = false) (hz : Float64.isZero (Float64.sub (max3F r g b) (min3F r g b)) = false) (h1 : leF (lumF r g b) 0x3fe0000000000000 = true → Float64.isZero (Float64.add (max3F r g b) (min3F r g b)) = false)
    (h2 : leF (lumF r g b) 0x3fe0000000000000 = false → Float64.isZero (Float64.sub (Float64.sub 0x4000000000000000 (max3F r g b)) (min3F r g b)) = false) : Fd w mg mb k 5 1 [.flt r, .flt g, .flt b] (.tup [.flt (hueF r g b), .flt (lumF r g b), .flt (hlsSF r g b)]) := by
  refine fd_of (by show okFd _ 3 = true; decide +kernel) (fun pm cd doc vs hl => ?_) ⟨fun A E h tk gs dd o Q N₀ h₀ L a cd G ao i q => ?_⟩
  · match vs, hl with
    | [a, b, c], _ => rfl
  have hh := ao.hh
  refine' ex_assign (d := .flt (max3F r g b)) i rfl ?G rfl ?o rfl ?q
  case G => walk_at "mine:gv"
  case o => walk_at "mine:own"
  case q =>
  intro _ _ i
  refine' ex_assign (d := .flt (min3F r g b)) i rfl ?G rfl ?o rfl ?q
  case G => walk_at "mine:gv"
  case o => walk_at "mine:own"
  case q =>
  intro _ _ i
  refine' ex_assign (d := .flt (Float64.add (max3F r g b) (min3F r g b))) i rfl ?G rfl ?o rfl ?q
  case G => walk_at "mine:gv"
  case o => walk_at "mine:own"
  case q =>
  intro _ _ i
  refine' ex_assign (d := .flt (Float64.sub (max3F r g b) (min3F r g b))) i rfl ?G rfl ?o rfl ?q
  case G => walk_at "mine:gv"
  case o => walk_at "mine:own"
  case q =>
  intro _ _ i
  refine' ex_assign (d := .flt (lumF r g b)) i rfl ?G rfl ?o rfl ?q
  case G => walk_at "mine:gv"
  case o => walk_at "mine:own"
  case q =>
  intro _ _ i
  refine' ex_if (c := eqF (min3F r g b) (max3F r g b)) i rfl ?G8 ?q1_8 ?q2_8
  case G8 => walk_at "mine:gt"
  case q1_8 =>
    intro hc; rw [he] at hc; cases hc
  case q2_8 =>
    intro hc _ _ i
    refine ex_nil (ex_then ?_)
    refine' ex_if (c := leF (lumF r g b) 0x3fe0000000000000) i rfl ?G7 ?q1_7 ?q2_7
    case G7 => walk_at "mine:gt"
    case q1_7 =>
      intro hl _ _ i
      have h1' := h1 hl
      refine' ex_assign (d := .flt (hlsSF r g b)) i rfl ?G rfl ?o rfl ?q
      case G => (have e : hlsSF r g b = _ := if_pos hl); rw [e]; walk_at "mine:gv"
      case o => walk_at "mine:own"
      case q =>
      intro _ _ i
      refine ex_nil (ex_then ?_)
      refine' ex_assign i rfl ?G rfl ?o rfl ?q
      case G => walk_at "mine:gv"
      case o => walk_at "mine:own"
      case q =>
      intro _ _ i
      refine' ex_assign i rfl ?G rfl ?o rfl ?q
      case G => walk_at "mine:gv"
      case o => walk_at "mine:own"
      case q =>
      intro _ _ i
      refine' ex_assign i rfl ?G rfl ?o rfl ?q
      case G => walk_at "mine:gv"
      case o => walk_at "mine:own"
      case q =>
      intro _ _ i
      refine' ex_if (c := eqF r (max3F r g b)) i rfl ?G6 ?q1_6 ?q2_6
      case G6 => walk_at "mine:gt"
      case q1_6 =>
        intro hc _ _ i
        refine' ex_assign (d := .flt (hue0F r g b)) i rfl ?G rfl ?o rfl ?q
        case G => (have e : hue0F r g b = _ := if_pos hc); rw [e]; walk_at "mine:gv"
        case o => walk_at "mine:own"
        case q =>
        intro _ _ i
        refine ex_nil (ex_then ?_)
        refine' ex_assign (d := .flt (hueF r g b)) i rfl ?G rfl ?o rfl ?q
        case G => walk_at "mine:gv"
        case o => walk_at "mine:own"
        case q =>
        intro _ _ i
        refine' ex_return i rfl ?G ?q
        case G => walk_at "mine:gv"
        case q => intro v h' tk' y i'; exact q v h' tk' y i'.keep
      case q2_6 =>
        intro hc _ _ i
        refine' ex_if (c := eqF g (max3F r g b)) i rfl ?G5 ?q1_5 ?q2_5
        case G5 => walk_at "mine:gt"
        case q1_5 =>
          intro hc' _ _ i
          refine' ex_assign (d := .flt (hue0F r g b)) i rfl ?G rfl ?o rfl ?q
          case G => (have e : hue0F r g b = _ := (if_neg (by rw [hc]; decide)).trans (if_pos hc')); rw [e]; walk_at "mine:gv"
          case o => walk_at "mine:own"
          case q =>
          intro _ _ i
          refine ex_nil (ex_then ?_)
          refine ex_nil (ex_then ?_)
          refine' ex_assign (d := .flt (hueF r g b)) i rfl ?G rfl ?o rfl ?q
          case G => walk_at "mine:gv"
          case o => walk_at "mine:own"
          case q =>
          intro _ _ i
          refine' ex_return i rfl ?G ?q
          case G => walk_at "mine:gv"
          case q => intro v h' tk' y i'; exact q v h' tk' y i'.keep
        case q2_5 =>
          intro hc' _ _ i
          refine' ex_assign (d := .flt (hue0F r g b)) i rfl ?G rfl ?o rfl ?q
          case G => (have e : hue0F r g b = _ := (if_neg (by rw [hc]; decide)).trans (if_neg (by rw [hc']; decide))); rw [e]; walk_at "mine:gv"
          case o => walk_at "mine:own"
          case q =>
          intro _ _ i
          refine ex_nil (ex_then ?_)
          refine ex_nil (ex_then ?_)
          refine' ex_assign (d := .flt (hueF r g b)) i rfl ?G rfl ?o rfl ?q
          case G => walk_at "mine:gv"
          case o => walk_at "mine:own"
          case q =>
          intro _ _ i
          refine' ex_return i rfl ?G ?q
          case G => walk_at "mine:gv"
          case q => intro v h' tk' y i'; exact q v h' tk' y i'.keep
    case q2_7 =>
      intro hl _ _ i
      have h2' := h2 hl
      refine' ex_assign (d := .flt (hlsSF r g b)) i rfl ?G rfl ?o rfl ?q
      case G => (have e : hlsSF r g b = _ := if_neg (by rw [hl]; decide)); rw [e]; walk_at "mine:gv"
      case o => walk_at "mine:own"
      case q =>
      intro _ _ i
      refine ex_nil (ex_then ?_)
      refine' ex_assign i rfl ?G rfl ?o rfl ?q
      case G => walk_at "mine:gv"
      case o => walk_at "mine:own"
      case q =>
      intro _ _ i
      refine' ex_assign i rfl ?G rfl ?o rfl ?q
      case G => walk_at "mine:gv"
      case o => walk_at "mine:own"
      case q =>
      intro _ _ i
      refine' ex_assign i rfl ?G rfl ?o rfl ?q
      case G => walk_at "mine:gv"
      case o => walk_at "mine:own"
      case q =>
      intro _ _ i
      refine' ex_if (c := eqF r (max3F r g b)) i rfl ?G6 ?q1_6 ?q2_6
      case G6 => walk_at "mine:gt"
      case q1_6 =>
        intro hc _ _ i
        refine' ex_assign (d := .flt (hue0F r g b)) i rfl ?G rfl ?o rfl ?q
        case G => (have e : hue0F r g b = _ := if_pos hc); rw [e]; walk_at "mine:gv"
        case o => walk_at "mine:own"
        case q =>
        intro _ _ i
        refine ex_nil (ex_then ?_)
        refine' ex_assign (d := .flt (hueF r g b)) i rfl ?G rfl ?o rfl ?q
        case G => walk_at "mine:gv"
        case o => walk_at "mine:own"
        case q =>
        intro _ _ i
        refine' ex_return i rfl ?G ?q
        case G => walk_at "mine:gv"
        case q => intro v h' tk' y i'; exact q v h' tk' y i'.keep
      case q2_6 =>
        intro hc _ _ i
        refine' ex_if (c := eqF g (max3F r g b)) i rfl ?G5 ?q1_5 ?q2_5
        case G5 => walk_at "mine:gt"
        case q1_5 =>
          intro hc' _ _ i
          refine' ex_assign (d := .flt (hue0F r g b)) i rfl ?G rfl ?o rfl ?q
          case G => (have e : hue0F r g b = _ := (if_neg (by rw [hc]; decide)).trans (if_pos hc')); rw [e]; walk_at "mine:gv"
          case o => walk_at "mine:own"
          case q =>
          intro _ _ i
          refine ex_nil (ex_then ?_)
          refine ex_nil (ex_then ?_)
          refine' ex_assign (d := .flt (hueF r g b)) i rfl ?G rfl ?o rfl ?q
          case G => walk_at "mine:gv"
          case o => walk_at "mine:own"
          case q =>
          intro _ _ i
          refine' ex_return i rfl ?G ?q
          case G => walk_at "mine:gv"
          case q => intro v h' tk' y i'; exact q v h' tk' y i'.keep
        case q2_5 =>
          intro hc' _ _ i
          refine' ex_assign (d := .flt (hue0F r g b)) i rfl ?G rfl ?o rfl ?q
          case G => (have e : hue0F r g b = _ := (if_neg (by rw [hc]; decide)).trans (if_neg (by rw [hc']; decide))); rw [e]; walk_at "mine:gv"
          case o => walk_at "mine:own"
          case q =>
          intro _ _ i
          refine ex_nil (ex_then ?_)
          refine ex_nil (ex_then ?_)
          refine' ex_assign (d := .flt (hueF r g b)) i rfl ?G rfl ?o rfl ?q
          case G => walk_at "mine:gv"
          case o => walk_at "mine:own"
          case q =>
          intro _ _ i
          refine' ex_return i rfl ?G ?q
          case G => walk_at "mine:gv"
          case q => intro v h' tk' y i'; exact q v h' tk' y i'.keep
end
end

section
open PySem PySem.W PyProof.Rows PySem.Calls
set_option maxRecDepth 100000
set_option linter.unusedVariables false
section
variable {w : World} {mg mb : Str → Option Value} {k : Addr}

local macro_rules | `(tactic| walk_at "mine:gfl") => `(tactic| first | exact gv_gflt (Fm.gc (by assumption)) ⟨rfl, rfl, rfl⟩ (Glo.sixth (by assumption)) rfl rfl | exact gv_gflt (Fm.gc (by assumption)) ⟨rfl, rfl, rfl⟩ (Glo.two (by assumption)) rfl rfl | exact gv_gflt (Fm.gc (by assumption)) ⟨rfl, rfl, rfl⟩ (Glo.third (by assumption)) rfl rfl)
local macro_rules | `(tactic| walk_at "mine:gv") => `(tactic| walk_at "mine:gfl")
def ltB (a b : UInt64) : Bool := Float64.cmp a b == some .lt
def mod1F (x : UInt64) : UInt64 := (Float64.divmod x 0x3ff0000000000000).2
def vF (m1 m2 x : UInt64) : UInt64 :=
  if ltB (mod1F x) oneSixth then Float64.add m1 (Float64.mul (Float64.mul (Float64.sub m2 m1) (mod1F x)) 0x4018000000000000)
  else if ltB (mod1F x) 0x3fe0000000000000 then m2
  else if ltB (mod1F x) twoThird then Float64.add m1 (Float64.mul (Float64.mul (Float64.sub m2 m1) (Float64.sub twoThird (mod1F x))) 0x4018000000000000)
  else m1
theorem fd_v (m1 m2 x : UInt64) : Fd w mg mb k 7 1 [.flt m1, .flt m2, .flt x] (.flt (vF m1 m2 x)) := by
  refine fd_of (by show okFd _ 3 = true; decide +kernel) (fun pm cd doc vs hl => ?_) ⟨fun A E h tk gs dd o Q N₀ h₀ L a cd G ao i q => ?_⟩
  · match vs, hl with
    | [a, b, c], _ => rfl
  have hh := ao.hh
  refine' ex_assign (d := .flt (mod1F x)) i rfl ?G rfl ?o rfl ?q
  case G => walk_at "mine:gv"
  case o => walk_at "mine:own"
  case q =>
  intro _ _ i
  refine' ex_if (c := ltB (mod1F x) oneSixth) i rfl ?G3 ?q1_3 ?q2_3
  case G3 => walk_at "mine:gt"
  case q1_3 =>
    intro hc _ _ i
    refine' ex_return (d := .flt (vF m1 m2 x)) i rfl ?G ?q
    case G => (have e : vF m1 m2 x = _ := if_pos hc); rw [e]; walk_at "mine:gv"
    case q => intro v h' tk' y i'; exact q v h' tk' y i'.keep
  case q2_3 =>
    intro hc _ _ i
    refine ex_nil (ex_then ?_)
    refine' ex_if (c := ltB (mod1F x) 0x3fe0000000000000) i rfl ?G2 ?q1_2 ?q2_2
    case G2 => walk_at "mine:gt"
    case q1_2 =>
      intro hc' _ _ i
      refine' ex_return (d := .flt (vF m1 m2 x)) i rfl ?G ?q
      case G => (have e : vF m1 m2 x = _ := (if_neg (by rw [hc]; decide)).trans (if_pos hc')); rw [e]; walk_at "mine:gv"
      case q => intro v h' tk' y i'; exact q v h' tk' y i'.keep
    case q2_2 =>
      intro hc' _ _ i
      refine ex_nil (ex_then ?_)
      refine' ex_if (c := ltB (mod1F x) twoThird) i rfl ?G1 ?q1_1 ?q2_1
      case G1 => walk_at "mine:gt"
      case q1_1 =>
        intro hd _ _ i
        refine' ex_return (d := .flt (vF m1 m2 x)) i rfl ?G ?q
        case G => (have e : vF m1 m2 x = _ := (if_neg (by rw [hc]; decide)).trans ((if_neg (by rw [hc']; decide)).trans (if_pos hd))); rw [e]; walk_at "mine:gv"
        case q => intro v h' tk' y i'; exact q v h' tk' y i'.keep
      case q2_1 =>
        intro hd _ _ i
        refine ex_nil (ex_then ?_)
        refine' ex_return (d := .flt (vF m1 m2 x)) i rfl ?G ?q
        case G => (have e : vF m1 m2 x = _ := (if_neg (by rw [hc]; decide)).trans ((if_neg (by rw [hc']; decide)).trans (if_neg (by rw [hd]; decide)))); rw [e]; walk_at "mine:gv"
        case q => intro v h' tk' y i'; exact q v h' tk' y i'.keep

def m2F (l s : UInt64) : UInt64 := if leF l 0x3fe0000000000000 then Float64.mul l (Float64.add 0x3ff0000000000000 s) else Float64.sub (Float64.add l s) (Float64.mul l s)
def m1F (l s : UInt64) : UInt64 := Float64.sub (Float64.mul 0x4000000000000000 l) (m2F l s)
theorem fd_rgb_hls_grey (x l s : UInt64) (hs : eqF s 0 = true) : Fd w mg mb k 6 2 [.flt x, .flt l, .flt s] (.tup [.flt l, .flt l, .flt l]) := by
  refine fd_of (by show okFd _ 3 = true; decide +kernel) (fun pm cd doc vs hl => ?_) ⟨fun A E h tk gs dd o Q N₀ h₀ L a cd G ao i q => ?_⟩
  · match vs, hl with
    | [a, b, c], _ => rfl
  have hh := ao.hh
  refine' ex_if (c := eqF s 0) i rfl ?G4 ?q1_4 ?q2_4
  case G4 => walk_at "mine:gt"
  case q1_4 =>
    intro hc _ _ i
    refine' ex_return i rfl ?G ?q
    case G => walk_at "mine:gv"
    case q => intro v h' tk' y i'; exact q v h' tk' y i'.keep
  case q2_4 =>
    intro hc; rw [hs] at hc; cases hc
local macro_rules | `(tactic| walk_at "mine:gv") => `(tactic| (refine' gv_callF (j := 7) (n := 1) (by assumption) (Fm.gc (by assumption)) ⟨rfl, rfl, rfl⟩ (by decide) rfl rfl rfl ?es (Ao.less (by assumption) (by decide)) (fd_v _ _ _); (case es => walk_at "mine:gvs")))
theorem fd_rgb_hls (x l s : UInt64) (hs : eqF s 0 = false) : Fd w mg mb k 6 2 [.flt x, .flt l, .flt s] (.tup [.flt (vF (m1F l s) (m2F l s) (Float64.add x oneThird)), .flt (vF (m1F l s) (m2F l s) x), .flt (vF (m1F l s) (m2F l s) (Float64.sub x oneThird))]) := by
  refine fd_of (by show okFd _ 3 = true; decide +kernel) (fun pm cd doc vs hl => ?_) ⟨fun A E h tk gs dd o Q N₀ h₀ L a cd G ao i q => ?_⟩
  · match vs, hl with
    | [a, b, c], _ => rfl
  have hh := ao.hh
  refine' ex_if (c := eqF s 0) i rfl ?G6 ?q1_6 ?q2_6
  case G6 => walk_at "mine:gt"
  case q1_6 =>
    intro hc; rw [hs] at hc; cases hc
  case q2_6 =>
    intro hc _ _ i
    refine ex_nil (ex_then ?_)
    refine' ex_if (c := leF l 0x3fe0000000000000) i rfl ?G5 ?q1_5 ?q2_5
    case G5 => walk_at "mine:gt"
    case q1_5 =>
      intro hl _ _ i
      refine' ex_assign (d := .flt (m2F l s)) i rfl ?G rfl ?o rfl ?q
      case G => (have e : m2F l s = _ := if_pos hl); rw [e]; walk_at "mine:gv"
      case o => walk_at "mine:own"
      case q =>
      intro _ _ i
      refine ex_nil (ex_then ?_)
      refine' ex_assign (d := .flt (m1F l s)) i rfl ?G rfl ?o rfl ?q
      case G => walk_at "mine:gv"
      case o => walk_at "mine:own"
      case q =>
      intro _ _ i
      refine' ex_return i rfl ?G ?q
      case G => walk_at "mine:gv"
      case q => intro v h' tk' y i'; exact q v h' tk' y i'.keep
    case q2_5 =>
      intro hl _ _ i
      refine' ex_assign (d := .flt (m2F l s)) i rfl ?G rfl ?o rfl ?q
      case G => (have e : m2F l s = _ := if_neg (by rw [hl]; decide)); rw [e]; walk_at "mine:gv"
      case o => walk_at "mine:own"
      case q =>
      intro _ _ i
      refine ex_nil (ex_then ?_)
      refine' ex_assign (d := .flt (m1F l s)) i rfl ?G rfl ?o rfl ?q
      case G => walk_at "mine:gv"
      case o => walk_at "mine:own"
      case q =>
      intro _ _ i
      refine' ex_return i rfl ?G ?q
      case G => walk_at "mine:gv"
      case q => intro v h' tk' y i'; exact q v h' tk' y i'.keep

def h6F (x : UInt64) : UInt64 := Float64.mul x 0x4018000000000000
def h6I (x : UInt64) : Int := PySem.Flt.toInt Float64.truncOf (h6F x)
def fracF (x : UInt64) : UInt64 := Float64.sub (h6F x) (Float64.ofInt (h6I x))
def pF (s v : UInt64) : UInt64 := Float64.mul v (Float64.sub 0x3ff0000000000000 s)
def qqF (x s v : UInt64) : UInt64 := Float64.mul v (Float64.sub 0x3ff0000000000000 (Float64.mul s (fracF x)))
def tF (x s v : UInt64) : UInt64 := Float64.mul v (Float64.sub 0x3ff0000000000000 (Float64.mul s (Float64.sub 0x3ff0000000000000 (fracF x))))
def hsvOut (j : Int) (v p q t : UInt64) : List D :=
  if j = 0 then [.flt v, .flt t, .flt p] else if j = 1 then [.flt q, .flt v, .flt p] else if j = 2 then [.flt p, .flt v, .flt t] else if j = 3 then [.flt p, .flt q, .flt v] else if j = 4 then [.flt t, .flt p, .flt v] else [.flt v, .flt p, .flt q]
theorem fd_rgb_hsv_grey (x s v : UInt64) (hs : eqF s 0 = true) : Fd w mg mb k 9 1 [.flt x, .flt s, .flt v] (.tup [.flt v, .flt v, .flt v]) := by
  refine fd_of (by show okFd _ 3 = true; decide +kernel) (fun pm cd doc vs hl => ?_) ⟨fun A E h tk gs dd o Q N₀ h₀ L a cd G ao i q => ?_⟩
  · match vs, hl with
    | [a, b, c], _ => rfl
  have hh := ao.hh
  refine' ex_if (c := eqF s 0) i rfl ?G7 ?q1_7 ?q2_7
  case G7 => walk_at "mine:gt"
  case q1_7 =>
    intro hc _ _ i
    refine' ex_return i rfl ?G ?q
    case G => walk_at "mine:gv"
    case q => intro v h' tk' y i'; exact q v h' tk' y i'.keep
  case q2_7 =>
    intro hc; rw [hs] at hc; cases hc
theorem fd_rgb_hsv (x s v : UInt64) (hs : eqF s 0 = false) (hf : Float64.isFinite (h6F x) = true) (hn : Float64.isNaN (h6F x) = false) (hi : Float64.isInf (h6F x) = false) (hI : (h6I x).natAbs < 2 ^ 1023) :
    Fd w mg mb k 9 1 [.flt x, .flt s, .flt v] (.tup (hsvOut ((h6I x).fmod 6) v (pF s v) (qqF x s v) (tF x s v))) := by
  refine fd_of (by show okFd _ 3 = true; decide +kernel) (fun pm cd doc vs hl => ?_) ⟨fun A E h tk gs dd o Q N₀ h₀ L a cd G ao i q => ?_⟩
  · match vs, hl with
    | [a, b, c], _ => rfl
  have hh := ao.hh
  refine' ex_if (c := eqF s 0) i rfl ?G14 ?q1_14 ?q2_14
  case G14 => walk_at "mine:gt"
  case q1_14 =>
    intro hc; rw [hs] at hc; cases hc
  case q2_14 =>
    intro hc _ _ i
    refine ex_nil (ex_then ?_)
    refine' ex_assign (d := .int (h6I x)) i rfl ?G rfl ?o rfl ?q
    case G => walk_at "mine:gv"
    case o => walk_at "mine:own"
    case q =>
    intro _ _ i
    refine' ex_assign (d := .flt (fracF x)) i rfl ?G rfl ?o rfl ?q
    case G => walk_at "mine:gv"
    case o => walk_at "mine:own"
    case q =>
    intro _ _ i
    refine' ex_assign (d := .flt (pF s v)) i rfl ?G rfl ?o rfl ?q
    case G => walk_at "mine:gv"
    case o => walk_at "mine:own"
    case q =>
    intro _ _ i
    refine' ex_assign (d := .flt (qqF x s v)) i rfl ?G rfl ?o rfl ?q
    case G => walk_at "mine:gv"
    case o => walk_at "mine:own"
    case q =>
    intro _ _ i
    refine' ex_assign (d := .flt (tF x s v)) i rfl ?G rfl ?o rfl ?q
    case G => walk_at "mine:gv"
    case o => walk_at "mine:own"
    case q =>
    intro _ _ i
    refine' ex_assign (d := .int ((h6I x).fmod 6)) i rfl ?G rfl ?o rfl ?q
    case G => walk_at "mine:gv"
    case o => walk_at "mine:own"
    case q =>
    intro _ _ i
    refine' ex_if (c := (h6I x).fmod 6 == 0) i rfl ?G13 ?q1_13 ?q2_13
    case G13 => walk_at "mine:gt"
    case q1_13 =>
      intro c0 _ _ i
      refine' ex_return (d := .tup (hsvOut ((h6I x).fmod 6) v (pF s v) (qqF x s v) (tF x s v))) i rfl ?G ?q
      case G => (have e : hsvOut ((h6I x).fmod 6) v (pF s v) (qqF x s v) (tF x s v) = _ := (by unfold hsvOut; rw [if_pos (beq_iff_eq.mp c0)])); rw [e]; walk_at "mine:gv"
      case q => intro v h' tk' y i'; exact q v h' tk' y i'.keep
    case q2_13 =>
      intro c0 _ _ i
      refine ex_nil (ex_then ?_)
      refine' ex_if (c := (h6I x).fmod 6 == 1) i rfl ?G12 ?q1_12 ?q2_12
      case G12 => walk_at "mine:gt"
      case q1_12 =>
        intro c1 _ _ i
        refine' ex_return (d := .tup (hsvOut ((h6I x).fmod 6) v (pF s v) (qqF x s v) (tF x s v))) i rfl ?G ?q
        case G => (have e : hsvOut ((h6I x).fmod 6) v (pF s v) (qqF x s v) (tF x s v) = _ := (by unfold hsvOut; rw [if_neg (beq_eq_false_iff_ne.mp c0), if_pos (beq_iff_eq.mp c1)])); rw [e]; walk_at "mine:gv"
        case q => intro v h' tk' y i'; exact q v h' tk' y i'.keep
      case q2_12 =>
        intro c1 _ _ i
        refine ex_nil (ex_then ?_)
        refine' ex_if (c := (h6I x).fmod 6 == 2) i rfl ?G11 ?q1_11 ?q2_11
        case G11 => walk_at "mine:gt"
        case q1_11 =>
          intro c2 _ _ i
          refine' ex_return (d := .tup (hsvOut ((h6I x).fmod 6) v (pF s v) (qqF x s v) (tF x s v))) i rfl ?G ?q
          case G => (have e : hsvOut ((h6I x).fmod 6) v (pF s v) (qqF x s v) (tF x s v) = _ := (by unfold hsvOut; rw [if_neg (beq_eq_false_iff_ne.mp c0), if_neg (beq_eq_false_iff_ne.mp c1), if_pos (beq_iff_eq.mp c2)])); rw [e]; walk_at "mine:gv"
          case q => intro v h' tk' y i'; exact q v h' tk' y i'.keep
        case q2_11 =>
          intro c2 _ _ i
          refine ex_nil (ex_then ?_)
          refine' ex_if (c := (h6I x).fmod 6 == 3) i rfl ?G10 ?q1_10 ?q2_10
          case G10 => walk_at "mine:gt"
          case q1_10 =>
            intro c3 _ _ i
            refine' ex_return (d := .tup (hsvOut ((h6I x).fmod 6) v (pF s v) (qqF x s v) (tF x s v))) i rfl ?G ?q
            case G => (have e : hsvOut ((h6I x).fmod 6) v (pF s v) (qqF x s v) (tF x s v) = _ := (by unfold hsvOut; rw [if_neg (beq_eq_false_iff_ne.mp c0), if_neg (beq_eq_false_iff_ne.mp c1), if_neg (beq_eq_false_iff_ne.mp c2), if_pos (beq_iff_eq.mp c3)])); rw [e]; walk_at "mine:gv"
            case q => intro v h' tk' y i'; exact q v h' tk' y i'.keep
          case q2_10 =>
            intro c3 _ _ i
            refine ex_nil (ex_then ?_)
            refine' ex_if (c := (h6I x).fmod 6 == 4) i rfl ?G9 ?q1_9 ?q2_9
            case G9 => walk_at "mine:gt"
            case q1_9 =>
              intro c4 _ _ i
              refine' ex_return (d := .tup (hsvOut ((h6I x).fmod 6) v (pF s v) (qqF x s v) (tF x s v))) i rfl ?G ?q
              case G => (have e : hsvOut ((h6I x).fmod 6) v (pF s v) (qqF x s v) (tF x s v) = _ := (by unfold hsvOut; rw [if_neg (beq_eq_false_iff_ne.mp c0), if_neg (beq_eq_false_iff_ne.mp c1), if_neg (beq_eq_false_iff_ne.mp c2), if_neg (beq_eq_false_iff_ne.mp c3), if_pos (beq_iff_eq.mp c4)])); rw [e]; walk_at "mine:gv"
              case q => intro v h' tk' y i'; exact q v h' tk' y i'.keep
            case q2_9 =>
              intro c4 _ _ i
              refine ex_nil (ex_then ?_)
              refine' ex_if (c := (h6I x).fmod 6 == 5) i rfl ?G8 ?q1_8 ?q2_8
              case G8 => walk_at "mine:gt"
              case q1_8 =>
                intro c5 _ _ i
                refine' ex_return (d := .tup (hsvOut ((h6I x).fmod 6) v (pF s v) (qqF x s v) (tF x s v))) i rfl ?G ?q
                case G => (have e : hsvOut ((h6I x).fmod 6) v (pF s v) (qqF x s v) (tF x s v) = _ := (by unfold hsvOut; rw [if_neg (beq_eq_false_iff_ne.mp c0), if_neg (beq_eq_false_iff_ne.mp c1), if_neg (beq_eq_false_iff_ne.mp c2), if_neg (beq_eq_false_iff_ne.mp c3), if_neg (beq_eq_false_iff_ne.mp c4)])); rw [e]; walk_at "mine:gv"
                case q => intro v h' tk' y i'; exact q v h' tk' y i'.keep
              case q2_8 =>
                intro c5 _ _ i
                exfalso
                have h6 : (h6I x).fmod 6 < 6 := Int.fmod_lt_of_pos _ (by decide)
                have h0 : 0 ≤ (h6I x).fmod 6 := Int.fmod_nonneg_of_pos _ (by decide)
                simp only [beq_eq_false_iff_ne, ne_eq] at c0 c1 c2 c3 c4 c5
                omega
end
end

section
open PySem PySem.W PyProof.Rows PySem.Calls
set_option maxRecDepth 100000
set_option linter.unusedVariables false
section
variable {w : World} {mg mb : Str → Option Value} {k : Addr}

def chr1 (c : Nat) : Str := ⟨#[c]⟩

theorem Glo.b1s {h : Heap} (G : Glo w mg mb k h) : ∃ v, mg "b1_set" = some v ∧ SI w k b1s h v := by
  obtain ⟨v, e, x⟩ := G.glob 11 (by decide) (by decide +kernel) (by decide +kernel); exact ⟨v, e, x⟩
theorem fd_b1s (c : Nat) : Fd w mg mb k 12 1 [.str (chr1 c)] (.bool (b1s.contains (c : Int))) := by
  refine fd_of (by show okFd _ 1 = true; decide +kernel) (fun pm cd doc vs hl => ?_) ⟨fun A E h tk gs dd o Q N₀ h₀ L a cd G ao i q => ?_⟩
  · match vs, hl with
    | [a], _ => rfl
  have hh := ao.hh
  refine' ex_return i rfl ?G ?q
  case G => exact gv_inset (Fm.gc G) ⟨rfl, rfl, rfl⟩ (fun h G => G.b1s) (by walk_at "mine:gv") rfl rfl
  case q => intro v h' tk' y i'; exact q v h' tk' y i'.keep

theorem Glo.c6s {h : Heap} (G : Glo w mg mb k h) : ∃ v, mg "c6_set" = some v ∧ SI w k c6s h v := by
  obtain ⟨v, e, x⟩ := G.glob 17 (by decide) (by decide +kernel) (by decide +kernel); exact ⟨v, e, x⟩
theorem fd_c6s (c : Nat) : Fd w mg mb k 18 1 [.str (chr1 c)] (.bool (c6s.contains (c : Int))) := by
  refine fd_of (by show okFd _ 1 = true; decide +kernel) (fun pm cd doc vs hl => ?_) ⟨fun A E h tk gs dd o Q N₀ h₀ L a cd G ao i q => ?_⟩
  · match vs, hl with
    | [a], _ => rfl
  have hh := ao.hh
  refine' ex_return i rfl ?G ?q
  case G => exact gv_inset (Fm.gc G) ⟨rfl, rfl, rfl⟩ (fun h G => G.c6s) (by walk_at "mine:gv") rfl rfl
  case q => intro v h' tk' y i'; exact q v h' tk' y i'.keep

theorem Glo.c7s {h : Heap} (G : Glo w mg mb k h) : ∃ v, mg "c7_set" = some v ∧ SI w k c7s h v := by
  obtain ⟨v, e, x⟩ := G.glob 19 (by decide) (by decide +kernel) (by decide +kernel); exact ⟨v, e, x⟩
theorem fd_c7s (c : Nat) : Fd w mg mb k 20 1 [.str (chr1 c)] (.bool (c7s.contains (c : Int))) := by
  refine fd_of (by show okFd _ 1 = true; decide +kernel) (fun pm cd doc vs hl => ?_) ⟨fun A E h tk gs dd o Q N₀ h₀ L a cd G ao i q => ?_⟩
  · match vs, hl with
    | [a], _ => rfl
  have hh := ao.hh
  refine' ex_return i rfl ?G ?q
  case G => exact gv_inset (Fm.gc G) ⟨rfl, rfl, rfl⟩ (fun h G => G.c7s) (by walk_at "mine:gv") rfl rfl
  case q => intro v h' tk' y i'; exact q v h' tk' y i'.keep

theorem Glo.c8s {h : Heap} (G : Glo w mg mb k h) : ∃ v, mg "c8_set" = some v ∧ SI w k c8s h v := by
  obtain ⟨v, e, x⟩ := G.glob 21 (by decide) (by decide +kernel) (by decide +kernel); exact ⟨v, e, x⟩
theorem fd_c8s (c : Nat) : Fd w mg mb k 22 1 [.str (chr1 c)] (.bool (c8s.contains (c : Int))) := by
  refine fd_of (by show okFd _ 1 = true; decide +kernel) (fun pm cd doc vs hl => ?_) ⟨fun A E h tk gs dd o Q N₀ h₀ L a cd G ao i q => ?_⟩
  · match vs, hl with
    | [a], _ => rfl
  have hh := ao.hh
  refine' ex_return i rfl ?G ?q
  case G => exact gv_inset (Fm.gc G) ⟨rfl, rfl, rfl⟩ (fun h G => G.c8s) (by walk_at "mine:gv") rfl rfl
  case q => intro v h' tk' y i'; exact q v h' tk' y i'.keep

theorem Glo.c9s {h : Heap} (G : Glo w mg mb k h) : ∃ v, mg "c9_set" = some v ∧ SI w k c9s h v := by
  obtain ⟨v, e, x⟩ := G.glob 23 (by decide) (by decide +kernel) (by decide +kernel); exact ⟨v, e, x⟩
theorem fd_c9s (c : Nat) : Fd w mg mb k 24 1 [.str (chr1 c)] (.bool (c9s.contains (c : Int))) := by
  refine fd_of (by show okFd _ 1 = true; decide +kernel) (fun pm cd doc vs hl => ?_) ⟨fun A E h tk gs dd o Q N₀ h₀ L a cd G ao i q => ?_⟩
  · match vs, hl with
    | [a], _ => rfl
  have hh := ao.hh
  refine' ex_return i rfl ?G ?q
  case G => exact gv_inset (Fm.gc G) ⟨rfl, rfl, rfl⟩ (fun h G => G.c9s) (by walk_at "mine:gv") rfl rfl
  case q => intro v h' tk' y i'; exact q v h' tk' y i'.keep

theorem fd_c11 (c : Nat) : Fd w mg mb k 15 1 [.str (chr1 c)] (.bool (chr1 c == " ")) := by
  refine fd_of (by show okFd _ 1 = true; decide +kernel) (fun pm cd doc vs hl => ?_) ⟨fun A E h tk gs dd o Q N₀ h₀ L a cd G ao i q => ?_⟩
  · match vs, hl with
    | [a], _ => rfl
  have hh := ao.hh
  refine' ex_return i rfl ?G ?q
  case G => exact gv_cmp (by walk_at "mine:gv") gv_str cm_eq_ss rfl
  case q => intro v h' tk' y i'; exact q v h' tk' y i'.keep
def c4B (c : Int) : Bool := if c < 64976 then false else if c < 65008 then true else (Builtin.bitAnd c 65535 == 65534 || Builtin.bitAnd c 65535 == 65535)
theorem c4B_1 {c : Int} (h : c < 64976) : c4B c = false := by unfold c4B; rw [if_pos h]
theorem c4B_2 {c : Int} (h : ¬ c < 64976) (h' : c < 65008) : c4B c = true := by unfold c4B; rw [if_neg h, if_pos h']
theorem c4B_3 {c : Int} (h : ¬ c < 64976) (h' : ¬ c < 65008) : c4B c = (Builtin.bitAnd c 65535 == 65534 || Builtin.bitAnd c 65535 == 65535) := by unfold c4B; rw [if_neg h, if_neg h']
local macro_rules | `(tactic| walk_at "mine:op") => `(tactic| exact op_and_ii)
theorem fd_c4 (c : Nat) : Fd w mg mb k 16 1 [.str (chr1 c)] (.bool (c4B (c : Int))) := by
  refine fd_of (by show okFd _ 1 = true; decide +kernel) (fun pm cd doc vs hl => ?_) ⟨fun A E h tk gs dd o Q N₀ h₀ L a cd G ao i q => ?_⟩
  · match vs, hl with
    | [a], _ => rfl
  have hh := ao.hh
  refine' ex_assign (d := .int (c : Int)) i rfl ?G rfl ?o rfl ?q
  case G => walk_at "mine:gv"
  case o => walk_at "mine:own"
  case q =>
  intro _ _ i
  refine' ex_if (c := decide ((c : Int) < 64976)) i rfl ?G2 ?q1_2 ?q2_2
  case G2 => walk_at "mine:gt"
  case q1_2 =>
    intro hc _ _ i
    refine' ex_return (d := .bool (c4B (c : Int))) i rfl ?G ?q
    case G => (have e : c4B (c : Int) = _ := c4B_1 (of_decide_eq_true hc)); rw [e]; clear e; (try clear hc'); clear hc; walk_at "mine:gv"
    case q => intro v h' tk' y i'; exact q v h' tk' y i'.keep
  case q2_2 =>
    intro hc _ _ i
    refine ex_nil (ex_then ?_)
    refine' ex_if (c := decide ((c : Int) < 65008)) i rfl ?G1 ?q1_1 ?q2_1
    case G1 => walk_at "mine:gt"
    case q1_1 =>
      intro hc' _ _ i
      refine' ex_return (d := .bool (c4B (c : Int))) i rfl ?G ?q
      case G => (have e : c4B (c : Int) = _ := c4B_2 (of_decide_eq_false hc) (of_decide_eq_true hc')); rw [e]; clear e; (try clear hc'); clear hc; walk_at "mine:gv"
      case q => intro v h' tk' y i'; exact q v h' tk' y i'.keep
    case q2_1 =>
      intro hc' _ _ i
      refine ex_nil (ex_then ?_)
      refine' ex_return (d := .bool (c4B (c : Int))) i rfl ?G ?q
      case G => (have e : c4B (c : Int) = _ := c4B_3 (of_decide_eq_false hc) (of_decide_eq_false hc')); rw [e]; clear e; (try clear hc'); clear hc; refine' gv_cmp ?l ?r (cm_in_tup2 (n := Builtin.bitAnd (c : Int) 65535) (a := 65534) (b := 65535)) rfl; (case l => (refine' gv_bin (a := .int (c : Int)) ?l1 gv_int op_and_ii; (case l1 => walk_at "mine:gv"))); (case r => walk_at "mine:gv")
      case q => intro v h' tk' y i'; exact q v h' tk' y i'.keep

theorem fd_b3 (c : Nat) (hc : keys0.contains (c : Int) = false) : Fd w mg mb k 14 1 [.str (chr1 c)] (.str (Txt.lower (chr1 c))) := by
  refine fd_of (by show okFd _ 1 = true; decide +kernel) (fun pm cd doc vs hl => ?_) ⟨fun A E h tk gs dd o Q N₀ h₀ L a cd G ao i q => ?_⟩
  · match vs, hl with
    | [a], _ => rfl
  have hh := ao.hh
  refine' ex_assign (d := .none) i rfl ?G rfl ?o rfl ?q
  case G => exact gv_dget (Fm.gc G) ⟨rfl, rfl, rfl⟩ (by walk_at "mine:gv") hc rfl rfl rfl rfl
  case o => walk_at "mine:own"
  case q =>
  intro _ _ i
  refine' ex_if (c := false) i rfl ?G3 ?q1_3 ?q2_3
  case G3 => exact gt_cmp (by walk_at "mine:gv") gv_none cm_isnot_nn rfl
  case q1_3 =>
    intro hc; cases hc
  case q2_3 =>
    intro hc _ _ i
    refine ex_nil (ex_then ?_)
    refine' ex_return i rfl ?G ?q
    case G => exact gv_lower (x := chr1 c) (by walk_at "mine:gv") (show 1 ≤ 5592405 by decide) rfl rfl
    case q => intro v h' tk' y i'; exact q v h' tk' y i'.keep
end
end

section
open PySem PySem.W PyProof.Rows PySem.Calls
set_option maxRecDepth 100000
set_option linter.unusedVariables false
section
variable {w : World} {mg mb : Str → Option Value} {k : Addr}

theorem outs_map {α : Type} {l : List α} {f : α → D} {g : α → Option D} {j : Nat} {dj : D} {od : Option D} (e1 : (l.map f)[j]? = some dj) (e2 : (l.map g)[j]? = some od) : ∃ a, l[j]? = some a ∧ dj = f a ∧ od = g a := by
  rw [List.getElem?_map] at e1 e2
  cases h : l[j]? with
  | none => rw [h] at e1; cases e1
  | some a => rw [h] at e1 e2; cases e1; cases e2; exact ⟨a, rfl, rfl, rfl⟩

def partsI (c : Int) : List Int := [c.fdiv 16384, (c.fdiv 128).fmod 128, c.fmod 128]
theorem fd_parts (c : Int) : Fd w mg mb k 28 1 [.int c] (.list ((partsI c).map .int)) := by
  refine fd_of (by show okFd _ 1 = true; decide +kernel) (fun pm cd doc vs hl => ?_) ⟨fun A E h tk gs dd o Q N₀ h₀ L a cd G ao i q => ?_⟩
  · match vs, hl with
    | [a], _ => rfl
  have hh := ao.hh
  refine' ex_return i rfl ?G ?q
  case G => walk_at "mine:gv"
  case q => intro v h' tk' y i'; exact q v h' tk' y i'.keep

def tup5 (x : Int × Int × Int × Int × Int) : D := .tup [.int x.1, .int x.2.1, .int x.2.2.1, .int x.2.2.2.1, .int x.2.2.2.2]
def blocksI : List (Int × Int × Int × Int × Int) := [(0, 0, 65, 90, 32), (0, 1, 64, 94, 32), (0, 7, 17, 41, 32), (0, 8, 0, 15, 80), (0, 8, 16, 47, 32), (0, 10, 49, 86, 48), (0, 66, 96, 111, 16), (0, 73, 54, 79, 26), (3, 126, 33, 58, 32), (4, 8, 0, 37, 40)]
set_option maxHeartbeats 4000000 in
theorem fd_blocks : Fd w mg mb k 27 1 [] (.list (blocksI.map tup5)) := by
  refine fd_of (by show okFd _ 0 = true; decide +kernel) (fun pm cd doc vs hl => ?_) ⟨fun A E h tk gs dd o Q N₀ h₀ L a cd G ao i q => ?_⟩
  · match vs, hl with
    | [], _ => rfl
  have hh := ao.hh
  refine' ex_return i rfl ?G ?q
  case G => walk_at "mine:gv"
  case q => intro v h' tk' y i'; exact q v h' tk' y i'.keep
end
end

section
open PySem PySem.W PyProof.Rows PySem.Calls
set_option maxRecDepth 100000
set_option linter.unusedVariables false
section
variable {w : World} {mg mb : Str → Option Value} {k : Addr} {A : Around} {C : Cx} {env : Env}

inductive Flats : List D → Prop
  | nil : Flats []
  | int {n ds} : Flats ds → Flats (.int n :: ds)
  | bool {b ds} : Flats ds → Flats (.bool b :: ds)
theorem Flats.to {N N' : Addr → Prop} {h h' : Heap} {ds : List D} {vs : List Value} (f : Flats ds) (i : Iss N h ds vs) : Iss N' h' ds vs := by
  induction f generalizing vs with
  | nil => cases i; exact .nil
  | int f ih => cases i with | cons x r => cases x; exact .cons (.int _ _) (ih r)
  | bool f ih => cases i with | cons x r => cases x; exact .cons (.bool _) (ih r)

def max3I (a b c : Int) : Int := if a < b then (if b < c then c else b) else (if a < c then c else a)
def min3I (a b c : Int) : Int := if b < a then (if c < b then c else b) else (if c < a then c else a)
theorem ltV_ii (a b : Int) (t u : Tok) : PySem.Flt.ltV (.int a t) (.int b u) = decide (a < b) := rfl

theorem cb_max3i {x y z : Int} (hh : A.handled = none) : CB w A (.builtin "max") [.int x, .int y, .int z] (.int (max3I x y z)) :=
  ⟨fun N E h tk g dd o vs Q _ a q => by
    obtain ⟨u, v, t, rfl, y1, y2, y3⟩ := a.three
    cases y1; cases y2; cases y3
    refine max_three_num hh (.int _ _) (.int _ _) (.int _ _) fun h' tk' kp => ?_
    refine q _ h' tk' ?_ kp
    simp only [ltV_ii, decide_eq_true_eq]
    unfold max3I
    repeat' split
    all_goals exact .int _ _⟩
theorem cb_min3i {x y z : Int} (hh : A.handled = none) : CB w A (.builtin "min") [.int x, .int y, .int z] (.int (min3I x y z)) :=
  ⟨fun N E h tk g dd o vs Q _ a q => by
    obtain ⟨u, v, t, rfl, y1, y2, y3⟩ := a.three
    cases y1; cases y2; cases y3
    refine min_three_num hh (.int _ _) (.int _ _) (.int _ _) fun h' tk' kp => ?_
    refine q _ h' tk' ?_ kp
    simp only [ltV_ii, decide_eq_true_eq]
    unfold min3I
    repeat' split
    all_goals exact .int _ _⟩

theorem preSum_list (ns : List Int) : ∀ j, j ≤ ns.length → preSum (fun i => ns.getD i 0) j = (ns.take j).sum
  | 0, _ => rfl
  | j + 1, h => by
    show preSum _ j + ns.getD j 0 = _
    rw [preSum_list ns j (by omega), List.take_add_one, List.sum_append]
    congr 1
    have : ns[j]? = some (ns[j]'(by omega)) := List.getElem?_eq_getElem _
    rw [List.getD_eq_getElem?_getD, this]
    simp

theorem cb_sum {ns : List Int} (hh : A.handled = none) (hf : ∀ j, j < ns.length → InLong (ns.getD j 0) ∧ InLong ((ns.take (j + 1)).sum)) : CB w A (.builtin "sum") [.list (ns.map .int)] (.int ns.sum) :=
  ⟨fun N E h tk g dd o vs Q hN a q => by
    obtain ⟨u, rfl, y1⟩ := a.one
    cases y1 with
    | @list l vs ds na hl ys =>
    have hlt : l ≠ h.objs.size := by obtain ⟨n, e⟩ := hl; exact Nat.ne_of_lt (Heap.lt_size e)
    have hlen : vs.size = ns.length := by have := ys.length; rw [Array.length_toList] at this; simpa using this
    refine call_sum_walk (wpAny_pyIter_list (s := ⟨h, g, dd, tk, o⟩) hl.isList ?_)
    have hsz : (h.push { cls := .type "list_iterator", data := .fields #[.ref l, rawInt 0] }).objs.size = h.objs.size + 1 := Heap.size_push ..
    refine ⟨h.objs.size, [h.objs.size, l], [h.objs.size], vs.size, _, _, fun i => ns.getD i 0, rfl, Walks.list (prog := P0) (w := w) (A := A.in1) hh h.objs.size l hlt vs, ⟨⟨_, Heap.get?_push_size _ rfl, rfl, rfl⟩, hl.isList.push _⟩, fun b hb => ?_, fun i v hv => ?_, fun j hj => ?_, fun h' tk' t' kp => ?_⟩
    · show b < (h.push _).objs.size
      rw [Heap.size_push]
      rcases List.mem_cons.mp hb with rfl | hb
      · exact Nat.lt_succ_self _
      · rcases List.mem_cons.mp hb with rfl | hb
        · obtain ⟨n, e⟩ := hl; exact Nat.lt_succ_of_lt (Heap.lt_size e)
        · cases hb
    · have hv' : vs.toList[i]? = some v := by rw [← hv]; simp
      obtain ⟨d, ed, yd⟩ := ys.get' i v hv'
      rw [List.getElem?_map] at ed
      cases hz : ns[i]? with
      | none => rw [hz] at ed; cases ed
      | some n =>
        rw [hz] at ed
        cases ed
        cases yd with
        | int n t => exact ⟨t, by show _ = Value.int (ns.getD i 0) t; rw [List.getD_eq_getElem?_getD, hz]; rfl⟩
    · rw [preSum_list ns (j + 1) (by omega)]
      exact hf j (by omega)
    · rw [preSum_list ns vs.size (by omega), List.take_of_length_le (by omega)]
      refine q _ h' tk' (.int _ _) fun b ob e => kp b ob (fun hm => ?_) (Heap.get?_push_of_some _ e)
      rcases List.mem_cons.mp hm with rfl | hm
      · exact Nat.lt_irrefl _ (Heap.lt_size e)
      · cases hm⟩

theorem mul_list_exact {E : Value → Shared → Prop} {s : Shared} {l : Addr} {items : Array Value} {k : Nat} {x : Int} {u : Tok} {Q : Value → Shared → Prop}
    (hl : s.heap.get? l = some { cls := .type "list", dict := none, data := .seq items k, slots := #[] })
    (hlo : -(2 ^ 63 : Int) ≤ x) (hhi : x < 2 ^ 63) (hsz : items.size * x.toNat ≤ 2 ^ 24)
    (h : Q (.ref s.heap.objs.size) { s with heap := s.heap.push { cls := .type "list", data := .seq (List.foldl (fun x1 x2 => x1 ++ x2) #[] (List.replicate (if items.isEmpty = true then 0 else x.toNat) items)) } }) :
    wpAny (model P0 w) A (binaryOp .Mult (.ref l) (.int x u)) Q E s :=
  wpAny_binaryOp_repeat_ref (T := "list") (U := "int") (by decide) ⟨_, hl, rfl⟩ (fun s' => typeIs_int s' x u) noFill_list_mul F.fills_int_mul F.slot_int_rmul repeat_list F.slot_int_index.lookup
    (call_meets F.slot_int_rmul (typeIs_int s x u) F.entry_int_rmul (F.args_int_rmul_2 _ _) (int___rmul___int_list x u l items k)
      ⟨hl, rfl, ⟨_, hl, rfl⟩, call_meets F.slot_list_mul ⟨_, hl, rfl⟩ F.entry_list_mul (F.args_list_mul_2 _ _)
        (AutoListH.list___mul___list_int_3 l items k x u (by simp [Builtin.List.listFitsIndex]; omega) (by omega) (by simp [Builtin.List.listTooLong, sizeLine]; omega))
        ⟨hl, h⟩⟩)

structure GN (w : World) (A : Around) (env : Env) (C : Cx) (e : Expr) (ds : List D) : Prop where
  go : ∀ E h tk g dd o (Q : Value → Shared → Prop), C.I h → (∀ a vs h₁ h' tk', C.I h₁ → KP h h₁ → h₁.objs.size ≤ a → h'.PlainList a vs → Iss C.N h' ds vs.toList → KP h₁ h' → Q (.ref a) ⟨h', g, dd, tk', o⟩) → wpAny (model P0 w) A (eval e env) Q E ⟨h, g, dd, tk, o⟩

theorem gn_list {es : List Expr} {p : Pos} {ds : List D} (G : GVs w A env C es ds) (hn : es.length ≤ 1000) : GN w A env C (.List es p) ds :=
  ⟨fun E h tk g dd o Q i q => by
    refine List_ ?_
    rw [G.back]
    refine G.go E h tk g dd o _ i fun vs h' tk' y k => ?_
    refine wpAny_newList (q _ vs.toArray h' _ _ (C.keeps _ _ i k) k (Nat.le_refl _) ⟨0, Heap.get?_push_size _ rfl⟩ (y.keeps (.push _ _)) (.push _ _)) ?_
    rw [y.length, G.len]; exact Nat.le_trans hn (by decide)⟩
theorem gn_times {e : Expr} {p : Pos} {d : D} {n : Nat} {x2 : Nat} {p2 : Pos} (G : GN w A env C e [d]) (hn : n ≤ 1000) : GN w A env C (.BinOp e .Mult (.Constant (.int (n : Nat)) x2 p2) p) (List.replicate n d) :=
  ⟨fun E h tk g dd o Q i q => wpAny_BinOp (G.go E h tk g dd o _ i fun a vs h₁ h' tk' i₁ k₁ ha hl ys k₂ => wpAny_mkInt (by
    obtain ⟨m, ho⟩ := hl
    have i' := C.keeps _ _ i₁ k₂
    have h1 : vs.size = 1 := by have := ys.length; rw [Array.length_toList] at this; simpa using this
    refine mul_list_exact (s := ⟨h', g, dd, tk' + 1, o⟩) (x := (n : Int)) (u := tk') ho (by omega) (by omega) (by rw [h1, Int.toNat_natCast]; omega) ?_
    refine q _ _ h' _ _ i' (k₁.trans k₂) (Nat.le_refl _) ⟨0, Heap.get?_push_size _ rfl⟩ ?_ (.push _ _)
    have hne : vs.isEmpty = false := by simp [Array.isEmpty, h1]
    rw [hne]
    simp only [Bool.false_eq_true, if_false, Int.toNat_natCast]
    have key : ∀ j (acc : Array Value) (ds : List D), Iss C.N (h'.push { cls := .type "list", data := .seq (List.foldl (fun x1 x2 => x1 ++ x2) #[] (List.replicate n vs)) }) ds acc.toList →
        Iss C.N (h'.push { cls := .type "list", data := .seq (List.foldl (fun x1 x2 => x1 ++ x2) #[] (List.replicate n vs)) }) (ds ++ List.replicate j d) (List.foldl (fun x1 x2 => x1 ++ x2) acc (List.replicate j vs)).toList := by
      intro j
      induction j with
      | zero => intro acc ds ha; simpa using ha
      | succ j ih =>
        intro acc ds ha
        rw [List.replicate_succ, List.replicate_succ, List.foldl_cons]
        have := ih (acc ++ vs) (ds ++ [d]) (by
          rw [Array.toList_append]
          exact Iss.append (ys.keeps (.push _ _)) ha)
        simpa using this
    simpa using key n #[] [] .nil))⟩
end
end

section
open PySem PySem.W PyProof.Rows PySem.Calls
set_option maxRecDepth 100000
set_option linter.unusedVariables false
def Fm.mut (F : Fm) (a : Addr) (ds : List D) : Fm := { F with mu := (a, ds) :: F.mu, oo := a :: F.oo, X := fun _ => True, xs := fun _ _ x _ => x }
def Fm.froz (F : Fm) (oo : List Addr) (mu : List (Addr × List D)) (m : Str → Option D) : Fm := { F with mu := mu, oo := oo, m := m, X := fun _ => True, xs := fun _ _ x _ => x }
def updMu (mu : List (Addr × List D)) (a : Addr) (ds : List D) : List (Addr × List D) := mu.map fun p => if p.1 = a then (a, ds) else p
def Fm.upd (F : Fm) (a : Addr) (ds : List D) : Fm := { F with mu := updMu F.mu a ds }

theorem Fm.I.mut {F : Fm} {h h' : Heap} {a : Addr} {ds : List D} {vs : Array Value} (i : F.I h) (ha : h.objs.size ≤ a) (k : KP h h') (hl : h'.PlainList a vs) (ys : Iss F.N h' ds vs.toList) (fl : Flats ds) : (F.mut a ds).I h' := by
  have lt : ∀ b, b ∈ F.oo ∨ b ∈ F.ex → b ≠ a := fun b hb e => by
    obtain ⟨o, eo⟩ := i.alive b hb
    exact Nat.lt_irrefl _ (Nat.lt_of_lt_of_le (Heap.lt_size eo) (e ▸ ha))
  have mv : ∀ b o, F.N b → h.get? b = some o → h'.get? b = some o ∧ (F.mut a ds).N b := fun b o n e =>
    ⟨k b o e, n.1, fun hm => (List.mem_cons.mp hm).elim (fun z => Nat.lt_irrefl _ (Nat.lt_of_lt_of_le (Heap.lt_size e) (z ▸ ha))) n.2.1, n.2.2⟩
  exact
    { keep := i.keep.trans k
      above := fun b hb => by
        rcases hb with hb | hb
        · rcases List.mem_cons.mp hb with rfl | hb
          · exact Nat.le_trans (Nat.le_of_lt i.up) ha
          · exact i.above b (.inl hb)
        · exact i.above b (.inr hb)
      alive := fun b hb => by
        rcases hb with hb | hb
        · rcases List.mem_cons.mp hb with rfl | hb
          · obtain ⟨n, e⟩ := hl; exact ⟨_, e⟩
          · obtain ⟨o, e⟩ := i.alive b (.inl hb); exact ⟨o, k _ _ e⟩
        · obtain ⟨o, e⟩ := i.alive b (.inr hb); exact ⟨o, k _ _ e⟩
      sep := fun b hb hm => by
        rcases List.mem_cons.mp hm with rfl | hm
        · exact lt _ (.inr hb) rfl
        · exact i.sep b hb hm
      n0 := i.n0
      loc := List.mem_cons_of_mem _ i.loc
      cel := fun x c hc => ⟨List.mem_cons_of_mem _ (i.cel x c hc).1, (i.cel x c hc).2⟩
      apart := i.apart
      mus := fun p hp => by
        rcases List.mem_cons.mp hp with rfl | hp
        · exact ⟨List.mem_cons_self, fun e => lt _ (.inl i.loc) e.symm, fun x c hc => lt _ (.inl (i.cel x c hc).1)⟩
        · obtain ⟨h1, h2, h3⟩ := i.mus p hp
          exact ⟨List.mem_cons_of_mem _ h1, h2, h3⟩
      mun := by
        refine List.nodup_cons.mpr ⟨fun hm => ?_, i.mun⟩
        obtain ⟨p, hp, e⟩ := List.mem_map.mp hm
        exact lt _ (.inl (i.mus p hp).1) e
      names := by
        obtain ⟨ml, hn, hv⟩ := i.names
        refine ⟨ml, hn.keeps k, fun x d hx hk => ?_⟩
        obtain ⟨v, e, y⟩ := hv x d hx hk
        exact ⟨v, e, y.move mv⟩
      cells := fun x c hc => by
        obtain ⟨o, ho, hv⟩ := i.cells x c hc
        refine ⟨o, ho.keeps k, fun d hd hk => ?_⟩
        obtain ⟨v, e, y⟩ := hv d hd hk
        exact ⟨v, e, y.move mv⟩
      muts := fun p hp => by
        rcases List.mem_cons.mp hp with rfl | hp
        · exact ⟨vs, hl, fl.to ys⟩
        · obtain ⟨vs, hl, hv⟩ := i.muts p hp
          exact ⟨vs, hl.at fun o e => k _ o e, hv.move mv⟩
      x := trivial }

theorem Fm.I.froz {F : Fm} {h : Heap} {a : Addr} {ds : List D} {oo : List Addr} {mu : List (Addr × List D)} (m : Str → Option D) (i : F.I h) (em : F.mu = (a, ds) :: mu) (eo : F.oo = a :: oo) (hao : a ∉ oo)
    (hm : ∀ x d, m x = some d → F.m x = some d ∨ (F.m x = some (.val (.ref a)) ∧ d = .list ds)) : (F.froz oo mu m).I h := by
  have mem : (a, ds) ∈ F.mu := em ▸ List.mem_cons_self
  have sub : ∀ b, b ∈ oo → b ∈ F.oo := fun b hb => eo ▸ List.mem_cons_of_mem _ hb
  have inv : ∀ b, b ∈ F.oo → b ≠ a → b ∈ oo := fun b hb hn => by
    rw [eo] at hb
    exact (List.mem_cons.mp hb).resolve_left hn
  obtain ⟨m1, m2, m3⟩ := i.mus _ mem
  have mn : ∀ b, F.N b → b < h.objs.size → (F.froz oo mu m).N b := fun b n _ => ⟨n.1, fun z => n.2.1 (sub b z), n.2.2⟩
  obtain ⟨vs, hl, hv⟩ := i.muts _ mem
  have aN : (F.froz oo mu m).N a := ⟨i.n0 a (i.above a (.inl m1)), hao, fun z => i.sep a z m1⟩
  have aD : Is (F.froz oo mu m).N h (.list ds) (.ref a) := .list aN hl (hv.mono mn)
  have key : ∀ x d v, m x = some d → (∀ d', F.m x = some d' → Is F.N h d' v) → Is (F.froz oo mu m).N h d v := fun x d v hx hh => by
    rcases hm x d hx with e | ⟨e, rfl⟩
    · exact (hh d e).mono mn
    · have := hh _ e
      cases this
      exact aD
  have nd := i.mun
  rw [em, List.map_cons] at nd
  exact
    { keep := i.keep
      above := fun b hb => i.above b (hb.imp (sub b) id)
      alive := fun b hb => i.alive b (hb.imp (sub b) id)
      sep := fun b hb hm' => i.sep b hb (sub b hm')
      n0 := i.n0
      loc := inv _ i.loc (Ne.symm m2)
      cel := fun x c hc => ⟨inv _ (i.cel x c hc).1 (m3 x c hc), (i.cel x c hc).2⟩
      apart := i.apart
      mus := fun p hp => by
        have hp' : p ∈ F.mu := em ▸ List.mem_cons_of_mem _ hp
        obtain ⟨h1, h2, h3⟩ := i.mus p hp'
        exact ⟨inv _ h1 (fun e => (List.nodup_cons.mp nd).1 (List.mem_map.mpr ⟨p, hp, e⟩)), h2, h3⟩
      mun := (List.nodup_cons.mp nd).2
      names := by
        obtain ⟨ml, hn, hv'⟩ := i.names
        refine ⟨ml, hn, fun x d hx hk => ?_⟩
        rcases hm x d hx with e | ⟨e, rfl⟩
        · obtain ⟨v, e1, y⟩ := hv' x d e hk
          exact ⟨v, e1, y.mono mn⟩
        · obtain ⟨v, e1, y⟩ := hv' x _ e hk
          cases y
          exact ⟨_, e1, aD⟩
      cells := fun x c hc => by
        obtain ⟨o, ho, hv'⟩ := i.cells x c hc
        refine ⟨o, ho, fun d hd hk => ?_⟩
        rcases hm x d hd with e | ⟨e, rfl⟩
        · obtain ⟨v, e1, y⟩ := hv' d e hk
          exact ⟨v, e1, y.mono mn⟩
        · obtain ⟨v, e1, y⟩ := hv' _ e hk
          cases y
          exact ⟨_, e1, aD⟩
      muts := fun p hp => by
        have hp' : p ∈ F.mu := em ▸ List.mem_cons_of_mem _ hp
        obtain ⟨vs, hl, hv⟩ := i.muts p hp'
        exact ⟨vs, hl, hv.mono mn⟩
      x := trivial }

theorem Fm.I.touch {F : Fm} {h h' : Heap} {a : Addr} {ds ds' : List D} {vs : Array Value} (i : F.I h) (mem : (a, ds) ∈ F.mu) (hs : Heap.SameBut a h h') (hl : h'.PlainList a vs) (ys : Iss F.N h ds' vs.toList) : (F.upd a ds').I h' := by
  obtain ⟨m1, m2, m3⟩ := i.mus _ mem
  have k : ∀ b o, b ≠ a → h.get? b = some o → h'.get? b = some o := fun b o nb e => (hs.2 b nb).trans e
  have kb : ∀ b o, b ∉ F.oo → h.get? b = some o → h'.get? b = some o := fun b o nb e => k b o (fun z => nb (z ▸ m1)) e
  have st := Fm.stay (F := F) kb
  have hu : (updMu F.mu a ds').map (·.1) = F.mu.map (·.1) := by
    unfold updMu
    rw [List.map_map]
    refine List.map_congr_left fun p _ => ?_
    show (if p.1 = a then (a, ds') else p).1 = p.1
    split
    · rename_i e; exact e.symm
    · rfl
  have memu : ∀ p ∈ updMu F.mu a ds', p = (a, ds') ∨ (p ∈ F.mu ∧ p.1 ≠ a) := fun p hp => by
    obtain ⟨q, hq, e⟩ := List.mem_map.mp hp
    by_cases z : q.1 = a
    · rw [if_pos z] at e; exact .inl e.symm
    · rw [if_neg z] at e; subst e; exact .inr ⟨hq, z⟩
  exact
    { keep := fun b o e => k b o (fun z => Nat.lt_irrefl _ (Nat.lt_of_lt_of_le (Heap.lt_size e) (by rw [z]; exact i.above _ (.inl m1)))) (i.keep b o e)
      above := i.above
      alive := fun b hb => by
        by_cases z : b = a
        · subst z; obtain ⟨n, e⟩ := hl; exact ⟨_, e⟩
        · obtain ⟨o, e⟩ := i.alive b hb; exact ⟨o, k _ _ z e⟩
      sep := i.sep
      n0 := i.n0
      loc := i.loc
      cel := i.cel
      apart := i.apart
      mus := fun p hp => by
        rcases memu p hp with rfl | ⟨hp, _⟩
        · exact ⟨m1, m2, m3⟩
        · exact i.mus p hp
      mun := by show ((updMu F.mu a ds').map (·.1)).Nodup; rw [hu]; exact i.mun
      names := by
        obtain ⟨ml, hn, hv⟩ := i.names
        refine ⟨ml, hn.sameBut hs (Ne.symm m2), fun x d hx hk => ?_⟩
        obtain ⟨v, e, y⟩ := hv x d hx hk
        exact ⟨v, e, y.move st⟩
      cells := fun x c hc => by
        obtain ⟨o, ho, hv⟩ := i.cells x c hc
        refine ⟨o, ho.sameBut hs (m3 x c hc), fun d hd hk => ?_⟩
        obtain ⟨v, e, y⟩ := hv d hd hk
        exact ⟨v, e, y.move st⟩
      muts := fun p hp => by
        rcases memu p hp with rfl | ⟨hp, hne⟩
        · exact ⟨vs, hl, ys.move st⟩
        · obtain ⟨vs, hl, hv⟩ := i.muts p hp
          exact ⟨vs, hl.at fun o e => k _ o hne e, hv.move st⟩
      x := F.xs _ _ i.x kb }

section
variable {w : World} {A : Around} {E : Value → Shared → Prop} {Q : Flow → Shared → Prop} {h : Heap} {tk : Nat} {g dd o} {F : Fm} {env : Env} {pos : Pos} {rest : List Stmt}

theorem ex_new {x : Str} {px : Pos} {e : Expr} {ds : List D} (i : F.I h) (he : F.env = env) (G : GN w A env F.cx e ds) (fl : Flats ds) (hk : F.env.scope.kind = .function) (hx : F.own x) (hs : swapsWith e (some (.Name x px)) pos.line env = pure false)
    (q : ∀ a h' tk', a ∉ F.oo → ((F.mut a ds).set x (.val (.ref a))).I h' → XS w A env rest Q E ⟨h', g, dd, tk', o⟩) : XS w A env (.Assign [.Name x px] e pos :: rest) Q E ⟨h, g, dd, tk, o⟩ := by
  subst he
  refine ⟨wpAny_execs_cons (wpAny_Assign_Name (G.go E h tk g dd o _ i fun a vs h₁ h' tk' i₁ k₁ ha hl ys k₂ => ?_) hs)⟩
  have i' : (F.mut a ds).I h' := Fm.I.mut i₁ ha k₂ hl ys fl
  have hno : a ∉ F.oo := fun hm => by
    have i₁' : F.I h₁ := i₁
    obtain ⟨ob, e⟩ := i₁'.alive a (.inl hm)
    exact Nat.lt_irrefl _ (Nat.lt_of_lt_of_le (Heap.lt_size e) ha)
  exact st_name (F := F.mut a ds) i' (d := .val (.ref a)) (.val _) hk hx fun h₂ tk₂ i₂ _ => (q a h₂ tk₂ hno i₂).go

theorem ex_append {x : Str} {px apos cpos : Pos} {e : Expr} {a : Addr} {ds : List D} {d : D} (i : F.I h) (he : F.env = env) (hv : F.m x = some (.val (.ref a))) (mem : (a, ds) ∈ F.mu) (G : GV w A env F.cx e d) (hk : F.env.scope.kind = .function) (hx : F.own x) (hd : (x == ("__debug__" : Str)) = false)
    (hn : ds.length ≤ 1000) (hs : starEach [e] env = [(false, eval e env)]) (hline : (apos.endLine == cpos.line) = true) (hbase : attributeBase (.Name x px) "append" env (eval (.Name x px) env) = eval (.Name x px) env)
    (hi : interactive env = false) (hsw : swapsWith (.Call (.Attribute (.Name x px) "append" apos) [e] [] cpos) none pos.line env = pure false)
    (q : ∀ h' tk', (F.upd a (ds ++ [d])).I h' → XS w A env rest Q E ⟨h', g, dd, tk', o⟩) : XS w A env (.Expr (.Call (.Attribute (.Name x px) "append" apos) [e] [] cpos) pos :: rest) Q E ⟨h, g, dd, tk, o⟩ := by
  subst he
  refine ⟨wpAny_execs_cons (wpAny_Expr (Call_method1 hbase hs hline (wpAny_Name (ld_name i hv hk hx fun v y => ?_) hd)) hi hsw)⟩
  cases y
  obtain ⟨vs, ⟨n, ho⟩, ys⟩ := i.muts _ mem
  refine ⟨"list", "list.append", PySem.F.plainAttrs_list, PySem.F.slot_list_append, PySem.F.type_list_append, ⟨_, ho, rfl⟩, fun a' e => by cases e; exact ⟨_, ho, rfl⟩, ?_⟩
  refine callWith_builtin (by rfl) ?_
  refine evalArgs_plain (spliced_cons (G.go E h tk g dd o _ i fun v h' tk' y k => spliced_nil ?_))
  have i' := i.keeps k
  obtain ⟨vs, hl, ys⟩ := i'.muts _ mem
  have hsz : vs.size ≤ 1000 := by have := ys.length; rw [Array.length_toList] at this; show vs.size ≤ 1000; have e : vs.size = ds.length := this; omega
  refine wpAny_list_append_plain (s := ⟨h', g, dd, tk', o⟩) (hsz := Nat.le_trans hsz (by decide)) hl fun h₂ hl₂ hs₂ => ?_
  refine (q h₂ tk' (i'.touch mem hs₂ hl₂ ?_)).go
  rw [Array.toList_push]
  exact Iss.append (.cons y .nil) ys

theorem ex_setitem {x : Str} {px sp : Pos} {ie e : Expr} {a : Addr} {ds : List D} {j : Int} {d : D} (i : F.I h) (he : F.env = env) (hv : F.m x = some (.val (.ref a))) (mem : (a, ds) ∈ F.mu) (G : GV w A env F.cx e d) (Gi : GV w A env F.cx ie (.int j)) (hk : F.env.scope.kind = .function) (hx : F.own x) (hd : (x == ("__debug__" : Str)) = false)
    (h0 : 0 ≤ j) (hj : j < ds.length) (hn : ds.length ≤ 1000) (hs : swapsWith e (some (.Subscript (.Name x px) ie sp)) pos.line env = pure false)
    (q : ∀ h' tk', (F.upd a (ds.set j.toNat d)).I h' → XS w A env rest Q E ⟨h', g, dd, tk', o⟩) : XS w A env (.Assign [.Subscript (.Name x px) ie sp] e pos :: rest) Q E ⟨h, g, dd, tk, o⟩ := by
  subst he
  refine ⟨wpAny_execs_cons (wpAny_Assign_Subscript (G.go E h tk g dd o _ i fun v h₁ tk₁ y k₁ => wpAny_Name (ld_name (i.keeps k₁) hv hk hx fun v' y' => Gi.go E h₁ tk₁ g dd o _ (i.keeps k₁) fun v'' h₂ tk₂ y'' k₂ => ?_) hd) hs)⟩
  cases y'
  cases y''
  have i' := (i.keeps k₁).keeps k₂
  obtain ⟨vs, ⟨n, ho⟩, ys⟩ := i'.muts _ mem
  have hsz : vs.size = ds.length := by have := ys.length; rwa [Array.length_toList] at this
  refine ki_setAt (s := ⟨h₂, g, dd, tk₂, o⟩) (n := n) ho h0 (by omega) (by omega) ?_
  refine (q _ tk₂ (i'.touch mem (Heap.SameBut.update ..) (vs := vs.setIfInBounds j.toNat v) ?_ ?_)).go
  · have := PySem.IsL.update (h := h₂) (l := a) (items := vs) ho (fun x => x.setIfInBounds j.toNat v)
    exact ⟨_, this⟩
  · rw [Array.toList_setIfInBounds]
    exact Iss.set (y.keeps k₂) _ ys
end
end

section
open PySem PySem.W PyProof.Rows PySem.Calls
set_option maxRecDepth 100000
set_option linter.unusedVariables false
section
variable {w : World} {mg mb : Str → Option Value} {k : Addr} {A : Around} {C : Cx} {env : Env}

theorem tr_list {ds : List D} (hn : ds.length ≤ 1000) : Tr w A (.list ds) (!ds.isEmpty) := ⟨fun N E h tk g dd o x Q hx q => by
  cases hx with
  | @list a vs ds na hl ys =>
    have hsz : vs.size = ds.length := by have := ys.length; rwa [Array.length_toList] at this
    refine wpAny_truthy_list (s := ⟨h, g, dd, tk, o⟩) hl.isList (by omega) ?_
    have e : (!vs.isEmpty) = !ds.isEmpty := by
      cases ds with
      | nil => simp [Array.isEmpty, hsz]
      | cons d ds => simp [Array.isEmpty, hsz]
    rw [e]
    exact q _ _ (.refl _)⟩

theorem gv_and2 {e1 e2 : Expr} {p : Pos} {c : Bool} {d : D} (h1 : GV w A env C e1 (.bool c)) (h2 : c = true → GV w A env C e2 d) (h3 : c = false → d = .bool false) : GV w A env C (.BoolOp .And [e1, e2] p) d :=
  ⟨fun E h tk g dd o Q i q => BoolOp_and (h1.go E h tk g dd o _ i fun v h' tk' y kp => by
    cases y
    refine wpAny_truthy_bool ?_
    cases c with
    | false => rw [h3 rfl] at q; exact q _ h' tk' (.bool _) kp
    | true => exact BoolOp_one ((h2 rfl).go E h' tk' g dd o Q (C.keeps _ _ i kp) fun v' h'' tk'' y' kp' => q _ _ _ y' (kp.trans kp')))⟩

theorem slicePick_head (items : Array Value) (b : Nat) : slicePick items none (some (b : Int)) none = (items.toList.take b).toArray := by
  rcases Nat.le_total b items.size with h | h
  · exact slicePick_upto items b h
  · have e : sliceBounds none (some (b : Int)) none items.size = (((0 : Nat) : Int), ((items.size : Nat) : Int), 1) := by
      simp only [sliceBounds, Option.getD_none]
      have h2 : ¬ ((b : Int) < 0) := by omega
      simp only [h2, if_false, show (1 : Int) > 0 by decide, if_true]
      congr 1
      congr 1; omega
    unfold slicePick
    rw [e]
    simp only [sliceRange_one, pick_run]
    rw [List.take_of_length_le (by simp)]
    simp
    rw [List.take_of_length_le (by simpa using h)]

theorem iss_ints {N : Addr → Prop} {h : Heap} : ∀ {vs : List Value} {ns : List Int}, IntsAre vs ns → Iss N h (ns.map .int) vs
  | _, _, .nil => .nil
  | _, _, .cons n t r => .cons (.int n t) (iss_ints r)

theorem gv_head {e1 e2 : Expr} {p p' p'' : Pos} {x2 : Nat} {p2 : Pos} {a : Addr} {vs : List Value} {ns ds : List Int} {b : Nat} (hL : ∀ h, C.I h → h.IsList a vs.toArray) (hi : IntsAre vs ns) (hn : ns.length ≤ 63) (hn2 : ds.length ≤ 63) (hd : ds ≠ [])
    (h1 : GV w A env C e1 (.val (.ref a))) (h2 : GV w A env C e2 (.list (ds.map .int))) :
    GV w A env C (.Subscript (.BoolOp .Or [e1, e2] p) (.Slice none (some (.Constant (.int (b : Nat)) x2 p2)) none p') p'') (.list (((if ns = [] then ds else ns).take b).map .int)) :=
  ⟨fun E h tk g dd o Q i q => by
    have fin : ∀ (a' : Addr) (its : Array Value) (h' : Heap) (tk' : Nat), C.I h' → KP h h' → h'.IsList a' its → its.size ≤ 63 → Iss C.N h' ((if ns = [] then ds else ns).map .int) its.toList →
        wpAny (model P0 w) A (eval (.Slice none (some (.Constant (.int (b : Nat)) x2 p2)) none p') env) (fun iv s₂ => wpAny (model P0 w) A (subscriptTail (.BoolOp .Or [e1, e2] p) (.Slice none (some (.Constant (.int (b : Nat)) x2 p2)) none p') (.ref a') iv) Q E s₂) E ⟨h', g, dd, tk', o⟩ := fun a' its h' tk' i' kp hl hsz ys => by
      refine wpAny_Slice (evalPart_none_step (evalPart_some_step (wpAny_mkInt (evalPart_none_step ?_))))
      refine kba_turn (value' := PySem.Expr.Name (PySem.Str.ofString "_") ⟨0, 0, 0, 0⟩) (fun _ => rfl) ?_
      refine subscriptTail_ops (Heap.IsList.typeIs (s := ⟨_, g, dd, tk' + 1, o⟩) (hl.push _)) list_getitem_lookup (wpAny_getItem_list_slice (lo := none) (hi := some (b : Int)) (st := none) (hl.push _) (Heap.IsSliceOf.new ..) .none (.int _ _) .none (by simp) ?_ (Nat.le_trans hsz (by decide))) rfl (fun _ => rfl)
      refine q _ _ _ (.list (vs := slicePick its none (some (b : Int)) none) (C.fresh _ _ i' (Nat.le_trans (Nat.le_succ _) (Nat.le_of_eq (Heap.size_push ..).symm))) ⟨0, Heap.get?_push_size _ rfl⟩ ?_) ((kp.trans (.push _ _)).trans (.push _ _))
      rw [slicePick_head]
      rw [List.map_take]
      have key : ∀ {ds : List D} {vs : List Value} (j : Nat), Iss C.N h' ds vs → Iss C.N h' (ds.take j) (vs.take j) := by
        intro ds vs j x
        induction j generalizing ds vs with
        | zero => exact .nil
        | succ j ih => cases x with
          | nil => exact .nil
          | cons y ys => exact .cons y (ih ys)
      exact ((key b ys).keeps (.push _ _)).keeps (.push _ _)
    refine Subscript_ (BoolOp_or (h1.go E h tk g dd o _ i fun v h' tk' y kp => ?_))
    cases y
    have i' := C.keeps _ _ i kp
    have hl := hL h' i'
    have hlen := hi.length
    refine wpAny_truthy_list (s := ⟨h', g, dd, tk', o⟩) hl (by simp; omega) ?_
    by_cases hz : ns = []
    · have hv : vs = [] := by rw [hz] at hlen; simpa using hlen
      subst hv
      simp only [Array.isEmpty, List.size_toArray, List.length_nil, decide_true, Bool.not_true, Bool.false_eq_true, if_false]
      refine BoolOp_one (h2.go E h' _ g dd o _ i' fun v h'' tk'' y' kp' => ?_)
      cases y' with
      | @list l its ds' na hl' ys =>
      have hsz : its.size = ds.length := by have := ys.length; rw [Array.length_toList] at this; simpa using this
      exact fin l its h'' tk'' (C.keeps _ _ i' kp') (kp.trans kp') hl'.isList (by omega) (by rw [if_pos hz]; exact ys)
    · have hv : vs.toArray.isEmpty = false := by
        cases vs with
        | nil => exact absurd (by simpa using hlen.symm) hz
        | cons v vs => rfl
      rw [hv]
      simp only [Bool.not_false, if_true]
      exact fin a vs.toArray h' _ i' kp hl (by simp; omega) (by rw [if_neg hz]; exact iss_ints hi)⟩
end
end

section
open PySem PySem.W PyProof.Rows PySem.Calls
set_option maxRecDepth 100000
set_option linter.unusedVariables false
section
variable {w : World} {A : Around} {E : Value → Shared → Prop} {Q : Flow → Shared → Prop} {h : Heap} {tk : Nat} {g dd o} {F : Fm} {env : Env} {pos : Pos} {rest : List Stmt}

theorem fresh_no {h : Heap} {a : Addr} (i : F.I h) (ha : h.objs.size ≤ a) : a ∉ F.oo := fun hm => by
  obtain ⟨ob, e⟩ := i.alive a (.inl hm)
  exact Nat.lt_irrefl _ (Nat.lt_of_lt_of_le (Heap.lt_size e) ha)

theorem ex_unpack_new2 {e1 e2 : Expr} {es : List Expr} {k1 k2 : Nat} {tp p2 : Pos} {x1 x2 : Str} {ds1 : List D} {d2 : D} (i : F.I h) (he : F.env = env) (hh : A.handled = none) (G1 : GN w A env F.cx e1 ds1) (fl : Flats ds1) (G2 : ∀ a, GV w A env (F.mut a ds1).cx e2 d2)
    (hk : F.env.scope.kind = .function) (h1 : F.own x1) (h2 : F.own x2) (hs : swapsWithSole [.Tuple es k1 tp] (.Tuple [e1, e2] k2 p2) pos.line env = pure false) (hw : swappedStores [.Tuple es k1 tp] (.Tuple [e1, e2] k2 p2) env = pure none) (nm : Nms es [x1, x2])
    (hb : backTo p2 (starEach [e1, e2] env) = [(false, eval e1 env), (false, eval e2 env)])
    (q : ∀ a h' tk', a ∉ F.oo → (((F.mut a ds1).set x1 (.val (.ref a))).set x2 d2).I h' → XS w A env rest Q E ⟨h', g, dd, tk', o⟩) : XS w A env (.Assign [.Tuple es k1 tp] (.Tuple [e1, e2] k2 p2) pos :: rest) Q E ⟨h, g, dd, tk, o⟩ := by
  subst he
  refine ⟨wpAny_execs_cons (Assign_Tuple (Tuple_ ?_) hs hw)⟩
  rw [hb]
  refine spliced_cons (G1.go E h tk g dd o _ i fun a vs h₁ h' tk' i₁ k₁ ha hl ys k₂ => spliced_cons ?_)
  have i' : (F.mut a ds1).I h' := Fm.I.mut i₁ ha k₂ hl ys fl
  refine (G2 a).go E h' tk' g dd o _ i' fun v h₂ tk₂ y k₃ => spliced_nil ?_
  have i₂ : (F.mut a ds1).I h₂ := Fm.I.keeps i' k₃
  refine wpAny_newTuple ?_ (by simp [sizeLine])
  have i₃ := Fm.I.keeps i₂ (.push h₂ { cls := .type "tuple", data := .seq [Value.ref a, v].toArray })
  refine as_tuple (F := F.mut a ds1) (d := .tup [.val (.ref a), d2]) hh nm (.tup _) (.tup (i₂.fresh _ (Nat.le_refl _)) ⟨_, Heap.get?_push_size _ rfl, rfl, 0, rfl⟩ (.cons (.val _) (.cons (y.keeps (.push _ _)) .nil))) rfl i₃ hk (fun x hx => ?_) fun h₅ tk₅ i₅ _ => (q a h₅ tk₅ (fresh_no i₁ ha) i₅).go
  rcases List.mem_cons.mp hx with rfl | hx
  · exact h1
  · rcases List.mem_cons.mp hx with rfl | hx
    · exact h2
    · cases hx

theorem ex_unpack_new3 {e1 e2 e3 : Expr} {es : List Expr} {k1 k2 : Nat} {tp p2 : Pos} {x1 x2 x3 : Str} {ds1 ds2 : List D} {d3 : D} (i : F.I h) (he : F.env = env) (hh : A.handled = none) (G1 : GN w A env F.cx e1 ds1) (fl : Flats ds1) (G2 : ∀ a, GN w A env (F.mut a ds1).cx e2 ds2) (fl2 : Flats ds2) (G3 : ∀ a b, GV w A env ((F.mut a ds1).mut b ds2).cx e3 d3)
    (hk : F.env.scope.kind = .function) (h1 : F.own x1) (h2 : F.own x2) (h3 : F.own x3) (hs : swapsWithSole [.Tuple es k1 tp] (.Tuple [e1, e2, e3] k2 p2) pos.line env = pure false) (hw : swappedStores [.Tuple es k1 tp] (.Tuple [e1, e2, e3] k2 p2) env = pure none) (nm : Nms es [x1, x2, x3])
    (hb : backTo p2 (starEach [e1, e2, e3] env) = [(false, eval e1 env), (false, eval e2 env), (false, eval e3 env)])
    (q : ∀ a b h' tk', a ∉ F.oo → b ∉ a :: F.oo → (((((F.mut a ds1).mut b ds2).set x1 (.val (.ref a))).set x2 (.val (.ref b))).set x3 d3).I h' → XS w A env rest Q E ⟨h', g, dd, tk', o⟩) : XS w A env (.Assign [.Tuple es k1 tp] (.Tuple [e1, e2, e3] k2 p2) pos :: rest) Q E ⟨h, g, dd, tk, o⟩ := by
  subst he
  refine ⟨wpAny_execs_cons (Assign_Tuple (Tuple_ ?_) hs hw)⟩
  rw [hb]
  refine spliced_cons (G1.go E h tk g dd o _ i fun a vs h₁ h' tk' i₁ k₁ ha hl ys k₂ => spliced_cons ?_)
  have i' : (F.mut a ds1).I h' := Fm.I.mut i₁ ha k₂ hl ys fl
  refine (G2 a).go E h' tk' g dd o _ i' fun b vs' h₁' h'' tk'' i₁' k₁' hb' hl' ys' k₂' => spliced_cons ?_
  have i'' : ((F.mut a ds1).mut b ds2).I h'' := Fm.I.mut i₁' hb' k₂' hl' ys' fl2
  refine (G3 a b).go E h'' tk'' g dd o _ i'' fun v h₂ tk₂ y k₃ => spliced_nil ?_
  have i₂ : ((F.mut a ds1).mut b ds2).I h₂ := Fm.I.keeps i'' k₃
  refine wpAny_newTuple ?_ (by simp [sizeLine])
  have i₃ := Fm.I.keeps i₂ (.push h₂ { cls := .type "tuple", data := .seq [Value.ref a, Value.ref b, v].toArray })
  refine as_tuple (F := (F.mut a ds1).mut b ds2) (d := .tup [.val (.ref a), .val (.ref b), d3]) hh nm (.tup _) (.tup (i₂.fresh _ (Nat.le_refl _)) ⟨_, Heap.get?_push_size _ rfl, rfl, 0, rfl⟩ (.cons (.val _) (.cons (.val _) (.cons (y.keeps (.push _ _)) .nil)))) rfl i₃ hk (fun x hx => ?_) fun h₅ tk₅ i₅ _ => (q a b h₅ tk₅ (fresh_no i₁ ha) (fresh_no (F := F.mut a ds1) i₁' hb') i₅).go
  rcases List.mem_cons.mp hx with rfl | hx
  · exact h1
  · rcases List.mem_cons.mp hx with rfl | hx
    · exact h2
    · rcases List.mem_cons.mp hx with rfl | hx
      · exact h3
      · cases hx

theorem lookup_mem' {x : Str} {d : D} : ∀ {l : List (Str × D)}, l.lookup x = some d → (x, d) ∈ l
  | [], h => by cases h
  | (a, b) :: l, h => by
    rw [List.lookup_cons] at h
    cases q : x == a with
    | true =>
      rw [q] at h
      have := eq_of_beq q
      subst this
      cases h
      exact .head _
    | false => rw [q] at h; exact .tail _ (lookup_mem' h)
def mm (l : List (Str × D)) : Str → Option D := fun x => l.lookup x
def HasAll (m : Str → Option D) : List (Str × D) → Prop
  | [] => True
  | p :: r => m p.1 = some p.2 ∧ HasAll m r
theorem HasAll.sub {m : Str → Option D} : ∀ {l : List (Str × D)}, HasAll m l → ∀ x d, mm l x = some d → m x = some d := fun {l} h x d e => by
  have hm := lookup_mem' e
  clear e
  induction l with
  | nil => cases hm
  | cons p r ih =>
    rcases List.mem_cons.mp hm with q | q
    · have := h.1; rw [← q] at this; exact this
    · exact ih h.2 q
theorem Fm.I.back {F' : Fm} (F : Fm) {h : Heap} {ex : List Addr} {X : Heap → Prop} {xs} {mu : List (Addr × List D)} {l : List (Str × D)} (i : F'.I h) (e : ({ F' with m := mm l, mu := mu } : Fm) = F.loop ex X xs (mm l) mu) (hu : F'.mu = mu) (hm : HasAll F'.m l) : (F.loop ex X xs (mm l) mu).I h := by
  rw [← e, ← hu]
  exact i.only _ hm.sub
end
end

local macro_rules | `(tactic| walk_at "mine:cb") => `(tactic| first | exact cb_max3i (by assumption) | exact cb_min3i (by assumption))
local macro_rules | `(tactic| walk_at "mine:gv") => `(tactic| first | exact gv_cvar (by assumption) rfl rfl rfl | exact gv_ccell (by assumption) rfl rfl rfl rfl rfl rfl rfl)
local macro_rules | `(tactic| walk_at "mine:comp") => `(tactic| (case clos => rfl); (case cell => decide); (case kind => rfl); (case names => decide); (case x => rfl); (case s => exact fun _ => rfl))
section
open PySem PySem.W PyProof.Rows PySem.Calls
set_option maxRecDepth 100000
set_option linter.unusedVariables false
section
variable {w : World} {mg mb : Str → Option Value} {k : Addr}

def nothingI : List (Int × Int × Int × Int × Int) := [(0, 0, 1, 45, 45), (0, 0, 6, 79, 79), (0, 0, 48, 6, 6), (0, 0, 48, 11, 13), (0, 0, 64, 11, 13), (0, 0, 64, 96, 96), (0, 3, 124, 0, 15), (0, 3, 125, 127, 127)]
def blankI : List (Int × Int × Int × Int × Int) := [(1, 0, 0, 32, 32)]
def noneAI : List (Int × Int × Int × Int × Int) := [(2, 3, 123, 80, 111)]
def noneBI : List (Int × Int × Int × Int × Int) := (List.range 17).map fun (p : Nat) => (2, 4 * (p : Int) + 3, 127, 126, 127)
def restI : List (Int × Int × Int × Int × Int) := [(3, 3, 127, 121, 125), (4, 0, 95, 112, 123), (5, 0, 6, 64, 65), (5, 0, 64, 14, 15), (5, 0, 64, 42, 46), (5, 0, 64, 106, 111), (6, 56, 0, 1, 1), (6, 56, 0, 32, 127)]
def boxesI : List (Int × Int × Int × Int × Int) := nothingI ++ blankI ++ (noneAI ++ noneBI) ++ restI

set_option maxHeartbeats 1000000 in
theorem fd_boxes : Fd w mg mb k 26 1 [] (.list (boxesI.map tup5)) := by
  refine fd_of (by show okFd _ 0 = true; decide +kernel) (fun pm cd doc vs hl => ?_) ⟨fun A E h tk gs dd o Q N₀ h₀ L a cd G ao i q => ?_⟩
  · match vs, hl with
    | [], _ => rfl
  have hh := ao.hh
  refine' ex_assign (d := .list (nothingI.map tup5)) i rfl ?G rfl ?o rfl ?q
  case G => walk_at "mine:gv"
  case o => walk_at "mine:own"
  case q =>
  intro _ _ i
  refine' ex_assign (d := .list (blankI.map tup5)) i rfl ?G rfl ?o rfl ?q
  case G => walk_at "mine:gv"
  case o => walk_at "mine:own"
  case q =>
  intro _ _ i
  refine' ex_assign (d := .list (noneAI.map tup5 ++ noneBI.map tup5)) i rfl ?G rfl ?o rfl ?q
  case G =>
    refine' gv_bin ?l ?r (op_add_ll (by decide +kernel))
    case l => walk_at "mine:gv"
    case r =>
      refine' gv_comp (d := .rng 17) (ds := (List.range 17).map fun i => .int (i : Nat)) ((List.range 17).map fun (p : Nat) => some (tup5 (2, 4 * (p : Int) + 3, 127, 126, 127))) rfl ?it0 (it_rng 17 (by decide) hh) ?clos ?cell ?kind ?names ?x ?s rfl (by decide) ?bd
      walk_at "mine:comp"
      case it0 => walk_at "mine:gv"
      case bd =>
        intro j dj od C Ca e1 e2 ca
        obtain ⟨p, _, rfl, rfl⟩ := outs_map e1 e2
        refine ⟨gts_nil, fun d' e => ?_⟩
        cases e
        refine' gv_tuple ?es (by show 5 ≤ 1000; decide); (case es => walk_at "mine:gvs")
  case o => walk_at "mine:own"
  case q =>
  intro _ _ i
  refine' ex_assign (d := .list (restI.map tup5)) i rfl ?G rfl ?o rfl ?q
  case G => walk_at "mine:gv"
  case o => walk_at "mine:own"
  case q =>
  intro _ _ i
  refine' ex_return (d := .list (nothingI.map tup5 ++ blankI.map tup5 ++ (noneAI.map tup5 ++ noneBI.map tup5) ++ restI.map tup5)) i rfl ?G ?q
  case G => walk_at "mine:gv"
  case q =>
    intro v h' tk' y i'
    refine q v h' tk' ?_ i'.keep
    have e : boxesI.map tup5 = nothingI.map tup5 ++ blankI.map tup5 ++ (noneAI.map tup5 ++ noneBI.map tup5) ++ restI.map tup5 := by simp only [boxesI, List.map_append]
    rw [e]; exact y
end
end

section
open PySem PySem.W PyProof.Rows PySem.Calls
set_option maxRecDepth 100000
set_option linter.unusedVariables false
section
variable {w : World} {mg mb : Str → Option Value} {k : Addr}

abbrev Box := Int × Int × Int × Int × Int
def inBox (r g b : Int) (x : Box) : Bool := r == x.2.1 && (g == x.2.2.1 && (decide (x.2.2.2.1 ≤ b) && decide (b ≤ x.2.2.2.2) && true))
def heldStep (r g b : Int) (held : List Bool) (x : Box) : List Bool := if inBox r g b x then held.set x.1.toNat true else held
def heldI (r g b : Int) (boxes : List Box) : List Bool := boxes.foldl (heldStep r g b) (List.replicate 7 false)
def heldAt (r g b : Int) (boxes : List Box) (j : Nat) : List Bool := heldI r g b (boxes.take j)

theorem heldStep_len (r g b : Int) (held : List Bool) (x : Box) : (heldStep r g b held x).length = held.length := by
  unfold heldStep; split <;> simp
theorem heldI_len (r g b : Int) (boxes : List Box) : (heldI r g b boxes).length = 7 := by
  unfold heldI
  have key : ∀ (l : List Box) (h : List Bool), (l.foldl (heldStep r g b) h).length = h.length := by
    intro l
    induction l with
    | nil => intro h; rfl
    | cons x l ih => intro h; rw [List.foldl_cons, ih, heldStep_len]
  rw [key]; rfl
theorem heldAt_succ {r g b : Int} {boxes : List Box} {j : Nat} {x : Box} (e : boxes[j]? = some x) : heldAt r g b boxes (j + 1) = heldStep r g b (heldAt r g b boxes j) x := by
  unfold heldAt heldI
  rw [List.take_add_one, e, List.foldl_append]
  rfl

theorem map_bool_set (l : List Bool) (j : Nat) : (l.map D.bool).set j (.bool true) = (l.set j true).map D.bool := by rw [List.map_set]
theorem getMap {α : Type} {f : α → D} {l : List α} {j : Nat} {d : D} (e : (l.map f)[j]? = some d) : ∃ x, l[j]? = some x ∧ d = f x := by
  rw [List.getElem?_map] at e
  cases h : l[j]? with
  | none => rw [h] at e; cases e
  | some x => rw [h] at e; cases e; exact ⟨x, rfl, rfl⟩
theorem flats_bools : ∀ l : List Bool, Flats (l.map D.bool)
  | [] => .nil
  | b :: l => .bool (flats_bools l)

theorem updMu_one {m : Addr} {a b : List D} : updMu [(m, a)] m b = [(m, b)] := by simp [updMu]
theorem updMu_fst {m n : Addr} {a b c : List D} (h : n ≠ m) : updMu [(m, a), (n, b)] m c = [(m, c), (n, b)] := by simp [updMu, h]
theorem updMu_snd {m n : Addr} {a b c : List D} (h : n ≠ m) : updMu [(m, a), (n, b)] n c = [(m, a), (n, c)] := by simp [updMu, Ne.symm h]

set_option maxHeartbeats 1000000 in
theorem fd_held (r g b : Int) (boxes : List Box) (ht : ∀ x ∈ boxes, 0 ≤ x.1 ∧ x.1 < 7) : Fd w mg mb k 29 1 [.list [.int r, .int g, .int b], .list (boxes.map tup5)] (.list ((heldI r g b boxes).map .bool)) := by
  refine fd_of (by show okFd _ 2 = true; decide +kernel) (fun pm cd doc vs hl => ?_) ⟨fun A E h tk gs dd o Q N₀ h₀ L a cd G ao i q => ?_⟩
  · match vs, hl with
    | [a, b], _ => rfl
  have hh := ao.hh
  refine' ex_new (ds := List.replicate 7 (.bool false)) i rfl ?G ?fl rfl ?o rfl ?q
  case G => exact gn_times (n := 7) (gn_list (gvs_cons gv_bool gvs_nil rfl) (by decide)) (by decide)
  case fl => exact flats_bools (List.replicate 7 false)
  case o => walk_at "mine:own"
  case q =>
  intro m _ _ hno i
  refine' ex_for (d := .list (boxes.map tup5)) (ds := boxes.map tup5) (fun _ => mm [("parts", .list [.int r, .int g, .int b]), ("boxes", .list (boxes.map tup5)), ("held", .val (.ref m))]) (fun j => [(m, (heldAt r g b boxes j).map .bool)]) ["table", "red", "green", "low", "high"]
    (fun j => let x := boxes.getD j (0, 0, 0, 0, 0); [.int x.1, .int x.2.1, .int x.2.2.1, .int x.2.2.2.1, .int x.2.2.2.2]) i rfl hh ?G (it_list _ hh) ?s rfl ?tg ?own ?h0 rfl ?step ?q
  case G => walk_at "mine:gv"
  case s => exact fun _ => rfl
  case tg =>
    intro j dj e
    obtain ⟨x, ex, rfl⟩ := getMap e
    have : boxes.getD j (0, 0, 0, 0, 0) = x := by rw [List.getD_eq_getElem?_getD, ex]; rfl
    rw [this]
    exact .tup (.cons (.cons (.cons (.cons (.cons .nil))))) (.tup _) rfl
  case own =>
    intro x hx
    simp only [List.mem_cons, List.not_mem_nil, or_false] at hx
    rcases hx with rfl | rfl | rfl | rfl | rfl <;> exact .inl rfl
  case h0 => exact HasAll.sub ⟨rfl, rfl, rfl, trivial⟩
  case step =>
    intro j ex X xs' E' h' tk' Q' hj i' q'
    have hj' : j < boxes.length := by simpa using hj
    obtain ⟨x, hx⟩ : ∃ x, boxes[j]? = some x := ⟨_, List.getElem?_eq_getElem hj'⟩
    have ex' : boxes.getD j (0, 0, 0, 0, 0) = x := by rw [List.getD_eq_getElem?_getD, hx]; rfl
    simp only [ex'] at i'
    have hxm := ht x (List.mem_of_getElem? hx)
    have hst := heldAt_succ (r := r) (g := g) (b := b) hx
    refine' ex_if (c := inBox r g b x) i' rfl ?G1 ?t ?f
    case G1 =>
      refine' gt_and ?a fun _ => gt_and ?b fun _ => gt_and ?c fun _ => gt_and_nil
      case a => exact gt_cmp (gv_sub (k := 0) (by walk_at "mine:gv") gv_int (by decide) (by decide) rfl (fun _ _ => rfl)) (by walk_at "mine:gv") cm_eq_ii rfl
      case b => exact gt_cmp (gv_sub (k := 1) (by walk_at "mine:gv") gv_int (by decide) (by decide) rfl (fun _ _ => rfl)) (by walk_at "mine:gv") cm_eq_ii rfl
      case c => exact gt_chain2 (by walk_at "mine:gv") (gv_sub (k := 2) (by walk_at "mine:gv") gv_int (by decide) (by decide) rfl (fun _ _ => rfl)) (by walk_at "mine:gv") cm_le_ii cm_le_ii rfl
    case t =>
      intro hc _ _ i
      refine' ex_setitem (a := m) (ds := (heldAt r g b boxes j).map .bool) (j := x.1) (d := .bool true) i rfl rfl List.mem_cons_self gv_bool ?Gi rfl ?o2 rfl hxm.1 ?lt ?le rfl ?q2
      case Gi => walk_at "mine:gv"
      case o2 => walk_at "mine:own"
      case lt => rw [List.length_map]; unfold heldAt; rw [heldI_len]; exact hxm.2
      case le => rw [List.length_map]; unfold heldAt; rw [heldI_len]; decide
      case q2 =>
      intro _ _ i
      refine ex_nil (ex_then (ex_nil (q' _ _ (Fm.I.back _ i rfl ?_ ⟨rfl, rfl, rfl, trivial⟩))))
      show updMu [(m, _)] m _ = _
      rw [updMu_one, map_bool_set, hst, heldStep, if_pos hc]
    case f =>
      intro hc _ _ i
      refine ex_nil (ex_then (ex_nil (q' _ _ (Fm.I.back _ i rfl ?_ ⟨rfl, rfl, rfl, trivial⟩))))
      show [(m, _)] = _
      rw [hst, heldStep, if_neg (by rw [hc]; decide)]
  case q =>
  intro _ _ i
  have i₂ := i.froz (mm [("held", .list ((heldI r g b boxes).map .bool))]) (a := m) (ds := (heldI r g b boxes).map .bool) (mu := []) (oo := _) ?em rfl hno ?hm
  case em =>
    show [(m, (heldAt r g b boxes (boxes.map tup5).length).map D.bool)] = _
    unfold heldAt
    rw [List.length_map, List.take_length]
  case hm =>
    intro x d e
    have := lookup_mem' e
    simp only [List.mem_cons, List.not_mem_nil, or_false, Prod.mk.injEq] at this
    obtain ⟨rfl, rfl⟩ := this
    exact .inr ⟨rfl, rfl⟩
  refine' ex_return i₂ rfl ?G ?q
  case G => walk_at "mine:gv"
  case q => intro v h' tk' y i'; exact q v h' tk' y i'.keep
end
end

section
open PySem PySem.W PyProof.Rows PySem.Calls
set_option maxRecDepth 100000
set_option linter.unusedVariables false
section
variable {w : World} {mg mb : Str → Option Value} {k : Addr}

abbrev Col := Int × Int × Int
def colD (p : Col) : D := .list [.int p.1, .int p.2.1, .int p.2.2]
def bothI (p : Col) : Int := max3I p.1 p.2.1 p.2.2 + min3I p.1 p.2.1 p.2.2
def turn1 (p : Col) : Col := (bothI p - p.2.1, bothI p - p.2.2, bothI p - p.1)
def turnI (p : Col) : Nat → Col
  | 0 => p
  | n + 1 => turn1 (turnI p n)

local macro_rules | `(tactic| walk_at "mine:op") => `(tactic| exact op_sub_ii)

set_option maxHeartbeats 1000000 in
theorem fd_turned (p : Col) (n : Nat) (hn : n ≤ 1000) : Fd w mg mb k 31 1 [colD p, .int (n : Nat)] (colD (turnI p n)) := by
  refine fd_of (by show okFd _ 2 = true; decide +kernel) (fun pm cd doc vs hl => ?_) ⟨fun A E h tk gs dd o Q N₀ h₀ L a cd G ao i q => ?_⟩
  · match vs, hl with
    | [a, b], _ => rfl
  have hh := ao.hh
  refine' ex_unpack (d := colD p) (ds := [.int p.1, .int p.2.1, .int p.2.2]) (xs := ["r", "g", "b"]) i rfl hh ?G (.list _) ?nm rfl rfl ?own rfl rfl ?q
  case G => walk_at "mine:gv"
  case nm => exact .cons (.cons (.cons .nil))
  case own =>
    intro x hx
    simp only [List.mem_cons, List.not_mem_nil, or_false] at hx
    rcases hx with rfl | rfl | rfl <;> exact .inl rfl
  case q =>
  intro _ _ i
  refine' ex_for (d := .rng n) (ds := (List.range n).map fun i => .int (i : Nat)) (fun j => mm [("r", .int (turnI p j).1), ("g", .int (turnI p j).2.1), ("b", .int (turnI p j).2.2)]) (fun _ => []) ["sixth"]
    (fun j => [.int (j : Nat)]) i rfl hh ?G1 (it_rng n hn hh) ?s rfl ?tg ?own1 ?h0 rfl ?step ?q1
  case G1 => walk_at "mine:gv"
  case s => exact fun _ => rfl
  case tg =>
    intro j dj e
    rw [List.getElem?_map] at e
    cases hz : (List.range n)[j]? with
    | none => rw [hz] at e; cases e
    | some x =>
      rw [hz] at e
      cases e
      have : x = j := by
        rw [List.getElem?_eq_some_iff] at hz
        obtain ⟨_, e⟩ := hz
        simpa using e.symm
      subst this
      exact .name
  case own1 =>
    intro x hx
    simp only [List.mem_cons, List.not_mem_nil, or_false] at hx
    subst hx; exact .inl rfl
  case h0 => exact HasAll.sub ⟨rfl, rfl, rfl, trivial⟩
  case step =>
    intro j ex X xs' E' h' tk' Q' hj i' q'
    refine' ex_assign (d := .int (bothI (turnI p j))) i' rfl ?G2 rfl ?o2 rfl ?q2
    case G2 => walk_at "mine:gv"
    case o2 => walk_at "mine:own"
    case q2 =>
    intro _ _ i
    refine' ex_unpack_swapped (ds := [.int (turnI p (j + 1)).1, .int (turnI p (j + 1)).2.1, .int (turnI p (j + 1)).2.2]) (xs := ["r", "g", "b"]) i rfl hh ?G3 rfl rfl ?own3 rfl rfl ?q3
    case G3 => exact gv_tuple (gvs_cons (gv_bin (by walk_at "mine:gv") (by walk_at "mine:gv") op_sub_ii) (gvs_cons (gv_bin (by walk_at "mine:gv") (by walk_at "mine:gv") op_sub_ii) (gvs_cons (gv_bin (by walk_at "mine:gv") (by walk_at "mine:gv") op_sub_ii) gvs_nil rfl) rfl) rfl) (by decide)
    case own3 =>
      intro x hx
      simp only [List.mem_cons, List.not_mem_nil, or_false] at hx
      rcases hx with rfl | rfl | rfl <;> exact .inl rfl
    case q3 =>
    intro _ _ i
    exact ex_nil (q' _ _ (Fm.I.back _ i rfl rfl ⟨rfl, rfl, rfl, trivial⟩))
  case q1 =>
  intro _ _ i
  have e : ((List.range n).map fun i => D.int (i : Nat)).length = n := by simp
  rw [e] at i
  refine' ex_return (d := colD (turnI p n)) i rfl ?G4 ?q4
  case G4 => exact gv_list (gvs_cons (by walk_at "mine:gv") (gvs_cons (by walk_at "mine:gv") (gvs_cons (by walk_at "mine:gv") gvs_nil rfl) rfl) rfl) (by decide)
  case q4 => intro v h' tk' y i'; exact q v h' tk' y i'.keep

def blueI (x : Box) (j : Nat) : Int := [x.2.2.2.1, x.2.2.2.2, x.2.2.2.1 - 1, x.2.2.2.2 + 1].getD j 0
def boxI (q : Int) : Box := boxesI.getD (q.fmod 35).toNat (0, 0, 0, 0, 0)
def blockI (q : Int) : Box := blocksI.getD (q.fmod 10).toNat (0, 0, 0, 0, 0)
def greatRaw (q : Int) : Int := 16384 * (blockI q).1 + 128 * (blockI q).2.1 + (blockI q).2.2.1 + (q.fdiv 10).fmod ((blockI q).2.2.2.1 - (blockI q).2.2.1 + 1)
def greatI (q : Int) : Int := if greatRaw q == 215 || (greatRaw q == 930 || false) then greatRaw q + 1 else greatRaw q
def drawnI (n : Int) : Int × Int :=
  if n.fmod 3 == 0 then ((n.fdiv 3).fmod 1114112, 0)
  else if n.fmod 3 == 1 then ((16384 * (boxI (n.fdiv 3)).2.1 + 128 * (boxI (n.fdiv 3)).2.2.1 + blueI (boxI (n.fdiv 3)) (((n.fdiv 3).fdiv 35).fmod 4).toNat).fmod 1114112, 0)
  else (greatI (n.fdiv 3), (blockI (n.fdiv 3)).2.2.2.2)

theorem mapAt {l : List Box} {j : Nat} (h : j < l.length) : (l.map tup5)[j]? = some (tup5 (l.getD j (0, 0, 0, 0, 0))) := by
  rw [List.getElem?_map, List.getElem?_eq_getElem h, List.getD_eq_getElem?_getD, List.getElem?_eq_getElem h]; rfl
theorem boxes_len : boxesI.length = 35 := by decide +kernel
theorem blocks_len : blocksI.length = 10 := rfl
theorem blocks_ok : ∀ j : Fin 10, (blocksI.getD j.val (0, 0, 0, 0, 0)).2.2.2.1 - (blocksI.getD j.val (0, 0, 0, 0, 0)).2.2.1 + 1 ≠ 0 := by decide +kernel
theorem fmod_lt {q m : Int} (hm : 0 < m) : 0 ≤ q.fmod m ∧ q.fmod m < m := ⟨Int.fmod_nonneg_of_pos _ hm, Int.fmod_lt_of_pos _ hm⟩
theorem block_ok (q : Int) : (blockI q).2.2.2.1 - (blockI q).2.2.1 + 1 ≠ 0 := by
  obtain ⟨h0, h1⟩ := fmod_lt (q := q) (m := 10) (by decide)
  exact blocks_ok ⟨(q.fmod 10).toNat, by omega⟩
def unD (x : Box) : List D := [.int x.1, .int x.2.1, .int x.2.2.1, .int x.2.2.2.1, .int x.2.2.2.2]

local macro_rules | `(tactic| walk_at "mine:gv") => `(tactic| (refine' gv_callF (j := 27) (n := 1) (by assumption) (Fm.gc (by assumption)) ⟨rfl, rfl, rfl⟩ (by decide) rfl rfl rfl ?es (Ao.less (by assumption) (by decide)) fd_blocks; (case es => walk_at "mine:gvs")))

set_option maxHeartbeats 1000000 in
theorem fd_drawn (n : Int) : Fd w mg mb k 30 2 [.int n, .list (boxesI.map tup5)] (.tup [.int (drawnI n).1, .int (drawnI n).2]) := by
  refine fd_of (by show okFd _ 2 = true; decide +kernel) (fun pm cd doc vs hl => ?_) ⟨fun A E h tk gs dd o Q N₀ h₀ L a cd G ao i q => ?_⟩
  · match vs, hl with
    | [a, b], _ => rfl
  have hh := ao.hh
  refine' ex_assign (d := .int (n.fdiv 3)) i rfl ?G rfl ?o rfl ?q
  case G => walk_at "mine:gv"
  case o => walk_at "mine:own"
  case q =>
  intro _ _ i
  refine' ex_if (c := n.fmod 3 == 0) i rfl ?G1 ?t1 ?f1
  case G1 => walk_at "mine:gt"
  case t1 =>
    intro hc _ _ i
    have e : drawnI n = ((n.fdiv 3).fmod 1114112, 0) := if_pos hc
    rw [e] at q
    refine' ex_return i rfl ?G2 ?q2
    case G2 => exact gv_tuple (gvs_cons (gv_bin (a := .int (n.fdiv 3)) (by walk_at "mine:gv") gv_int (op_mod_ii (by decide))) (gvs_cons gv_int gvs_nil rfl) rfl) (by decide)
    case q2 => intro v h' tk' y i'; exact q v h' tk' y i'.keep
  case f1 =>
  intro hc _ _ i
  refine ex_nil (ex_then ?_)
  refine' ex_if (c := n.fmod 3 == 1) i rfl ?G3 ?t3 ?f3
  case G3 => walk_at "mine:gt"
  case t3 =>
    intro hc' _ _ i
    have e : drawnI n = _ := (if_neg (by rw [hc]; decide)).trans (if_pos hc')
    rw [e] at q
    obtain ⟨b0, b1⟩ := fmod_lt (q := n.fdiv 3) (m := 35) (by decide)
    obtain ⟨c0, c1⟩ := fmod_lt (q := (n.fdiv 3).fdiv 35) (m := 4) (by decide)
    refine' ex_unpack (d := tup5 (boxI (n.fdiv 3))) (ds := unD (boxI (n.fdiv 3))) (xs := ["table", "red", "green", "low", "high"]) i rfl hh ?G4 (.tup _) ?nm rfl rfl ?own rfl rfl ?q4
    case G4 =>
      refine' gv_sub (k := (n.fdiv 3).fmod 35) (ds := boxesI.map tup5) (by walk_at "mine:gv") ?ix b0 (by omega) (mapAt ?lt) (fun _ _ => rfl)
      case ix => exact gv_bin (a := .int (n.fdiv 3)) (by walk_at "mine:gv") gv_int (op_mod_ii (by decide))
      case lt => rw [boxes_len]; omega
    case nm => exact .cons (.cons (.cons (.cons (.cons .nil))))
    case own =>
      intro x hx
      simp only [List.mem_cons, List.not_mem_nil, or_false] at hx
      rcases hx with rfl | rfl | rfl | rfl | rfl <;> exact .inl rfl
    case q4 =>
    intro _ _ i
    refine' ex_assign (d := .int (blueI (boxI (n.fdiv 3)) (((n.fdiv 3).fdiv 35).fmod 4).toNat)) i rfl ?G5 rfl ?o5 rfl ?q5
    case G5 =>
      refine' gv_sub (k := ((n.fdiv 3).fdiv 35).fmod 4) (ds := [.int (boxI (n.fdiv 3)).2.2.2.1, .int (boxI (n.fdiv 3)).2.2.2.2, .int ((boxI (n.fdiv 3)).2.2.2.1 - 1), .int ((boxI (n.fdiv 3)).2.2.2.2 + 1)]) ?ls ?ix c0 (by omega) ?at' (fun _ _ => rfl)
      case ls => exact gv_list (gvs_cons (by walk_at "mine:gv") (gvs_cons (by walk_at "mine:gv") (gvs_cons (gv_bin (a := .int (boxI (n.fdiv 3)).2.2.2.1) (by walk_at "mine:gv") gv_int op_sub_ii) (gvs_cons (gv_bin (a := .int (boxI (n.fdiv 3)).2.2.2.2) (by walk_at "mine:gv") gv_int op_add_ii) gvs_nil rfl) rfl) rfl) rfl) (by decide)
      case ix => exact gv_bin (a := .int ((n.fdiv 3).fdiv 35)) (gv_bin (a := .int (n.fdiv 3)) (by walk_at "mine:gv") gv_int (op_fdiv_ii (by decide) (PyProof.noPylong_small (by decide)))) gv_int (op_mod_ii (by decide))
      case at' =>
        have : (((n.fdiv 3).fdiv 35).fmod 4).toNat < 4 := by omega
        generalize (((n.fdiv 3).fdiv 35).fmod 4).toNat = j at this
        match j, this with
        | 0, _ => rfl
        | 1, _ => rfl
        | 2, _ => rfl
        | 3, _ => rfl
    case o5 => walk_at "mine:own"
    case q5 =>
    intro _ _ i
    refine' ex_return i rfl ?G6 ?q6
    case G6 =>
      exact gv_tuple (gvs_cons (gv_bin (gv_bin (gv_bin (gv_bin gv_int (by walk_at "mine:gv") (op_mul_ii (IntMulOk.of_left (by decide)))) (gv_bin gv_int (by walk_at "mine:gv") (op_mul_ii (IntMulOk.of_left (by decide)))) op_add_ii) (by walk_at "mine:gv") op_add_ii) gv_int (op_mod_ii (by decide))) (gvs_cons gv_int gvs_nil rfl) rfl) (by decide)
    case q6 => intro v h' tk' y i'; exact q v h' tk' y i'.keep
  case f3 =>
  intro hc' _ _ i
  refine ex_nil (ex_then ?_)
  have e : drawnI n = _ := (if_neg (by rw [hc]; decide)).trans (if_neg (by rw [hc']; decide))
  rw [e] at q
  obtain ⟨b0, b1⟩ := fmod_lt (q := n.fdiv 3) (m := 10) (by decide)
  refine' ex_unpack (d := tup5 (blockI (n.fdiv 3))) (ds := unD (blockI (n.fdiv 3))) (xs := ["red", "green", "low", "high", "step"]) i rfl hh ?G7 (.tup _) ?nm7 rfl rfl ?own7 rfl rfl ?q7
  case G7 =>
    refine' gv_sub (k := (n.fdiv 3).fmod 10) (ds := blocksI.map tup5) (by walk_at "mine:gv") ?ix b0 (by omega) (mapAt ?lt) (fun _ _ => rfl)
    case ix => exact gv_bin (a := .int (n.fdiv 3)) (by walk_at "mine:gv") gv_int (op_mod_ii (by decide))
    case lt => rw [blocks_len]; omega
  case nm7 => exact .cons (.cons (.cons (.cons (.cons .nil))))
  case own7 =>
    intro x hx
    simp only [List.mem_cons, List.not_mem_nil, or_false] at hx
    rcases hx with rfl | rfl | rfl | rfl | rfl <;> exact .inl rfl
  case q7 =>
  intro _ _ i
  refine' ex_assign (d := .int (greatRaw (n.fdiv 3))) i rfl ?G8 rfl ?o8 rfl ?q8
  case G8 =>
    exact gv_bin (gv_bin (gv_bin (gv_bin gv_int (by walk_at "mine:gv") (op_mul_ii (IntMulOk.of_left (by decide)))) (gv_bin gv_int (by walk_at "mine:gv") (op_mul_ii (IntMulOk.of_left (by decide)))) op_add_ii) (by walk_at "mine:gv") op_add_ii)
      (gv_bin (a := .int ((n.fdiv 3).fdiv 10)) (gv_bin (a := .int (n.fdiv 3)) (by walk_at "mine:gv") gv_int (op_fdiv_ii (by decide) (PyProof.noPylong_small (by decide)))) (gv_bin (gv_bin (by walk_at "mine:gv") (by walk_at "mine:gv") op_sub_ii) gv_int op_add_ii) (op_mod_ii (block_ok _))) op_add_ii
  case o8 => walk_at "mine:own"
  case q8 =>
  intro _ _ i
  refine' ex_if (c := greatRaw (n.fdiv 3) == 215 || (greatRaw (n.fdiv 3) == 930 || false)) i rfl ?G9 ?t9 ?f9
  case G9 => exact gt_or (by walk_at "mine:gt") fun _ => gt_or (by walk_at "mine:gt") fun _ => gt_or_nil
  case t9 =>
    intro hc9 _ _ i
    have e9 : greatI (n.fdiv 3) = _ := if_pos hc9
    rw [e9] at q
    refine' ex_aug_int i rfl rfl gv_int rfl ?o10 ?q10
    case o10 => walk_at "mine:own"
    case q10 =>
    intro _ _ i
    refine ex_nil (ex_then ?_)
    refine' ex_return i rfl ?G11 ?q11
    case G11 => exact gv_tuple (gvs_cons (by walk_at "mine:gv") (gvs_cons (by walk_at "mine:gv") gvs_nil rfl) rfl) (by decide)
    case q11 => intro v h' tk' y i'; exact q v h' tk' y i'.keep
  case f9 =>
    intro hc9 _ _ i
    have e9 : greatI (n.fdiv 3) = _ := if_neg (by rw [hc9]; decide)
    rw [e9] at q
    refine ex_nil (ex_then ?_)
    refine' ex_return i rfl ?G12 ?q12
    case G12 => exact gv_tuple (gvs_cons (by walk_at "mine:gv") (gvs_cons (by walk_at "mine:gv") gvs_nil rfl) rfl) (by decide)
    case q12 => intro v h' tk' y i'; exact q v h' tk' y i'.keep
end
end

section
open PySem PySem.W PyProof.Rows PySem.Calls
set_option maxRecDepth 100000
set_option linter.unusedVariables false
section
variable {w : World} {mg mb : Str → Option Value} {k : Addr}

def c128 (n : Int) : UInt64 := Float64.ofFrac (decide (n < 0) != decide ((128 : Int) < 0)) n.natAbs (128 : Int).natAbs
def sixthF (n : Int) : UInt64 := Float64.ofFrac (decide (n < 0) != decide ((6 : Int) < 0)) n.natAbs (6 : Int).natAbs

theorem outs3 {a b c : D} {x y z : Option D} {j : Nat} {dj : D} {od : Option D} (e1 : [a, b, c][j]? = some dj) (e2 : [x, y, z][j]? = some od) : (dj = a ∧ od = x) ∨ (dj = b ∧ od = y) ∨ (dj = c ∧ od = z) := by
  match j with
  | 0 => cases e1; cases e2; exact .inl ⟨rfl, rfl⟩
  | 1 => cases e1; cases e2; exact .inr (.inl ⟨rfl, rfl⟩)
  | 2 => cases e1; cases e2; exact .inr (.inr ⟨rfl, rfl⟩)
  | j + 3 => cases e1

set_option maxHeartbeats 1000000 in
theorem fd_by_hsv (p : Col) (T : Int) (h s v x y z : UInt64) (hT : T.natAbs < 2 ^ 1023) (hp : p.1.natAbs < 2 ^ 1023 ∧ p.2.1.natAbs < 2 ^ 1023 ∧ p.2.2.natAbs < 2 ^ 1023)
    (c1 : Fd w mg mb k 8 1 [.flt (c128 p.1), .flt (c128 p.2.1), .flt (c128 p.2.2)] (.tup [.flt h, .flt s, .flt v]))
    (c2 : Fd w mg mb k 9 1 [.flt (Float64.add h (sixthF T)), .flt s, .flt v] (.tup [.flt x, .flt y, .flt z])) : Fd w mg mb k 32 3 [colD p, .int T, .bool true] (.tup [.flt x, .flt y, .flt z]) := by
  refine fd_of (by show okFd _ 3 = true; decide +kernel) (fun pm cd doc vs hl => ?_) ⟨fun A E h' tk gs dd o Q N₀ h₀ L a cd G ao i q => ?_⟩
  · match vs, hl with
    | [a, b, c], _ => rfl
  have hh := ao.hh
  obtain ⟨hp1, hp2, hp3⟩ := hp
  refine' ex_unpack (d := .list [.flt (c128 p.1), .flt (c128 p.2.1), .flt (c128 p.2.2)]) (ds := [.flt (c128 p.1), .flt (c128 p.2.1), .flt (c128 p.2.2)]) (xs := ["r", "g", "b"]) i rfl hh ?G (.list _) ?nm rfl rfl ?own rfl rfl ?q
  case G =>
    refine' gv_comp (d := colD p) (ds := [.int p.1, .int p.2.1, .int p.2.2]) [some (.flt (c128 p.1)), some (.flt (c128 p.2.1)), some (.flt (c128 p.2.2))] rfl ?it0 (it_list _ hh) ?clos ?cell ?kind ?names ?x ?s rfl (by show 3 ≤ 1000; decide) ?bd
    walk_at "mine:comp"
    case it0 => walk_at "mine:gv"
    case bd =>
      intro j dj od C Ca e1 e2 ca
      refine ⟨?_, ?_⟩
      · rcases outs3 e1 e2 with ⟨rfl, rfl⟩ | ⟨rfl, rfl⟩ | ⟨rfl, rfl⟩ <;> exact gts_nil
      · intro d' e
        rcases outs3 e1 e2 with ⟨rfl, rfl⟩ | ⟨rfl, rfl⟩ | ⟨rfl, rfl⟩ <;> cases e <;> exact gv_bin (by walk_at "mine:gv") gv_int (op_div_ii hh (by assumption) (by decide))
  case nm => exact .cons (.cons (.cons .nil))
  case own =>
    intro x hx
    simp only [List.mem_cons, List.not_mem_nil, or_false] at hx
    rcases hx with rfl | rfl | rfl <;> exact .inl rfl
  case q =>
  intro _ _ i
  refine' ex_if (c := true) i rfl ?G1 ?t1 ?f1
  case G1 => exact gt_plain (by walk_at "mine:gv") tr_bool rfl
  case f1 => intro hc; cases hc
  case t1 =>
  intro _ _ _ i
  refine' ex_unpack (d := .tup [.flt h, .flt s, .flt v]) (ds := [.flt h, .flt s, .flt v]) (xs := ["h", "s", "v"]) i rfl hh ?G2 (.tup _) ?nm2 rfl rfl ?own2 rfl rfl ?q2
  case G2 => exact gv_callF (j := 8) (n := 1) G (Fm.gc G) ⟨rfl, rfl, rfl⟩ (by decide) rfl rfl rfl (by walk_at "mine:gvs") (ao.less (by decide)) c1
  case nm2 => exact .cons (.cons (.cons .nil))
  case own2 =>
    intro x hx
    simp only [List.mem_cons, List.not_mem_nil, or_false] at hx
    rcases hx with rfl | rfl | rfl <;> exact .inl rfl
  case q2 =>
  intro _ _ i
  refine' ex_return i rfl ?G3 ?q3
  case G3 => exact gv_callF (j := 9) (n := 1) G (Fm.gc G) ⟨rfl, rfl, rfl⟩ (by decide) rfl rfl rfl (gvs_cons (gv_bin (by walk_at "mine:gv") (gv_bin (a := .int T) (by walk_at "mine:gv") gv_int (op_div_ii hh hT (by decide))) op_add_ff) (by walk_at "mine:gvs") rfl) (ao.less (by decide)) c2
  case q3 => intro v h' tk' y i'; exact q v h' tk' y i'.keep

set_option maxHeartbeats 1000000 in
theorem fd_by_hls (p : Col) (T : Int) (h l s x y z : UInt64) (hT : T.natAbs < 2 ^ 1023) (hp : p.1.natAbs < 2 ^ 1023 ∧ p.2.1.natAbs < 2 ^ 1023 ∧ p.2.2.natAbs < 2 ^ 1023)
    (c1 : Fd w mg mb k 5 1 [.flt (c128 p.1), .flt (c128 p.2.1), .flt (c128 p.2.2)] (.tup [.flt h, .flt l, .flt s]))
    (c2 : Fd w mg mb k 6 2 [.flt (Float64.add h (sixthF T)), .flt l, .flt s] (.tup [.flt x, .flt y, .flt z])) : Fd w mg mb k 32 3 [colD p, .int T, .bool false] (.tup [.flt x, .flt y, .flt z]) := by
  refine fd_of (by show okFd _ 3 = true; decide +kernel) (fun pm cd doc vs hl => ?_) ⟨fun A E h' tk gs dd o Q N₀ h₀ L a cd G ao i q => ?_⟩
  · match vs, hl with
    | [a, b, c], _ => rfl
  have hh := ao.hh
  obtain ⟨hp1, hp2, hp3⟩ := hp
  refine' ex_unpack (d := .list [.flt (c128 p.1), .flt (c128 p.2.1), .flt (c128 p.2.2)]) (ds := [.flt (c128 p.1), .flt (c128 p.2.1), .flt (c128 p.2.2)]) (xs := ["r", "g", "b"]) i rfl hh ?G (.list _) ?nm rfl rfl ?own rfl rfl ?q
  case G =>
    refine' gv_comp (d := colD p) (ds := [.int p.1, .int p.2.1, .int p.2.2]) [some (.flt (c128 p.1)), some (.flt (c128 p.2.1)), some (.flt (c128 p.2.2))] rfl ?it0 (it_list _ hh) ?clos ?cell ?kind ?names ?x ?s rfl (by show 3 ≤ 1000; decide) ?bd
    walk_at "mine:comp"
    case it0 => walk_at "mine:gv"
    case bd =>
      intro j dj od C Ca e1 e2 ca
      refine ⟨?_, ?_⟩
      · rcases outs3 e1 e2 with ⟨rfl, rfl⟩ | ⟨rfl, rfl⟩ | ⟨rfl, rfl⟩ <;> exact gts_nil
      · intro d' e
        rcases outs3 e1 e2 with ⟨rfl, rfl⟩ | ⟨rfl, rfl⟩ | ⟨rfl, rfl⟩ <;> cases e <;> exact gv_bin (by walk_at "mine:gv") gv_int (op_div_ii hh (by assumption) (by decide))
  case nm => exact .cons (.cons (.cons .nil))
  case own =>
    intro x hx
    simp only [List.mem_cons, List.not_mem_nil, or_false] at hx
    rcases hx with rfl | rfl | rfl <;> exact .inl rfl
  case q =>
  intro _ _ i
  refine' ex_if (c := false) i rfl ?G1 ?t1 ?f1
  case G1 => exact gt_plain (by walk_at "mine:gv") tr_bool rfl
  case t1 => intro hc; cases hc
  case f1 =>
  intro _ _ _ i
  refine ex_nil (ex_then ?_)
  refine' ex_unpack (d := .tup [.flt h, .flt l, .flt s]) (ds := [.flt h, .flt l, .flt s]) (xs := ["h", "l", "s"]) i rfl hh ?G2 (.tup _) ?nm2 rfl rfl ?own2 rfl rfl ?q2
  case G2 => exact gv_callF (j := 5) (n := 1) G (Fm.gc G) ⟨rfl, rfl, rfl⟩ (by decide) rfl rfl rfl (by walk_at "mine:gvs") (ao.less (by decide)) c1
  case nm2 => exact .cons (.cons (.cons .nil))
  case own2 =>
    intro x hx
    simp only [List.mem_cons, List.not_mem_nil, or_false] at hx
    rcases hx with rfl | rfl | rfl <;> exact .inl rfl
  case q2 =>
  intro _ _ i
  refine' ex_return i rfl ?G3 ?q3
  case G3 => exact gv_callF (j := 6) (n := 2) G (Fm.gc G) ⟨rfl, rfl, rfl⟩ (by decide) rfl rfl rfl (gvs_cons (gv_bin (by walk_at "mine:gv") (gv_bin (a := .int T) (by walk_at "mine:gv") gv_int (op_div_ii hh hT (by decide))) op_add_ff) (by walk_at "mine:gvs") rfl) (ao.less (by decide)) c2
  case q3 => intro v h' tk' y i'; exact q v h' tk' y i'.keep

structure Rd (m : Int) (x : UInt64) (n : Int) : Prop where
  fin : Float64.isFinite (Float64.mul x (Float64.ofInt m)) = true
  nan : Float64.isNaN (Float64.mul x (Float64.ofInt m)) = false
  inf : Float64.isInf (Float64.mul x (Float64.ofInt m)) = false
  val : PySem.Flt.toInt Float64.nearestOf (Float64.mul x (Float64.ofInt m)) = n

theorem cb_rd {A : Around} {m : Int} {x : UInt64} {n : Int} (hh : A.handled = none) (r : Rd m x n) : CB w A (.builtin "round") [.flt (Float64.mul x (Float64.ofInt m))] (.int n) := by
  have := cb_round (w := w) (A := A) hh r.fin r.nan r.inf
  rwa [r.val] at this

theorem mod33 (n : Int) : (n * 8589934592).fmod (2 ^ (33 : Int).toNat) = 0 := by
  show (n * 8589934592).fmod 8589934592 = 0
  simp
theorem div33 (n : Int) : (n * 8589934592).fdiv (2 ^ (33 : Int).toNat) = n := by
  show (n * 8589934592).fdiv 8589934592 = n
  exact Int.mul_fdiv_cancel _ (by decide)

set_option maxHeartbeats 1000000 in
theorem fd_read (x y z : UInt64) (p : Col) (r1 : Rd (2 ^ (40 : Int).toNat) x (p.1 * 8589934592)) (r2 : Rd (2 ^ (40 : Int).toNat) y (p.2.1 * 8589934592)) (r3 : Rd (2 ^ (40 : Int).toNat) z (p.2.2 * 8589934592)) :
    Fd w mg mb k 33 1 [.tup [.flt x, .flt y, .flt z]] (colD p) := by
  refine fd_of (by show okFd _ 1 = true; decide +kernel) (fun pm cd doc vs hl => ?_) ⟨fun A E h' tk gs dd o Q N₀ h₀ L a cd G ao i q => ?_⟩
  · match vs, hl with
    | [a], _ => rfl
  have hh := ao.hh
  refine' ex_assign_comp (d := .tup [.flt x, .flt y, .flt z]) (ds := [.flt x, .flt y, .flt z]) [some (.int (p.1 * 8589934592)), some (.int (p.2.1 * 8589934592)), some (.int (p.2.2 * 8589934592))] i rfl ?it0 (it_tup _ hh) rfl ?o rfl ?clos ?cell ?kind ?names ?x ?s rfl (by show 3 ≤ 1000; decide) ?bd ?q
  walk_at "mine:comp"
  case it0 => walk_at "mine:gv"
  case o => walk_at "mine:own"
  case bd =>
    intro j dj od C Ca e1 e2 ca
    have gc : GC w mg mb k C := CompAt.gc ca G
    refine ⟨?_, ?_⟩
    · rcases outs3 e1 e2 with ⟨rfl, rfl⟩ | ⟨rfl, rfl⟩ | ⟨rfl, rfl⟩ <;> exact gts_nil
    · intro d' e
      rcases outs3 e1 e2 with ⟨rfl, rfl⟩ | ⟨rfl, rfl⟩ | ⟨rfl, rfl⟩ <;> cases e
      · exact gv_callB (gv_bltN nb_round gc ⟨rfl, rfl, rfl⟩ rfl rfl rfl) (gvs_cons (gv_bin (by walk_at "mine:gv") (gv_bin gv_int gv_int (op_pow_ii (by decide) (by decide))) (op_mul_fi (by decide +kernel))) gvs_nil rfl) (cb_rd hh r1)
      · exact gv_callB (gv_bltN nb_round gc ⟨rfl, rfl, rfl⟩ rfl rfl rfl) (gvs_cons (gv_bin (by walk_at "mine:gv") (gv_bin gv_int gv_int (op_pow_ii (by decide) (by decide))) (op_mul_fi (by decide +kernel))) gvs_nil rfl) (cb_rd hh r2)
      · exact gv_callB (gv_bltN nb_round gc ⟨rfl, rfl, rfl⟩ rfl rfl rfl) (gvs_cons (gv_bin (by walk_at "mine:gv") (gv_bin gv_int gv_int (op_pow_ii (by decide) (by decide))) (op_mul_fi (by decide +kernel))) gvs_nil rfl) (cb_rd hh r3)
  case q =>
  intro _ _ i
  refine' ex_return (d := colD p) i rfl ?G1 ?q1
  case G1 =>
    refine' gv_ifexp (c := true) ?tt (fun _ => ?bb) (fun h => by cases h)
    case tt =>
      refine' gt_cmp (a := .list [.int 0, .int 0, .int 0]) (b := .list [.int 0, .int 0, .int 0]) ?l (gv_list (by walk_at "mine:gvs") (by decide)) (cm_eq_d (.list (.cons (.int 0) (.cons (.int 0) (.cons (.int 0) .nil)))) (.list (.cons (.int 0) (.cons (.int 0) (.cons (.int 0) .nil)))) rfl rfl (by have := ao.un; omega)) rfl
      case l =>
        refine' gv_comp (d := .list [.int (p.1 * 8589934592), .int (p.2.1 * 8589934592), .int (p.2.2 * 8589934592)]) (ds := [.int (p.1 * 8589934592), .int (p.2.1 * 8589934592), .int (p.2.2 * 8589934592)]) [some (.int 0), some (.int 0), some (.int 0)] rfl ?it0 (it_list _ hh) ?clos ?cell ?kind ?names ?x ?s rfl (by show 3 ≤ 1000; decide) ?bd2
        walk_at "mine:comp"
        case it0 => walk_at "mine:gv"
        case bd2 =>
          intro j dj od C Ca e1 e2 ca
          refine ⟨?_, ?_⟩
          · rcases outs3 e1 e2 with ⟨rfl, rfl⟩ | ⟨rfl, rfl⟩ | ⟨rfl, rfl⟩ <;> exact gts_nil
          · intro d' e
            rcases outs3 e1 e2 with ⟨rfl, rfl⟩ | ⟨rfl, rfl⟩ | ⟨rfl, rfl⟩ <;> cases e
            · rw [show (D.int 0) = _ from congrArg D.int (mod33 p.1).symm]; exact gv_bin (gv_cvar ca rfl rfl rfl) (gv_bin gv_int gv_int (op_pow_ii (by decide) (by decide))) (op_mod_ii (by decide))
            · rw [show (D.int 0) = _ from congrArg D.int (mod33 p.2.1).symm]; exact gv_bin (gv_cvar ca rfl rfl rfl) (gv_bin gv_int gv_int (op_pow_ii (by decide) (by decide))) (op_mod_ii (by decide))
            · rw [show (D.int 0) = _ from congrArg D.int (mod33 p.2.2).symm]; exact gv_bin (gv_cvar ca rfl rfl rfl) (gv_bin gv_int gv_int (op_pow_ii (by decide) (by decide))) (op_mod_ii (by decide))
    case bb =>
      refine' gv_comp (d := .list [.int (p.1 * 8589934592), .int (p.2.1 * 8589934592), .int (p.2.2 * 8589934592)]) (ds := [.int (p.1 * 8589934592), .int (p.2.1 * 8589934592), .int (p.2.2 * 8589934592)]) [some (.int p.1), some (.int p.2.1), some (.int p.2.2)] rfl ?it0 (it_list _ hh) ?clos ?cell ?kind ?names ?x ?s rfl (by show 3 ≤ 1000; decide) ?bd3
      walk_at "mine:comp"
      case it0 => walk_at "mine:gv"
      case bd3 =>
        intro j dj od C Ca e1 e2 ca
        refine ⟨?_, ?_⟩
        · rcases outs3 e1 e2 with ⟨rfl, rfl⟩ | ⟨rfl, rfl⟩ | ⟨rfl, rfl⟩ <;> exact gts_nil
        · intro d' e
          rcases outs3 e1 e2 with ⟨rfl, rfl⟩ | ⟨rfl, rfl⟩ | ⟨rfl, rfl⟩ <;> cases e
          · rw [show (D.int p.1) = _ from congrArg D.int (div33 p.1).symm]; exact gv_bin (gv_cvar ca rfl rfl rfl) (gv_bin gv_int gv_int (op_pow_ii (by decide) (by decide))) (op_fdiv_ii (by decide) (PyProof.noPylong_of_log2 (by decide +kernel)))
          · rw [show (D.int p.2.1) = _ from congrArg D.int (div33 p.2.1).symm]; exact gv_bin (gv_cvar ca rfl rfl rfl) (gv_bin gv_int gv_int (op_pow_ii (by decide) (by decide))) (op_fdiv_ii (by decide) (PyProof.noPylong_of_log2 (by decide +kernel)))
          · rw [show (D.int p.2.2) = _ from congrArg D.int (div33 p.2.2).symm]; exact gv_bin (gv_cvar ca rfl rfl rfl) (gv_bin gv_int gv_int (op_pow_ii (by decide) (by decide))) (op_fdiv_ii (by decide) (PyProof.noPylong_of_log2 (by decide +kernel)))
  case q1 => intro v h' tk' y i'; exact q v h' tk' y i'.keep
end
end

section
open PySem PySem.W PyProof.Rows PySem.Calls
set_option maxRecDepth 100000
set_option linter.unusedVariables false
section
variable {w : World} {mg mb : Str → Option Value} {k : Addr}

theorem cm_eq_same {A : Around} {a : D} {pa : PyData} (ha : Py a pa) (sa : PySem.SeqAt.shaped pa = true) (hu : A.units + 64 < cLine) : Cm w A .Eq a a true := by
  have := cm_eq_d (w := w) (A := A) ha ha sa sa hu
  rwa [PySem.SeqAt.eqv_refl _ (PySem.SeqAt.canLay_of_shaped sa)] at this
theorem cm_ne_same {A : Around} {a : D} {pa : PyData} (ha : Py a pa) (sa : PySem.SeqAt.shaped pa = true) (hu : A.units + 64 < cLine) : Cm w A .NotEq a a false := by
  have := cm_ne_d (w := w) (A := A) ha ha sa sa hu
  rwa [PySem.SeqAt.eqv_refl _ (PySem.SeqAt.canLay_of_shaped sa)] at this

def whole1 (p : Col) : Int := 3000 * p.1 + 5900 * p.2.1 + 1100 * p.2.2
def whole2 (p : Col) : Int := 5990 * p.1 - 2773 * p.2.1 - 3217 * p.2.2
def whole3 (p : Col) : Int := 2130 * p.1 - 5251 * p.2.1 + 3121 * p.2.2

theorem py_col (p : Col) : Py (colD p) (.list [.int p.1, .int p.2.1, .int p.2.2]) := .list (.cons (.int _) (.cons (.int _) (.cons (.int _) .nil)))

set_option maxHeartbeats 1000000 in
theorem fd_lyiq (p : Col) (hp : p.1.natAbs < 2 ^ 1023 ∧ p.2.1.natAbs < 2 ^ 1023 ∧ p.2.2.natAbs < 2 ^ 1023)
    (r1 : Rd 1280000 (yF (c128 p.1) (c128 p.2.1) (c128 p.2.2)) (whole1 p)) (r2 : Rd 1280000 (iF (c128 p.1) (c128 p.2.1) (c128 p.2.2)) (whole2 p)) (r3 : Rd 1280000 (qF (c128 p.1) (c128 p.2.1) (c128 p.2.2)) (whole3 p)) :
    Fd w mg mb k 34 2 [colD p] (.bool true) := by
  refine fd_of (by show okFd _ 1 = true; decide +kernel) (fun pm cd doc vs hl => ?_) ⟨fun A E h' tk gs dd o Q N₀ h₀ L a cd G ao i q => ?_⟩
  · match vs, hl with
    | [a], _ => rfl
  have hh := ao.hh
  obtain ⟨hp1, hp2, hp3⟩ := hp
  refine' ex_unpack (d := .list [.flt (c128 p.1), .flt (c128 p.2.1), .flt (c128 p.2.2)]) (ds := [.flt (c128 p.1), .flt (c128 p.2.1), .flt (c128 p.2.2)]) (xs := ["r", "g", "b"]) i rfl hh ?G (.list _) ?nm rfl rfl ?own rfl rfl ?q
  case G =>
    refine' gv_comp (d := colD p) (ds := [.int p.1, .int p.2.1, .int p.2.2]) [some (.flt (c128 p.1)), some (.flt (c128 p.2.1)), some (.flt (c128 p.2.2))] rfl ?it0 (it_list _ hh) ?clos ?cell ?kind ?names ?x ?s rfl (by show 3 ≤ 1000; decide) ?bd
    walk_at "mine:comp"
    case it0 => walk_at "mine:gv"
    case bd =>
      intro j dj od C Ca e1 e2 ca
      refine ⟨?_, ?_⟩
      · rcases outs3 e1 e2 with ⟨rfl, rfl⟩ | ⟨rfl, rfl⟩ | ⟨rfl, rfl⟩ <;> exact gts_nil
      · intro d' e
        rcases outs3 e1 e2 with ⟨rfl, rfl⟩ | ⟨rfl, rfl⟩ | ⟨rfl, rfl⟩ <;> cases e <;> exact gv_bin (by walk_at "mine:gv") gv_int (op_div_ii hh (by assumption) (by decide))
  case nm => exact .cons (.cons (.cons .nil))
  case own =>
    intro x hx
    simp only [List.mem_cons, List.not_mem_nil, or_false] at hx
    rcases hx with rfl | rfl | rfl <;> exact .inl rfl
  case q =>
  intro _ _ i
  refine' ex_unpack (d := colD p) (ds := [.int p.1, .int p.2.1, .int p.2.2]) (xs := ["red", "green", "blue"]) i rfl hh ?G1 (.list _) ?nm1 rfl rfl ?own1 rfl rfl ?q1
  case G1 => walk_at "mine:gv"
  case nm1 => exact .cons (.cons (.cons .nil))
  case own1 =>
    intro x hx
    simp only [List.mem_cons, List.not_mem_nil, or_false] at hx
    rcases hx with rfl | rfl | rfl <;> exact .inl rfl
  case q1 =>
  intro _ _ i
  refine' ex_assign (d := .list [.int (whole1 p), .int (whole2 p), .int (whole3 p)]) i rfl ?G2 rfl ?o2 rfl ?q2
  case G2 =>
    have m : ∀ {a b : Int}, IntMulOk a b → Op w A .Mult (.int a) (.int b) (.int (a * b)) := op_mul_ii
    exact gv_list (gvs_cons (gv_bin (gv_bin (gv_bin gv_int (by walk_at "mine:gv") (op_mul_ii (IntMulOk.of_left (by decide)))) (gv_bin gv_int (by walk_at "mine:gv") (op_mul_ii (IntMulOk.of_left (by decide)))) op_add_ii) (gv_bin gv_int (by walk_at "mine:gv") (op_mul_ii (IntMulOk.of_left (by decide)))) op_add_ii)
      (gvs_cons (gv_bin (gv_bin (gv_bin gv_int (by walk_at "mine:gv") (op_mul_ii (IntMulOk.of_left (by decide)))) (gv_bin gv_int (by walk_at "mine:gv") (op_mul_ii (IntMulOk.of_left (by decide)))) op_sub_ii) (gv_bin gv_int (by walk_at "mine:gv") (op_mul_ii (IntMulOk.of_left (by decide)))) op_sub_ii)
      (gvs_cons (gv_bin (gv_bin (gv_bin gv_int (by walk_at "mine:gv") (op_mul_ii (IntMulOk.of_left (by decide)))) (gv_bin gv_int (by walk_at "mine:gv") (op_mul_ii (IntMulOk.of_left (by decide)))) op_sub_ii) (gv_bin gv_int (by walk_at "mine:gv") (op_mul_ii (IntMulOk.of_left (by decide)))) op_add_ii) gvs_nil rfl) rfl) rfl) (by decide)
  case o2 => walk_at "mine:own"
  case q2 =>
  intro _ _ i
  refine' ex_return (d := .bool true) i rfl ?G3 ?q3
  case G3 =>
    refine' gv_cmp (a := .list [.int (whole1 p), .int (whole2 p), .int (whole3 p)]) ?l (by walk_at "mine:gv") (cm_eq_same (py_col (whole1 p, whole2 p, whole3 p)) rfl (by have := ao.un; omega)) rfl
    case l =>
      refine' gv_comp (d := .tup [.flt (yF (c128 p.1) (c128 p.2.1) (c128 p.2.2)), .flt (iF (c128 p.1) (c128 p.2.1) (c128 p.2.2)), .flt (qF (c128 p.1) (c128 p.2.1) (c128 p.2.2))]) (ds := [.flt (yF (c128 p.1) (c128 p.2.1) (c128 p.2.2)), .flt (iF (c128 p.1) (c128 p.2.1) (c128 p.2.2)), .flt (qF (c128 p.1) (c128 p.2.1) (c128 p.2.2))])
        [some (.int (whole1 p)), some (.int (whole2 p)), some (.int (whole3 p))] rfl ?it0 (it_tup _ hh) ?clos ?cell ?kind ?names ?x ?s rfl (by show 3 ≤ 1000; decide) ?bd2
      walk_at "mine:comp"
      case it0 => exact gv_callF (j := 4) (n := 1) G (Fm.gc G) ⟨rfl, rfl, rfl⟩ (by decide) rfl rfl rfl (by walk_at "mine:gvs") (ao.less (by decide)) (fd_yiq _ _ _)
      case bd2 =>
        intro j dj od C Ca e1 e2 ca
        have gc : GC w mg mb k C := CompAt.gc ca G
        refine ⟨?_, ?_⟩
        · rcases outs3 e1 e2 with ⟨rfl, rfl⟩ | ⟨rfl, rfl⟩ | ⟨rfl, rfl⟩ <;> exact gts_nil
        · intro d' e
          rcases outs3 e1 e2 with ⟨rfl, rfl⟩ | ⟨rfl, rfl⟩ | ⟨rfl, rfl⟩ <;> cases e
          · exact gv_callB (gv_bltN nb_round gc ⟨rfl, rfl, rfl⟩ rfl rfl rfl) (gvs_cons (gv_bin (gv_cvar ca rfl rfl rfl) gv_int (op_mul_fi (by decide +kernel))) gvs_nil rfl) (cb_rd hh r1)
          · exact gv_callB (gv_bltN nb_round gc ⟨rfl, rfl, rfl⟩ rfl rfl rfl) (gvs_cons (gv_bin (gv_cvar ca rfl rfl rfl) gv_int (op_mul_fi (by decide +kernel))) gvs_nil rfl) (cb_rd hh r2)
          · exact gv_callB (gv_bltN nb_round gc ⟨rfl, rfl, rfl⟩ rfl rfl rfl) (gvs_cons (gv_bin (gv_cvar ca rfl rfl rfl) gv_int (op_mul_fi (by decide +kernel))) gvs_nil rfl) (cb_rd hh r3)
  case q3 => intro v h' tk' y i'; exact q v h' tk' y i'.keep

def partsC (c : Int) : Col := (c.fdiv 16384, (c.fdiv 128).fmod 128, c.fmod 128)
theorem fd_partsC (c : Int) : Fd w mg mb k 28 1 [.int c] (colD (partsC c)) := fd_parts c
def maskI (c bits : Int) : Col := ((c.fdiv 16384 + bits).fmod 128, (c.fdiv 128).fmod 128, c.fmod 128)
theorem fd_mask (c bits : Int) : Fd w mg mb k 35 2 [.int c, .int bits] (colD (maskI c bits)) := by
  refine fd_of (by show okFd _ 2 = true; decide +kernel) (fun pm cd doc vs hl => ?_) ⟨fun A E h' tk gs dd o Q N₀ h₀ L a cd G ao i q => ?_⟩
  · match vs, hl with
    | [a, b], _ => rfl
  have hh := ao.hh
  refine' ex_unpack (d := colD (partsC c)) (ds := [.int (c.fdiv 16384), .int ((c.fdiv 128).fmod 128), .int (c.fmod 128)]) (xs := ["red", "green", "blue"]) i rfl hh ?G1 (.list _) ?nm1 rfl rfl ?own1 rfl rfl ?q1
  case G1 => exact gv_callF (j := 28) (n := 1) G (Fm.gc G) ⟨rfl, rfl, rfl⟩ (by decide) rfl rfl rfl (by walk_at "mine:gvs") (ao.less (by decide)) (fd_partsC _)
  case nm1 => exact .cons (.cons (.cons .nil))
  case own1 =>
    intro x hx
    simp only [List.mem_cons, List.not_mem_nil, or_false] at hx
    rcases hx with rfl | rfl | rfl <;> exact .inl rfl
  case q1 =>
  intro _ _ i
  refine' ex_return (d := colD (maskI c bits)) i rfl ?G ?q
  case G => exact gv_list (gvs_cons (gv_bin (gv_bin (by walk_at "mine:gv") (by walk_at "mine:gv") op_add_ii) gv_int (op_mod_ii (by decide))) (gvs_cons (by walk_at "mine:gv") (gvs_cons (by walk_at "mine:gv") gvs_nil rfl) rfl) rfl) (by decide)
  case q => intro v h' tk' y i'; exact q v h' tk' y i'.keep
end
end

section
open PySem PySem.W PyProof.Rows PySem.Calls
set_option maxRecDepth 100000
set_option linter.unusedVariables false
section
variable {w : World} {mg mb : Str → Option Value} {k : Addr}

def bitList (held : List Bool) : List Int := (List.range 7).filterMap fun i => if held.getD i false then some ((2 : Int) ^ i) else none
def bitsOf (held : List Bool) : Int := (bitList held).sum
def codeN (n : Int) : Int := (drawnI n).1
def stepN (n : Int) : Int := (drawnI n).2
def heldN (n : Int) : List Bool := heldI (partsC (codeN n)).1 (partsC (codeN n)).2.1 (partsC (codeN n)).2.2 boxesI
def maskAfter (n : Int) : Col := maskI (codeN n + stepN n) (bitsOf (heldN n))
def maskAt (ns : List Int) : Nat → Col
  | 0 => (0, 0, 0)
  | j + 1 => maskAfter (ns.getD j 0)
def maskedI (p m : Col) : Col := ((p.1 + m.1).fmod 128, (p.2.1 + m.2.1).fmod 128, (p.2.2 + m.2.2).fmod 128)
def maskedN (n : Int) (m : Col) : Col := maskedI (partsC (codeN n)) m
def turnsN (n : Int) : Int := (n.fdiv 3 + n.fdiv 30).fmod 6
def byN (n : Int) : Bool := (n.fdiv 18).fmod 2 == 0
def thereN (n : Int) (m : Col) : Col := turnI (maskedN n m) (turnsN n).toNat
def toldD (n : Int) : D := .list [.int (codeN n), .list ((heldN n).map .bool), .int (codeN n + stepN n)]
def picD (n : Int) (m : Col) : D := .tup [colD (thereN n m), .int (6 - turnsN n), .bool (!byN n), .bool (decide (0 < stepN n))]
def picsD (ns : List Int) (j : Nat) : List D := (List.range j).map fun i => picD (ns.getD i 0) (maskAt ns i)
def InR (p : Col) : Prop := (0 ≤ p.1 ∧ p.1 < 128) ∧ (0 ≤ p.2.1 ∧ p.2.1 < 128) ∧ (0 ≤ p.2.2 ∧ p.2.2 < 128)

theorem turns_lt (n : Int) : 0 ≤ turnsN n ∧ turnsN n < 6 := fmod_lt (by decide)
theorem maskedI_in (p m : Col) : InR (maskedI p m) := ⟨fmod_lt (by decide), fmod_lt (by decide), fmod_lt (by decide)⟩
theorem picsD_succ (ns : List Int) (j : Nat) : picsD ns (j + 1) = picsD ns j ++ [picD (ns.getD j 0) (maskAt ns j)] := by
  unfold picsD; rw [List.range_succ, List.map_append]; rfl
theorem take_map_succ {ns : List Int} {j : Nat} (h : j < ns.length) : (ns.map toldD).take (j + 1) = (ns.map toldD).take j ++ [toldD (ns.getD j 0)] := by
  rw [List.take_add_one, List.getElem?_map, List.getElem?_eq_getElem h, List.getD_eq_getElem?_getD, List.getElem?_eq_getElem h]; rfl

theorem bits_fit : ∀ b0 b1 b2 b3 b4 b5 b6 : Bool, ((List.range (bitList [b0, b1, b2, b3, b4, b5, b6]).length).all fun j => decide (-(2 ^ 63) ≤ (bitList [b0, b1, b2, b3, b4, b5, b6]).getD j 0 ∧ (bitList [b0, b1, b2, b3, b4, b5, b6]).getD j 0 < 2 ^ 63) &&
    decide (-(2 ^ 63) ≤ ((bitList [b0, b1, b2, b3, b4, b5, b6]).take (j + 1)).sum ∧ ((bitList [b0, b1, b2, b3, b4, b5, b6]).take (j + 1)).sum < 2 ^ 63)) = true := by decide +kernel
theorem bits_long (held : List Bool) (h7 : held.length = 7) (j : Nat) (hj : j < (bitList held).length) : InLong ((bitList held).getD j 0) ∧ InLong (((bitList held).take (j + 1)).sum) := by
  match held, h7 with
  | [b0, b1, b2, b3, b4, b5, b6], _ =>
    have := List.all_eq_true.mp (bits_fit b0 b1 b2 b3 b4 b5 b6) j (List.mem_range.mpr hj)
    rw [Bool.and_eq_true, decide_eq_true_eq, decide_eq_true_eq] at this
    exact this

theorem outs_ints (f : Nat → Option Int) (l : List Nat) : (l.map fun i => (f i).map D.int).filterMap id = (l.filterMap f).map D.int := by
  induction l with
  | nil => rfl
  | cons a l ih =>
    rw [List.map_cons, List.filterMap_cons, List.filterMap_cons]
    cases h : f a with
    | none => simpa using ih
    | some b => simp only [Option.map_some, id, List.map_cons]; rw [ih]

theorem op_two_pow {A : Around} {i : Nat} (h : i < 7) : Op w A .Pow (.int 2) (.int (i : Nat)) (.int ((2 : Int) ^ i)) := by
  have h2 : Builtin.Int.intBits 2 = 2 := by decide +kernel
  have := op_pow_ii (w := w) (A := A) (a := 2) (n := (i : Nat)) (by omega) (by rw [h2]; omega)
  rwa [Int.toNat_natCast] at this

set_option maxHeartbeats 4000000 in
theorem fd_sent (ns : List Int) (hn : ns.length ≤ 10) (hY : ∀ p, InR p → Fd w mg mb k 34 2 [colD p] (.bool true))
    (hB : ∀ p (T : Nat) b, InR p → T ≤ 6 → ∃ d, Fd w mg mb k 32 3 [colD p, .int (T : Nat), .bool b] d ∧ Fd w mg mb k 33 1 [d] (colD (turnI p T)))
    (hbox : ∀ x ∈ boxesI, 0 ≤ x.1 ∧ x.1 < 7) : Fd w mg mb k 36 5 [.list (ns.map .int), .list (boxesI.map tup5)] (.tup [.list (ns.map toldD), .list (picsD ns ns.length)]) := by
  refine fd_of (by show okFd _ 2 = true; decide +kernel) (fun pm cd doc vs hl => ?_) ⟨fun A E h' tk gs dd o Q N₀ h₀ L a cd G ao i q => ?_⟩
  · match vs, hl with
    | [a, b], _ => rfl
  have hh := ao.hh
  refine' ex_unpack_new3 (x1 := "told") (x2 := "picture") (x3 := "mask") (ds1 := []) (ds2 := []) (d3 := colD (0, 0, 0)) i rfl hh (gn_list gvs_nil (by decide)) .nil (fun _ => gn_list gvs_nil (by decide)) .nil ?G3 rfl ?o1 ?o2 ?o3 rfl rfl (.cons (.cons (.cons .nil))) rfl ?q
  case G3 => exact fun _ _ => gv_list (gvs_cons gv_int (gvs_cons gv_int (gvs_cons gv_int gvs_nil rfl) rfl) rfl) (by decide)
  case o1 => walk_at "mine:own"
  case o2 => walk_at "mine:own"
  case o3 => walk_at "mine:own"
  case q =>
  intro t pc _ _ hno hno2 i
  have hne : t ≠ pc := fun e => hno2 (by rw [e]; exact List.mem_cons_self)
  have hno3 : pc ∉ (fm0 h₀ N₀ 36 [.list (ns.map .int), .list (boxesI.map tup5)] L a cd).oo := fun hm => hno2 (List.mem_cons_of_mem _ hm)
  refine' ex_for (d := .list (ns.map .int)) (ds := ns.map .int) (fun j => mm [("boxes", .list (boxesI.map tup5)), ("told", .val (.ref t)), ("picture", .val (.ref pc)), ("mask", colD (maskAt ns j))]) (fun j => [(pc, picsD ns j), (t, (ns.map toldD).take j)]) ["n"]
    (fun j => [.int (ns.getD j 0)]) i rfl hh ?G (it_list _ hh) ?s rfl ?tg ?own ?h0 ?u0 ?step ?q
  case G => walk_at "mine:gv"
  case s => exact fun _ => rfl
  case tg =>
    intro j dj e
    obtain ⟨x, ex, rfl⟩ := getMap e
    have : ns.getD j 0 = x := by rw [List.getD_eq_getElem?_getD, ex]; rfl
    rw [this]
    exact .name
  case own =>
    intro x hx
    simp only [List.mem_cons, List.not_mem_nil, or_false] at hx
    subst hx; exact .inl rfl
  case h0 => exact HasAll.sub ⟨rfl, rfl, rfl, rfl, trivial⟩
  case u0 => rfl
  case step =>
    intro j ex X xs' E' h' tk' Q' hj i' q'
    have hj' : j < ns.length := by simpa using hj
    have q'' : ∀ h'' tk'', ((((fm0 h₀ N₀ 36 [.list (ns.map .int), .list (boxesI.map tup5)] L a cd).mut t []).mut pc []).set "told" (.val (.ref t)) |>.set "picture" (.val (.ref pc)) |>.set "mask" (colD (0, 0, 0)) |>.loop ex X xs' (mm [("boxes", .list (boxesI.map tup5)), ("told", .val (.ref t)), ("picture", .val (.ref pc)), ("mask", colD (maskAfter (ns.getD j 0)))]) [(pc, picsD ns j ++ [picD (ns.getD j 0) (maskAt ns j)]), (t, (ns.map toldD).take j ++ [toldD (ns.getD j 0)])]).I h'' → Q' .next ⟨h'', gs, dd, tk'', o⟩ := by
      rw [← picsD_succ, ← take_map_succ hj']
      exact q'
    clear q'
    generalize ns.getD j 0 = n at i' q''
    generalize maskAt ns j = m at i' q''
    have lp : (picsD ns j).length ≤ 1000 := by unfold picsD; rw [List.length_map, List.length_range]; omega
    have lt' : ((ns.map toldD).take j).length ≤ 1000 := by rw [List.length_take]; omega
    generalize picsD ns j = P at i' q'' lp
    generalize (ns.map toldD).take j = T at i' q'' lt'
    refine' ex_unpack (d := .tup [.int (codeN n), .int (stepN n)]) (ds := [.int (codeN n), .int (stepN n)]) (xs := ["code", "step"]) i' rfl hh ?G1 (.tup _) (.cons (.cons .nil)) rfl rfl ?own1 rfl rfl ?q1
    case G1 => exact gv_callF (j := 30) (n := 2) G (Fm.gc G) ⟨rfl, rfl, rfl⟩ (by decide) rfl rfl rfl (by walk_at "mine:gvs") (ao.less (by decide)) (fd_drawn n)
    case own1 =>
      intro x hx
      simp only [List.mem_cons, List.not_mem_nil, or_false] at hx
      rcases hx with rfl | rfl <;> exact .inl rfl
    case q1 =>
    intro _ _ i
    refine' ex_assign (d := colD (partsC (codeN n))) i rfl ?G2 rfl ?o2 rfl ?q2
    case G2 => exact gv_callF (j := 28) (n := 1) G (Fm.gc G) ⟨rfl, rfl, rfl⟩ (by decide) rfl rfl rfl (by walk_at "mine:gvs") (ao.less (by decide)) (fd_partsC _)
    case o2 => walk_at "mine:own"
    case q2 =>
    intro _ _ i
    refine' ex_assign (d := .list ((heldN n).map .bool)) i rfl ?G3 rfl ?o3 rfl ?q3
    case G3 => exact gv_callF (j := 29) (n := 1) G (Fm.gc G) ⟨rfl, rfl, rfl⟩ (by decide) rfl rfl rfl (gvs_cons (by walk_at "mine:gv") (gvs_cons (by walk_at "mine:gv") gvs_nil rfl) rfl) (ao.less (by decide)) (fd_held _ _ _ boxesI hbox)
    case o3 => walk_at "mine:own"
    case q3 =>
    intro _ _ i
    have h7 : (heldN n).length = 7 := heldI_len _ _ _ _
    refine' ex_assign (d := .int (bitsOf (heldN n))) i rfl ?G4 rfl ?o4 rfl ?q4
    case G4 =>
      refine' gv_callB (ds := [.list ((bitList (heldN n)).map .int)]) (gv_bltN nb_sum (Fm.gc G) ⟨rfl, rfl, rfl⟩ rfl rfl rfl) (gvs_cons ?lc gvs_nil rfl) (cb_sum hh (bits_long _ h7))
      case lc =>
        rw [show (bitList (heldN n)).map D.int = _ from (outs_ints _ _).symm]
        refine' gv_comp (d := .rng 7) (ds := (List.range 7).map fun i => .int (i : Nat)) ((List.range 7).map fun i => (if (heldN n).getD i false then some ((2 : Int) ^ i) else none).map D.int) rfl ?it0 (it_rng 7 (by decide) hh) ?clos ?cell ?kind ?names ?x ?s (by simp) (by simp) ?bd
        walk_at "mine:comp"
        case it0 => walk_at "mine:gv"
        case bd =>
          intro j dj od C Ca e1 e2 ca
          obtain ⟨i, hi, rfl, rfl⟩ := outs_map e1 e2
          have hi7 : i < 7 := List.mem_range.mp (List.mem_of_getElem? hi)
          have ha : ((heldN n).map D.bool)[((i : Nat) : Int).toNat]? = some (.bool ((heldN n).getD i false)) := by
            rw [Int.toNat_natCast, List.getElem?_map, List.getD_eq_getElem?_getD, List.getElem?_eq_getElem (by omega)]; rfl
          refine ⟨?_, fun d' e => ?_⟩
          · have : ((if (heldN n).getD i false then some ((2 : Int) ^ i) else none).map D.int).isSome = (heldN n).getD i false := by cases (heldN n).getD i false <;> rfl
            rw [this]
            refine gts_one (gt_plain (gv_sub (k := (i : Nat)) (ds := (heldN n).map .bool) ?hv (gv_cvar ca rfl rfl rfl) (by omega) (by omega) ha (fun _ _ => rfl)) tr_bool rfl)
            exact gv_ccell ca rfl rfl rfl rfl rfl rfl rfl
          · have ed : d' = .int ((2 : Int) ^ i) := by
              cases hb : (heldN n).getD i false with
              | true => rw [hb] at e; cases e; rfl
              | false => rw [hb] at e; cases e
            subst ed
            exact gv_bin gv_int (gv_cvar ca rfl rfl rfl) (op_two_pow hi7)
    case o4 => walk_at "mine:own"
    case q4 =>
    intro _ _ i
    refine' ex_assign_comp (d := .rng 3) (ds := (List.range 3).map fun i => .int (i : Nat)) [some (.int (maskedN n m).1), some (.int (maskedN n m).2.1), some (.int (maskedN n m).2.2)] i rfl ?it0 (it_rng 3 (by decide) hh) rfl ?o5 rfl ?clos ?cell ?kind ?names ?x ?s rfl (by show 3 ≤ 1000; decide) ?bd5 ?q5
    walk_at "mine:comp"
    case it0 => walk_at "mine:gv"
    case o5 => walk_at "mine:own"
    case bd5 =>
      intro j dj od C Ca e1 e2 ca
      have e1' : [D.int (0 : Nat), D.int (1 : Nat), D.int (2 : Nat)][j]? = some dj := e1
      refine ⟨?_, ?_⟩
      · rcases outs3 e1' e2 with ⟨rfl, rfl⟩ | ⟨rfl, rfl⟩ | ⟨rfl, rfl⟩ <;> exact gts_nil
      · intro d' e
        rcases outs3 e1' e2 with ⟨rfl, rfl⟩ | ⟨rfl, rfl⟩ | ⟨rfl, rfl⟩ <;> cases e
        · exact gv_bin (gv_bin (gv_sub (k := 0) (ds := [.int (partsC (codeN n)).1, .int (partsC (codeN n)).2.1, .int (partsC (codeN n)).2.2]) (gv_ccell ca rfl rfl rfl rfl rfl rfl rfl) (gv_cvar ca rfl rfl rfl) (by decide) (by decide) rfl (fun _ _ => rfl)) (gv_sub (k := 0) (ds := [.int m.1, .int m.2.1, .int m.2.2]) (gv_ccell ca rfl rfl rfl rfl rfl rfl rfl) (gv_cvar ca rfl rfl rfl) (by decide) (by decide) rfl (fun _ _ => rfl)) op_add_ii) gv_int (op_mod_ii (by decide))
        · exact gv_bin (gv_bin (gv_sub (k := 1) (ds := [.int (partsC (codeN n)).1, .int (partsC (codeN n)).2.1, .int (partsC (codeN n)).2.2]) (gv_ccell ca rfl rfl rfl rfl rfl rfl rfl) (gv_cvar ca rfl rfl rfl) (by decide) (by decide) rfl (fun _ _ => rfl)) (gv_sub (k := 1) (ds := [.int m.1, .int m.2.1, .int m.2.2]) (gv_ccell ca rfl rfl rfl rfl rfl rfl rfl) (gv_cvar ca rfl rfl rfl) (by decide) (by decide) rfl (fun _ _ => rfl)) op_add_ii) gv_int (op_mod_ii (by decide))
        · exact gv_bin (gv_bin (gv_sub (k := 2) (ds := [.int (partsC (codeN n)).1, .int (partsC (codeN n)).2.1, .int (partsC (codeN n)).2.2]) (gv_ccell ca rfl rfl rfl rfl rfl rfl rfl) (gv_cvar ca rfl rfl rfl) (by decide) (by decide) rfl (fun _ _ => rfl)) (gv_sub (k := 2) (ds := [.int m.1, .int m.2.1, .int m.2.2]) (gv_ccell ca rfl rfl rfl rfl rfl rfl rfl) (gv_cvar ca rfl rfl rfl) (by decide) (by decide) rfl (fun _ _ => rfl)) op_add_ii) gv_int (op_mod_ii (by decide))
    case q5 =>
    intro _ _ i
    refine' ex_unpack_swapped (ds := [.int (turnsN n), .bool (byN n)]) (xs := ["turns", "by_hsv"]) i rfl hh ?G6 rfl rfl ?own6 rfl rfl ?q6
    case G6 =>
      exact gv_tuple (gvs_cons (gv_bin (gv_bin (gv_bin (a := .int n) (by walk_at "mine:gv") gv_int (op_fdiv_ii (by decide) (PyProof.noPylong_small (by decide)))) (gv_bin (a := .int n) (by walk_at "mine:gv") gv_int (op_fdiv_ii (by decide) (PyProof.noPylong_small (by decide)))) op_add_ii) gv_int (op_mod_ii (by decide)))
        (gvs_cons (gv_cmp (gv_bin (gv_bin (a := .int n) (by walk_at "mine:gv") gv_int (op_fdiv_ii (by decide) (PyProof.noPylong_small (by decide)))) gv_int (op_mod_ii (by decide))) gv_int cm_eq_ii rfl) gvs_nil rfl) rfl) (by decide)
    case own6 =>
      intro x hx
      simp only [List.mem_cons, List.not_mem_nil, or_false] at hx
      rcases hx with rfl | rfl <;> exact .inl rfl
    case q6 =>
    intro _ _ i
    obtain ⟨t0, t1⟩ := turns_lt n
    have et : (((turnsN n).toNat : Nat) : Int) = turnsN n := Int.toNat_of_nonneg t0
    have hin : InR (maskedN n m) := maskedI_in _ _
    have fdt : Fd w mg mb k 31 1 [colD (maskedN n m), .int (turnsN n)] (colD (thereN n m)) := by
      have := fd_turned (w := w) (mg := mg) (mb := mb) (k := k) (maskedN n m) (turnsN n).toNat (by omega)
      rwa [et] at this
    obtain ⟨dB, f1, f2⟩ := hB (maskedN n m) (turnsN n).toNat (byN n) hin (by omega)
    rw [et] at f1
    refine' ex_assign (d := colD (thereN n m)) i rfl ?G7 rfl ?o7 rfl ?q7
    case G7 => exact gv_callF (j := 31) (n := 1) G (Fm.gc G) ⟨rfl, rfl, rfl⟩ (by decide) rfl rfl rfl (gvs_cons (by walk_at "mine:gv") (gvs_cons (by walk_at "mine:gv") gvs_nil rfl) rfl) (ao.less (by decide)) fdt
    case o7 => walk_at "mine:own"
    case q7 =>
    intro _ _ i
    refine' ex_if (c := !true || (false || false)) i rfl ?G8 ?t8 ?f8
    case G8 =>
      refine gt_or (gt_not (gt_plain (gv_callF (j := 34) (n := 2) G (Fm.gc G) ⟨rfl, rfl, rfl⟩ (by decide) rfl rfl rfl (gvs_cons (by walk_at "mine:gv") gvs_nil rfl) (ao.less (by decide)) (hY _ hin)) tr_bool rfl)) fun _ => gt_or (gt_cmp (a := colD (thereN n m)) ?l (by walk_at "mine:gv") (cm_ne_same (py_col _) rfl (by have := ao.un; omega)) rfl) fun _ => gt_or_nil
      exact gv_callF (j := 33) (n := 1) G (Fm.gc G) ⟨rfl, rfl, rfl⟩ (by decide) rfl rfl rfl (gvs_cons (gv_callF (j := 32) (n := 3) G (Fm.gc G) ⟨rfl, rfl, rfl⟩ (by decide) rfl rfl rfl (gvs_cons (by walk_at "mine:gv") (gvs_cons (by walk_at "mine:gv") (gvs_cons (by walk_at "mine:gv") gvs_nil rfl) rfl) rfl) (ao.less (by decide)) f1) gvs_nil rfl) (ao.less (by decide)) f2
    case t8 => intro hc; cases hc
    case f8 =>
    intro _ _ _ i
    refine ex_nil (ex_then ?_)
    refine' ex_append (a := t) (ds := T) (d := toldD n) i rfl rfl (List.mem_cons_of_mem _ List.mem_cons_self) ?G9 rfl ?o9 rfl lt' rfl rfl rfl rfl rfl ?q9
    case G9 => exact gv_list (gvs_cons (by walk_at "mine:gv") (gvs_cons (by walk_at "mine:gv") (gvs_cons (gv_bin (by walk_at "mine:gv") (by walk_at "mine:gv") op_add_ii) gvs_nil rfl) rfl) rfl) (by decide)
    case o9 => walk_at "mine:own"
    case q9 =>
    intro _ _ i
    refine' ex_append (a := pc) (ds := P) (d := picD n m) i rfl rfl ?mem10 ?G10 rfl ?o10 rfl lp rfl rfl rfl rfl rfl ?q10
    case mem10 =>
      show (pc, P) ∈ updMu [(pc, P), (t, T)] t _
      rw [updMu_snd hne]
      exact List.mem_cons_self
    case G10 => exact gv_tuple (gvs_cons (by walk_at "mine:gv") (gvs_cons (gv_bin gv_int (by walk_at "mine:gv") op_sub_ii) (gvs_cons (gv_not (by walk_at "mine:gv") tr_bool) (gvs_cons (gv_cmp (by walk_at "mine:gv") gv_int cm_gt_ii rfl) gvs_nil rfl) rfl) rfl) rfl) (by decide)
    case o10 => walk_at "mine:own"
    case q10 =>
    intro _ _ i
    refine' ex_assign (d := colD (maskAfter n)) i rfl ?G11 rfl ?o11 rfl ?q11
    case G11 => exact gv_callF (j := 35) (n := 2) G (Fm.gc G) ⟨rfl, rfl, rfl⟩ (by decide) rfl rfl rfl (gvs_cons (gv_bin (by walk_at "mine:gv") (by walk_at "mine:gv") op_add_ii) (gvs_cons (by walk_at "mine:gv") gvs_nil rfl) rfl) (ao.less (by decide)) (fd_mask _ _)
    case o11 => walk_at "mine:own"
    case q11 =>
    intro _ _ i
    refine ex_nil (q'' _ _ (Fm.I.back _ i rfl ?_ ⟨rfl, rfl, rfl, rfl, trivial⟩))
    show updMu (updMu [(pc, P), (t, T)] t _) pc _ = _
    rw [updMu_snd hne, updMu_fst hne]
  case q =>
  intro _ _ i
  rw [List.length_map] at i
  have hm : ∀ {m : Str → Option D} {a : Addr} {ds : List D} {l : List (Str × D)} {x : Str} {d : D}, (∀ p ∈ l, m p.1 = some p.2 ∨ (m p.1 = some (.val (.ref a)) ∧ p.2 = .list ds)) → mm l x = some d → m x = some d ∨ (m x = some (.val (.ref a)) ∧ d = .list ds) := fun h e => h _ (lookup_mem' e)
  have i₂ := i.froz (mm [("told", .val (.ref t)), ("picture", .list (picsD ns ns.length))]) (a := pc) (ds := picsD ns ns.length) (mu := [(t, (ns.map toldD).take ns.length)]) (oo := t :: (fm0 h₀ N₀ 36 [.list (ns.map .int), .list (boxesI.map tup5)] L a cd).oo) rfl rfl hno2 ?h1
  case h1 =>
    refine fun x d e => hm (fun p hp => ?_) e
    simp only [List.mem_cons, List.not_mem_nil, or_false] at hp
    rcases hp with rfl | rfl
    · exact .inl rfl
    · exact .inr ⟨rfl, rfl⟩
  have i₃ := i₂.froz (mm [("told", .list (ns.map toldD)), ("picture", .list (picsD ns ns.length))]) (a := t) (ds := ns.map toldD) (mu := []) (oo := (fm0 h₀ N₀ 36 [.list (ns.map .int), .list (boxesI.map tup5)] L a cd).oo) ?h2 rfl hno ?h3
  case h2 =>
    show [(t, (ns.map toldD).take ns.length)] = _
    rw [List.take_of_length_le (by simp)]
  case h3 =>
    refine fun x d e => hm (fun p hp => ?_) e
    simp only [List.mem_cons, List.not_mem_nil, or_false] at hp
    rcases hp with rfl | rfl
    · exact .inr ⟨rfl, rfl⟩
    · exact .inl rfl
  refine' ex_return i₃ rfl ?G12 ?q12
  case G12 => exact gv_tuple (gvs_cons (by walk_at "mine:gv") (gvs_cons (by walk_at "mine:gv") gvs_nil rfl) rfl) (by decide)
  case q12 => intro v h' tk' y i'; exact q v h' tk' y i'.keep
end
end

section
open PySem PySem.W PyProof.Rows PySem.Calls
set_option maxRecDepth 100000
set_option linter.unusedVariables false
section
variable {w : World} {mg mb : Str → Option Value} {k : Addr}

def tablesB (c : Nat) : List Bool := [b1s.contains (c : Int), chr1 c == " ", c4B (c : Int), c6s.contains (c : Int), c7s.contains (c : Int), c8s.contains (c : Int), c9s.contains (c : Int)]

structure Gd (n : Int) (c a : Nat) : Prop where
  code : codeN n = c
  ans : codeN n + stepN n = a
  c1 : c ≤ 1114111
  a1 : a ≤ 1114111
  tab : heldN n = tablesB c
  nog : ¬ 0 < stepN n → stepN n = 0
  b3 : 0 < stepN n → keys0.contains (c : Int) = false ∧ keys0.contains (a : Int) = false ∧ Txt.lower (chr1 c) = chr1 a ∧ Txt.lower (chr1 a) = chr1 a

theorem unmask {p m : Int} (h0 : 0 ≤ p) (h1 : p < 128) : ((p + m).fmod 128 - m).fmod 128 = p := by
  rw [Int.fmod_eq_emod_of_nonneg _ (by decide), Int.fmod_eq_emod_of_nonneg _ (by decide)]
  omega
theorem code_parts (c : Nat) : 16384 * (partsC (c : Int)).1 + 128 * (partsC (c : Int)).2.1 + (partsC (c : Int)).2.2 = c := by
  show 16384 * (c : Int).fdiv 16384 + 128 * ((c : Int).fdiv 128).fmod 128 + (c : Int).fmod 128 = c
  rw [Int.fmod_eq_emod_of_nonneg _ (by decide), Int.fmod_eq_emod_of_nonneg _ (by decide), Int.fdiv_eq_ediv_of_nonneg _ (by decide), Int.fdiv_eq_ediv_of_nonneg _ (by decide)]
  omega
theorem parts_in {c : Nat} (h : c ≤ 1114111) : InR (partsC (c : Int)) := by
  show (0 ≤ (c : Int).fdiv 16384 ∧ (c : Int).fdiv 16384 < 128) ∧ (0 ≤ ((c : Int).fdiv 128).fmod 128 ∧ ((c : Int).fdiv 128).fmod 128 < 128) ∧ (0 ≤ (c : Int).fmod 128 ∧ (c : Int).fmod 128 < 128)
  rw [Int.fmod_eq_emod_of_nonneg _ (by decide), Int.fmod_eq_emod_of_nonneg _ (by decide), Int.fdiv_eq_ediv_of_nonneg _ (by decide), Int.fdiv_eq_ediv_of_nonneg _ (by decide)]
  omega

theorem outs7 {a0 b0 c0 d0 e0 f0 g0 : D} {a1 b1 c1 d1 e1 f1 g1 : Option D} {j : Nat} {dj : D} {od : Option D} (h1 : [a0, b0, c0, d0, e0, f0, g0][j]? = some dj) (h2 : [a1, b1, c1, d1, e1, f1, g1][j]? = some od) : (dj = a0 ∧ od = a1) ∨ (dj = b0 ∧ od = b1) ∨ (dj = c0 ∧ od = c1) ∨ (dj = d0 ∧ od = d1) ∨ (dj = e0 ∧ od = e1) ∨ (dj = f0 ∧ od = f1) ∨ (dj = g0 ∧ od = g1) := by
  match j with
  | 0 => cases h1; cases h2; exact (.inl ⟨rfl, rfl⟩)
  | 1 => cases h1; cases h2; exact (.inr (.inl ⟨rfl, rfl⟩))
  | 2 => cases h1; cases h2; exact (.inr (.inr (.inl ⟨rfl, rfl⟩)))
  | 3 => cases h1; cases h2; exact (.inr (.inr (.inr (.inl ⟨rfl, rfl⟩))))
  | 4 => cases h1; cases h2; exact (.inr (.inr (.inr (.inr (.inl ⟨rfl, rfl⟩)))))
  | 5 => cases h1; cases h2; exact (.inr (.inr (.inr (.inr (.inr (.inl ⟨rfl, rfl⟩))))))
  | 6 => cases h1; cases h2; exact (.inr (.inr (.inr (.inr (.inr (.inr ⟨rfl, rfl⟩))))))
  | j + 7 => cases h1

set_option maxHeartbeats 4000000 in
theorem fd_taken (ns : List Int) (hn : ns.length ≤ 10) (hg : ∀ n ∈ ns, ∃ c a, Gd n c a)
    (hT : ∀ p (T : Nat), InR p → T ≤ 6 → InR (turnI p T) ∧ turnI (turnI p T) (6 - T) = p)
    (hB : ∀ p (T : Nat) b, InR p → T ≤ 6 → ∃ d, Fd w mg mb k 32 3 [colD p, .int (T : Nat), .bool b] d ∧ Fd w mg mb k 33 1 [d] (colD (turnI p T))) :
    Fd w mg mb k 37 5 [.list (picsD ns ns.length)] (.list (ns.map toldD)) := by
  refine fd_of (by show okFd _ 1 = true; decide +kernel) (fun pm cd doc vs hl => ?_) ⟨fun A E h' tk gs dd o Q N₀ h₀ L a cd G ao i q => ?_⟩
  · match vs, hl with
    | [a], _ => rfl
  have hh := ao.hh
  obtain ⟨f12, _, _, _, _, e12, _⟩ := G.fn _ (dfn_mem (i := 12) (by decide))
  obtain ⟨f15, _, _, _, _, e15, _⟩ := G.fn _ (dfn_mem (i := 15) (by decide))
  obtain ⟨f16, _, _, _, _, e16, _⟩ := G.fn _ (dfn_mem (i := 16) (by decide))
  obtain ⟨f18, _, _, _, _, e18, _⟩ := G.fn _ (dfn_mem (i := 18) (by decide))
  obtain ⟨f20, _, _, _, _, e20, _⟩ := G.fn _ (dfn_mem (i := 20) (by decide))
  obtain ⟨f22, _, _, _, _, e22, _⟩ := G.fn _ (dfn_mem (i := 22) (by decide))
  obtain ⟨f24, _, _, _, _, e24, _⟩ := G.fn _ (dfn_mem (i := 24) (by decide))
  refine' ex_assign (d := .list [.val (.ref f12), .val (.ref f15), .val (.ref f16), .val (.ref f18), .val (.ref f20), .val (.ref f22), .val (.ref f24)]) i rfl ?G0 rfl ?o0 rfl ?q0
  case G0 => exact gv_list (gvs_cons (gv_glob (Fm.gc G) ⟨rfl, rfl, rfl⟩ e12 (fun _ _ => .val _) rfl rfl) (gvs_cons (gv_glob (Fm.gc G) ⟨rfl, rfl, rfl⟩ e15 (fun _ _ => .val _) rfl rfl) (gvs_cons (gv_glob (Fm.gc G) ⟨rfl, rfl, rfl⟩ e16 (fun _ _ => .val _) rfl rfl) (gvs_cons (gv_glob (Fm.gc G) ⟨rfl, rfl, rfl⟩ e18 (fun _ _ => .val _) rfl rfl) (gvs_cons (gv_glob (Fm.gc G) ⟨rfl, rfl, rfl⟩ e20 (fun _ _ => .val _) rfl rfl) (gvs_cons (gv_glob (Fm.gc G) ⟨rfl, rfl, rfl⟩ e22 (fun _ _ => .val _) rfl rfl) (gvs_cons (gv_glob (Fm.gc G) ⟨rfl, rfl, rfl⟩ e24 (fun _ _ => .val _) rfl rfl) gvs_nil rfl) rfl) rfl) rfl) rfl) rfl) rfl) (by decide)
  case o0 => walk_at "mine:own"
  case q0 =>
  intro _ _ i
  refine' ex_unpack_new2 (x1 := "came") (x2 := "mask") (ds1 := []) (d2 := colD (0, 0, 0)) i rfl hh (gn_list gvs_nil (by decide)) .nil ?G3 rfl ?o1 ?o2 rfl rfl (.cons (.cons .nil)) rfl ?q
  case G3 => exact fun _ => gv_list (gvs_cons gv_int (gvs_cons gv_int (gvs_cons gv_int gvs_nil rfl) rfl) rfl) (by decide)
  case o1 => walk_at "mine:own"
  case o2 => walk_at "mine:own"
  case q =>
  intro t _ _ hno i
  have lpics : (picsD ns ns.length).length = ns.length := by unfold picsD; rw [List.length_map, List.length_range]
  refine' ex_for (d := .list (picsD ns ns.length)) (ds := picsD ns ns.length) (fun j => mm [("tables", .list [.val (.ref f12), .val (.ref f15), .val (.ref f16), .val (.ref f18), .val (.ref f20), .val (.ref f22), .val (.ref f24)]), ("came", .val (.ref t)), ("mask", colD (maskAt ns j))]) (fun j => [(t, (ns.map toldD).take j)]) ["there", "turns", "by_hsv", "great"]
    (fun j => [colD (thereN (ns.getD j 0) (maskAt ns j)), .int (6 - turnsN (ns.getD j 0)), .bool (!byN (ns.getD j 0)), .bool (decide (0 < stepN (ns.getD j 0)))]) i rfl hh ?G (it_list _ hh) ?s rfl ?tg ?own ?h0 ?u0 ?step ?q
  case G => walk_at "mine:gv"
  case s => exact fun _ => rfl
  case tg =>
    intro j dj e
    unfold picsD at e
    rw [List.getElem?_map] at e
    cases hz : (List.range ns.length)[j]? with
    | none => rw [hz] at e; cases e
    | some x =>
      rw [hz] at e
      cases e
      have : x = j := by
        rw [List.getElem?_eq_some_iff] at hz
        obtain ⟨_, e⟩ := hz
        simpa using e.symm
      subst this
      exact .tup (.cons (.cons (.cons (.cons .nil)))) (.tup _) rfl
  case own =>
    intro x hx
    simp only [List.mem_cons, List.not_mem_nil, or_false] at hx
    rcases hx with rfl | rfl | rfl | rfl <;> exact .inl rfl
  case h0 => exact HasAll.sub ⟨rfl, rfl, rfl, trivial⟩
  case u0 => rfl
  case step =>
    intro j ex X xs' E' h' tk' Q' hj i' q'
    have hj' : j < ns.length := by rw [lpics] at hj; exact hj
    have hmem : ns.getD j 0 ∈ ns := by rw [List.getD_eq_getElem?_getD, List.getElem?_eq_getElem hj']; exact List.getElem_mem _
    have hgd := hg _ hmem
    have q'' : ∀ h'' tk'', (((((fm0 h₀ N₀ 37 [.list (picsD ns ns.length)] L a cd).set "tables" (.list [.val (.ref f12), .val (.ref f15), .val (.ref f16), .val (.ref f18), .val (.ref f20), .val (.ref f22), .val (.ref f24)])).mut t []).set "came" (.val (.ref t)) |>.set "mask" (colD (0, 0, 0))).loop ex X xs' (mm [("tables", .list [.val (.ref f12), .val (.ref f15), .val (.ref f16), .val (.ref f18), .val (.ref f20), .val (.ref f22), .val (.ref f24)]), ("came", .val (.ref t)), ("mask", colD (maskAfter (ns.getD j 0)))]) [(t, (ns.map toldD).take j ++ [toldD (ns.getD j 0)])]).I h'' → Q' .next ⟨h'', gs, dd, tk'', o⟩ := by
      rw [← take_map_succ hj']
      exact q'
    clear q'
    generalize ns.getD j 0 = n at i' q'' hgd
    generalize maskAt ns j = m at i' q''
    have lt' : ((ns.map toldD).take j).length ≤ 1000 := by rw [List.length_take]; omega
    generalize (ns.map toldD).take j = T at i' q'' lt'
    obtain ⟨c, a', gd⟩ := hgd
    obtain ⟨t0, t1⟩ := turns_lt n
    have et : (((6 - turnsN n).toNat : Nat) : Int) = 6 - turnsN n := Int.toNat_of_nonneg (by omega)
    have hin : InR (maskedN n m) := maskedI_in _ _
    obtain ⟨hin2, hback⟩ := hT (maskedN n m) (turnsN n).toNat hin (by omega)
    obtain ⟨dB, f1, f2⟩ := hB (thereN n m) (6 - turnsN n).toNat (!byN n) hin2 (by omega)
    rw [et] at f1
    have e6 : (6 - turnsN n).toNat = 6 - (turnsN n).toNat := by omega
    have eb : turnI (thereN n m) (6 - turnsN n).toNat = maskedN n m := by rw [e6]; exact hback
    rw [eb] at f2
    refine' ex_assign (d := colD (maskedN n m)) i' rfl ?G7 rfl ?o7 rfl ?q7
    case G7 => exact gv_callF (j := 33) (n := 1) G (Fm.gc G) ⟨rfl, rfl, rfl⟩ (by decide) rfl rfl rfl (gvs_cons (gv_callF (j := 32) (n := 3) G (Fm.gc G) ⟨rfl, rfl, rfl⟩ (by decide) rfl rfl rfl (gvs_cons (by walk_at "mine:gv") (gvs_cons (by walk_at "mine:gv") (gvs_cons (by walk_at "mine:gv") gvs_nil rfl) rfl) rfl) (ao.less (by decide)) f1) gvs_nil rfl) (ao.less (by decide)) f2
    case o7 => walk_at "mine:own"
    case q7 =>
    intro _ _ i
    refine' ex_if (c := false) i rfl ?G8 ?t8 ?f8
    case G8 => exact gt_cmp (a := colD (maskedN n m)) (by walk_at "mine:gv") gv_none (cm_is_none (nn_list _)) rfl
    case t8 => intro hc; cases hc
    case f8 =>
    intro _ _ _ i
    refine ex_nil (ex_then ?_)
    obtain ⟨⟨r0, r1⟩, ⟨g0, g1⟩, ⟨b0, b1⟩⟩ := parts_in gd.c1
    have em : maskedN n m = maskedI (partsC (c : Int)) m := by unfold maskedN; rw [gd.code]
    refine' ex_unpack (d := .list [.int (partsC (c : Int)).1, .int (partsC (c : Int)).2.1, .int (partsC (c : Int)).2.2]) (ds := [.int (partsC (c : Int)).1, .int (partsC (c : Int)).2.1, .int (partsC (c : Int)).2.2]) (xs := ["red", "green", "blue"]) i rfl hh ?G9 (.list _) (.cons (.cons (.cons .nil))) rfl rfl ?own9 rfl rfl ?q9
    case G9 =>
      refine' gv_comp (d := .rng 3) (ds := (List.range 3).map fun i => .int (i : Nat)) [some (.int (partsC (c : Int)).1), some (.int (partsC (c : Int)).2.1), some (.int (partsC (c : Int)).2.2)] rfl ?it0 (it_rng 3 (by decide) hh) ?clos ?cell ?kind ?names ?x ?s rfl (by show 3 ≤ 1000; decide) ?bd5
      walk_at "mine:comp"
      case it0 => walk_at "mine:gv"
      case bd5 =>
        intro j dj od C Ca e1 e2 ca
        have e1' : [D.int (0 : Nat), D.int (1 : Nat), D.int (2 : Nat)][j]? = some dj := e1
        refine ⟨?_, ?_⟩
        · rcases outs3 e1' e2 with ⟨rfl, rfl⟩ | ⟨rfl, rfl⟩ | ⟨rfl, rfl⟩ <;> exact gts_nil
        · intro d' e
          rcases outs3 e1' e2 with ⟨rfl, rfl⟩ | ⟨rfl, rfl⟩ | ⟨rfl, rfl⟩ <;> cases e
          · rw [show D.int (partsC (c : Int)).1 = _ from congrArg D.int (unmask (m := m.1) r0 r1).symm]
            exact gv_bin (gv_bin (gv_sub (k := 0) (ds := [.int (maskedI (partsC (c : Int)) m).1, .int (maskedI (partsC (c : Int)) m).2.1, .int (maskedI (partsC (c : Int)) m).2.2]) (em ▸ gv_ccell ca rfl rfl rfl rfl rfl rfl rfl) (gv_cvar ca rfl rfl rfl) (by decide) (by decide) rfl (fun _ _ => rfl)) (gv_sub (k := 0) (ds := [.int m.1, .int m.2.1, .int m.2.2]) (gv_ccell ca rfl rfl rfl rfl rfl rfl rfl) (gv_cvar ca rfl rfl rfl) (by decide) (by decide) rfl (fun _ _ => rfl)) op_sub_ii) gv_int (op_mod_ii (by decide))
          · rw [show D.int (partsC (c : Int)).2.1 = _ from congrArg D.int (unmask (m := m.2.1) g0 g1).symm]
            exact gv_bin (gv_bin (gv_sub (k := 1) (ds := [.int (maskedI (partsC (c : Int)) m).1, .int (maskedI (partsC (c : Int)) m).2.1, .int (maskedI (partsC (c : Int)) m).2.2]) (em ▸ gv_ccell ca rfl rfl rfl rfl rfl rfl rfl) (gv_cvar ca rfl rfl rfl) (by decide) (by decide) rfl (fun _ _ => rfl)) (gv_sub (k := 1) (ds := [.int m.1, .int m.2.1, .int m.2.2]) (gv_ccell ca rfl rfl rfl rfl rfl rfl rfl) (gv_cvar ca rfl rfl rfl) (by decide) (by decide) rfl (fun _ _ => rfl)) op_sub_ii) gv_int (op_mod_ii (by decide))
          · rw [show D.int (partsC (c : Int)).2.2 = _ from congrArg D.int (unmask (m := m.2.2) b0 b1).symm]
            exact gv_bin (gv_bin (gv_sub (k := 2) (ds := [.int (maskedI (partsC (c : Int)) m).1, .int (maskedI (partsC (c : Int)) m).2.1, .int (maskedI (partsC (c : Int)) m).2.2]) (em ▸ gv_ccell ca rfl rfl rfl rfl rfl rfl rfl) (gv_cvar ca rfl rfl rfl) (by decide) (by decide) rfl (fun _ _ => rfl)) (gv_sub (k := 2) (ds := [.int m.1, .int m.2.1, .int m.2.2]) (gv_ccell ca rfl rfl rfl rfl rfl rfl rfl) (gv_cvar ca rfl rfl rfl) (by decide) (by decide) rfl (fun _ _ => rfl)) op_sub_ii) gv_int (op_mod_ii (by decide))
    case own9 =>
      intro x hx
      simp only [List.mem_cons, List.not_mem_nil, or_false] at hx
      rcases hx with rfl | rfl | rfl <;> exact .inl rfl
    case q9 =>
    intro _ _ i
    refine' ex_assign (d := .int (c : Int)) i rfl ?G10 rfl ?o10 rfl ?q10
    case G10 =>
      rw [show D.int (c : Int) = _ from congrArg D.int (code_parts c).symm]
      exact gv_bin (gv_bin (gv_bin gv_int (by walk_at "mine:gv") (op_mul_ii (IntMulOk.of_left (by decide)))) (gv_bin gv_int (by walk_at "mine:gv") (op_mul_ii (IntMulOk.of_left (by decide)))) op_add_ii) (by walk_at "mine:gv") op_add_ii
    case o10 => walk_at "mine:own"
    case q10 =>
    intro _ _ i
    refine' ex_if (c := false) i rfl ?G11 ?t11 ?f11
    case G11 =>
      have cc : Cm w A .Gt (.int (c : Int)) (.int 1114111) false := by
        have := cm_gt_ii (w := w) (A := A) (a := (c : Int)) (b := 1114111)
        rwa [decide_eq_false (by have := gd.c1; omega)] at this
      exact gt_cmp (by walk_at "mine:gv") gv_int cc rfl
    case t11 => intro hc; cases hc
    case f11 =>
    intro _ _ _ i
    refine ex_nil (ex_then ?_)
    refine' ex_assign (d := .str (chr1 c)) i rfl ?G12 rfl ?o12 rfl ?q12
    case G12 =>
      have cc : CB w A (.builtin "chr") [.int (c : Int)] (.str (chr1 c)) := cb_chr (by omega) (by have := gd.c1; omega)
      exact gv_callB (gv_bltN nb_chr (Fm.gc G) ⟨rfl, rfl, rfl⟩ rfl rfl rfl) (gvs_cons (by walk_at "mine:gv") gvs_nil rfl) cc
    case o12 => walk_at "mine:own"
    case q12 =>
    intro _ _ i
    refine' ex_assign (d := .list ((tablesB c).map .bool)) i rfl ?G13 rfl ?o13 rfl ?q13
    case o13 => walk_at "mine:own"
    case G13 =>
      refine' gv_comp (d := .list [.val (.ref f12), .val (.ref f15), .val (.ref f16), .val (.ref f18), .val (.ref f20), .val (.ref f22), .val (.ref f24)]) (ds := [.val (.ref f12), .val (.ref f15), .val (.ref f16), .val (.ref f18), .val (.ref f20), .val (.ref f22), .val (.ref f24)]) [some (.bool (b1s.contains (c : Int))), some (.bool (chr1 c == " ")), some (.bool (c4B (c : Int))), some (.bool (c6s.contains (c : Int))), some (.bool (c7s.contains (c : Int))), some (.bool (c8s.contains (c : Int))), some (.bool (c9s.contains (c : Int)))] rfl ?it0 (it_list _ hh) ?clos ?cell ?kind ?names ?x ?s rfl (by show 7 ≤ 1000; decide) ?bd13
      walk_at "mine:comp"
      case it0 => walk_at "mine:gv"
      case bd13 =>
        intro j dj od C Ca e1 e2 ca
        have gc : GC w mg mb k C := CompAt.gc ca G
        refine ⟨?_, ?_⟩
        · rcases outs7 e1 e2 with ⟨rfl, rfl⟩ | ⟨rfl, rfl⟩ | ⟨rfl, rfl⟩ | ⟨rfl, rfl⟩ | ⟨rfl, rfl⟩ | ⟨rfl, rfl⟩ | ⟨rfl, rfl⟩ <;> exact gts_nil
        · intro d' e
          rcases outs7 e1 e2 with ⟨rfl, rfl⟩ | ⟨rfl, rfl⟩ | ⟨rfl, rfl⟩ | ⟨rfl, rfl⟩ | ⟨rfl, rfl⟩ | ⟨rfl, rfl⟩ | ⟨rfl, rfl⟩ <;> cases e
          · exact gv_callV (j := 12) (n := 1) gc (by decide) e12 (gv_cvar ca rfl rfl rfl) (gvs_cons (gv_ccell ca rfl rfl rfl rfl rfl rfl rfl) gvs_nil rfl) (ao.less (by decide)) (fd_b1s c)
          · exact gv_callV (j := 15) (n := 1) gc (by decide) e15 (gv_cvar ca rfl rfl rfl) (gvs_cons (gv_ccell ca rfl rfl rfl rfl rfl rfl rfl) gvs_nil rfl) (ao.less (by decide)) (fd_c11 c)
          · exact gv_callV (j := 16) (n := 1) gc (by decide) e16 (gv_cvar ca rfl rfl rfl) (gvs_cons (gv_ccell ca rfl rfl rfl rfl rfl rfl rfl) gvs_nil rfl) (ao.less (by decide)) (fd_c4 c)
          · exact gv_callV (j := 18) (n := 1) gc (by decide) e18 (gv_cvar ca rfl rfl rfl) (gvs_cons (gv_ccell ca rfl rfl rfl rfl rfl rfl rfl) gvs_nil rfl) (ao.less (by decide)) (fd_c6s c)
          · exact gv_callV (j := 20) (n := 1) gc (by decide) e20 (gv_cvar ca rfl rfl rfl) (gvs_cons (gv_ccell ca rfl rfl rfl rfl rfl rfl rfl) gvs_nil rfl) (ao.less (by decide)) (fd_c7s c)
          · exact gv_callV (j := 22) (n := 1) gc (by decide) e22 (gv_cvar ca rfl rfl rfl) (gvs_cons (gv_ccell ca rfl rfl rfl rfl rfl rfl rfl) gvs_nil rfl) (ao.less (by decide)) (fd_c8s c)
          · exact gv_callV (j := 24) (n := 1) gc (by decide) e24 (gv_cvar ca rfl rfl rfl) (gvs_cons (gv_ccell ca rfl rfl rfl rfl rfl rfl rfl) gvs_nil rfl) (ao.less (by decide)) (fd_c9s c)
    case q13 =>
    intro _ _ i
    rw [← gd.tab] at i
    refine' ex_if (c := false) i rfl ?G14 ?t14 ?f14
    case G14 =>
      refine' gt_plain (d := .list []) ?lc (tr_list (by decide)) rfl
      case lc =>
        rw [show ([] : List D) = ((heldN n).map fun _ => (none : Option D)).filterMap id by induction (heldN n) with | nil => rfl | cons b l ih => simp]
        refine' gv_comp (d := .list ((heldN n).map .bool)) (ds := (heldN n).map .bool) _ rfl ?it0 (it_list _ hh) ?clos ?cell ?kind ?names ?x ?s (by simp) (by rw [List.length_map, gd.tab]; show 7 ≤ 1000; decide) ?bd14
        walk_at "mine:comp"
        case it0 => walk_at "mine:gv"
        case bd14 =>
          intro j dj od C Ca e1 e2 ca
          obtain ⟨b, _, rfl, rfl⟩ := outs_map e1 e2
          refine ⟨gts_one ?_, fun d' e => by cases e⟩
          have e : (none : Option D).isSome = ((b != true) && ((b != false) && true)) := by cases b <;> rfl
          rw [e]
          exact gt_and (gt_cmp (gv_cvar ca rfl rfl rfl) gv_bool cm_isnot_bb rfl) fun _ => gt_and (gt_cmp (gv_cvar ca rfl rfl rfl) gv_bool cm_isnot_bb rfl) fun _ => gt_and_nil
    case t14 => intro hc; cases hc
    case f14 =>
    intro _ _ _ i
    refine ex_nil (ex_then ?_)
    refine' ex_assign (d := .str (chr1 a')) i rfl ?G15 rfl ?o15 rfl ?q15
    case G15 =>
      refine' gv_ifexp (c := decide (0 < stepN n)) ?tt (fun hc => ?bb) (fun hc => ?ee)
      case tt => exact gt_plain (by walk_at "mine:gv") tr_bool rfl
      case bb =>
        obtain ⟨k1, _, l1, _⟩ := gd.b3 (of_decide_eq_true hc)
        have := fd_b3 (w := w) (mg := mg) (mb := mb) (k := k) c k1
        rw [l1] at this
        exact gv_callF (j := 14) (n := 1) G (Fm.gc G) ⟨rfl, rfl, rfl⟩ (by decide) rfl rfl rfl (gvs_cons (by walk_at "mine:gv") gvs_nil rfl) (ao.less (by decide)) this
      case ee =>
        have h1 := gd.nog (of_decide_eq_false hc)
        have h2 := gd.ans
        have h3 := gd.code
        have : c = a' := by omega
        subst this
        walk_at "mine:gv"
    case o15 => walk_at "mine:own"
    case q15 =>
    intro _ _ i
    refine' ex_if (c := false) i rfl ?G16 ?t16 ?f16
    case G16 =>
      have cl : CB w A (.builtin "len") [.str (chr1 a')] (.int 1) := cb_len_str (x := chr1 a') (by show 1 ≤ 1000; decide)
      have c1 : Cm w A .NotEq (.int 1) (.int 1) false := cm_ne_ii
      refine' gt_or (c := false) (c' := false) ?ta fun _ => ?tb
      case ta => exact gt_cmp (gv_callB (gv_bltN nb_len (Fm.gc G) ⟨rfl, rfl, rfl⟩ rfl rfl rfl) (gvs_cons (by walk_at "mine:gv") gvs_nil rfl) cl) gv_int c1 rfl
      case tb =>
        refine' gt_or (c := false) (c' := false) ?tc fun _ => gt_or_nil
        case tc =>
          have e : false = (decide (0 < stepN n) && (false && true)) := by simp
          rw [e]
          refine' gt_and (gt_plain (by walk_at "mine:gv") tr_bool rfl) fun hc => gt_and ?td fun h => by cases h
          case td =>
            obtain ⟨_, k2, _, l2⟩ := gd.b3 (of_decide_eq_true hc)
            have f3 := fd_b3 (w := w) (mg := mg) (mb := mb) (k := k) a' k2
            rw [l2] at f3
            have c2 : Cm w A .NotEq (.str (chr1 a')) (.str (chr1 a')) false := by
              have := cm_ne_ss (w := w) (A := A) (a := chr1 a') (b := chr1 a')
              rwa [show (chr1 a' != chr1 a') = false by simp] at this
            exact gt_cmp (gv_callF (j := 14) (n := 1) G (Fm.gc G) ⟨rfl, rfl, rfl⟩ (by decide) rfl rfl rfl (gvs_cons (by walk_at "mine:gv") gvs_nil rfl) (ao.less (by decide)) f3) (by walk_at "mine:gv") c2 rfl
    case t16 => intro hc; cases hc
    case f16 =>
    intro _ _ _ i
    refine ex_nil (ex_then ?_)
    have co : CB w A (.builtin "ord") [.str (chr1 a')] (.int (a' : Int)) := cb_ord
    refine' ex_append (a := t) (ds := T) (d := toldD n) i rfl rfl List.mem_cons_self ?G17 rfl ?o17 rfl lt' rfl rfl rfl rfl rfl ?q17
    case G17 =>
      have e : toldD n = .list [.int (c : Int), .list ((heldN n).map .bool), .int (a' : Int)] := by unfold toldD; rw [gd.ans, gd.code]
      rw [e]
      exact gv_list (gvs_cons (by walk_at "mine:gv") (gvs_cons (by walk_at "mine:gv") (gvs_cons (gv_callB (gv_bltN nb_ord (Fm.gc G) ⟨rfl, rfl, rfl⟩ rfl rfl rfl) (gvs_cons (by walk_at "mine:gv") gvs_nil rfl) co) gvs_nil rfl) rfl) rfl) (by decide)
    case o17 => walk_at "mine:own"
    case q17 =>
    intro _ _ i
    have h7 : (heldN n).length = 7 := heldI_len _ _ _ _
    refine' ex_assign (d := colD (maskAfter n)) i rfl ?G18 rfl ?o18 rfl ?q18
    case G18 =>
      have fm := fd_mask (w := w) (mg := mg) (mb := mb) (k := k) (a' : Int) (bitsOf (heldN n))
      rw [show maskI (a' : Int) (bitsOf (heldN n)) = maskAfter n by unfold maskAfter; rw [gd.ans]] at fm
      refine' gv_callF (j := 35) (n := 2) G (Fm.gc G) ⟨rfl, rfl, rfl⟩ (by decide) rfl rfl rfl (gvs_cons (gv_callB (gv_bltN nb_ord (Fm.gc G) ⟨rfl, rfl, rfl⟩ rfl rfl rfl) (gvs_cons (by walk_at "mine:gv") gvs_nil rfl) co) (gvs_cons ?sm gvs_nil rfl) rfl) (ao.less (by decide)) fm
      case sm =>
        refine' gv_callB (ds := [.list ((bitList (heldN n)).map .int)]) (gv_bltN nb_sum (Fm.gc G) ⟨rfl, rfl, rfl⟩ rfl rfl rfl) (gvs_cons ?lc gvs_nil rfl) (cb_sum hh (bits_long _ h7))
        case lc =>
          rw [show (bitList (heldN n)).map D.int = _ from (outs_ints _ _).symm]
          refine' gv_comp (d := .rng 7) (ds := (List.range 7).map fun i => .int (i : Nat)) ((List.range 7).map fun i => (if (heldN n).getD i false then some ((2 : Int) ^ i) else none).map D.int) rfl ?it0 (it_rng 7 (by decide) hh) ?clos ?cell ?kind ?names ?x ?s (by simp) (by simp) ?bd
          walk_at "mine:comp"
          case it0 => walk_at "mine:gv"
          case bd =>
            intro j dj od C Ca e1 e2 ca
            obtain ⟨i, hi, rfl, rfl⟩ := outs_map e1 e2
            have hi7 : i < 7 := List.mem_range.mp (List.mem_of_getElem? hi)
            have ha : ((heldN n).map D.bool)[((i : Nat) : Int).toNat]? = some (.bool ((heldN n).getD i false)) := by
              rw [Int.toNat_natCast, List.getElem?_map, List.getD_eq_getElem?_getD, List.getElem?_eq_getElem (by omega)]; rfl
            refine ⟨?_, fun d' e => ?_⟩
            · have : ((if (heldN n).getD i false then some ((2 : Int) ^ i) else none).map D.int).isSome = (heldN n).getD i false := by cases (heldN n).getD i false <;> rfl
              rw [this]
              refine gts_one (gt_plain (gv_sub (k := (i : Nat)) (ds := (heldN n).map .bool) ?hv (gv_cvar ca rfl rfl rfl) (by omega) (by omega) ha (fun _ _ => rfl)) tr_bool rfl)
              exact gv_ccell ca rfl rfl rfl rfl rfl rfl rfl
            · have ed : d' = .int ((2 : Int) ^ i) := by
                cases hb : (heldN n).getD i false with
                | true => rw [hb] at e; cases e; rfl
                | false => rw [hb] at e; cases e
              subst ed
              exact gv_bin gv_int (gv_cvar ca rfl rfl rfl) (op_two_pow hi7)
    case o18 => walk_at "mine:own"
    case q18 =>
    intro _ _ i
    refine ex_nil (q'' _ _ (Fm.I.back _ i rfl ?_ ⟨rfl, rfl, rfl, trivial⟩))
    show updMu [(t, T)] t _ = _
    rw [updMu_one]
  case q =>
  intro _ _ i
  rw [lpics] at i
  have i₃ := i.froz (mm [("came", .list (ns.map toldD))]) (a := t) (ds := ns.map toldD) (mu := []) (oo := (fm0 h₀ N₀ 37 [.list (picsD ns ns.length)] L a cd).oo) ?h2 rfl hno ?h3
  case h2 =>
    show [(t, (ns.map toldD).take ns.length)] = _
    rw [List.take_of_length_le (by simp)]
  case h3 =>
    intro x d e
    have := lookup_mem' e
    simp only [List.mem_cons, List.not_mem_nil, or_false, Prod.mk.injEq] at this
    obtain ⟨rfl, rfl⟩ := this
    exact .inr ⟨rfl, rfl⟩
  refine' ex_return i₃ rfl ?G12 ?q12
  case G12 => walk_at "mine:gv"
  case q12 => intro v h' tk' y i'; exact q v h' tk' y i'.keep
end
end

section
open PySem PySem.W PyProof.Rows PySem.Calls
set_option maxRecDepth 100000
set_option linter.unusedVariables false
section
variable {w : World} {mg mb : Str → Option Value} {k : Addr}

def toldP (n : Int) : PyData := .list [.int (codeN n), .list ((heldN n).map .bool), .int (codeN n + stepN n)]
theorem pys_bools : ∀ l : List Bool, Pys (l.map D.bool) (l.map PyData.bool)
  | [] => .nil
  | b :: l => .cons (.bool b) (pys_bools l)
theorem pys_told : ∀ ns : List Int, Pys (ns.map toldD) (ns.map toldP)
  | [] => .nil
  | n :: ns => .cons (.list (.cons (.int _) (.cons (.list (pys_bools _)) (.cons (.int _) .nil)))) (pys_told ns)
theorem bools_lay : ∀ l : List Bool, PyData.canLayAll0 (l.map PyData.bool) = true ∧ PyData.depthAll (l.map PyData.bool) = 0
  | [] => ⟨rfl, rfl⟩
  | b :: l => ⟨by rw [List.map_cons, PyData.canLayAll0, (bools_lay l).1]; rfl, by rw [List.map_cons, PyData.depthAll, (bools_lay l).2]; rfl⟩
theorem told_lay (n : Int) : PyData.canLay0 (toldP n) = true ∧ PyData.depth (toldP n) = 2 := by
  constructor
  · unfold toldP
    simp only [PyData.canLay0, PyData.canLayAll0, (bools_lay (heldN n)).1, Bool.and_self]
  · unfold toldP
    simp only [PyData.depth, PyData.depthAll, (bools_lay (heldN n)).2]
    rfl
theorem tolds_lay : ∀ ns : List Int, PyData.canLayAll0 (ns.map toldP) = true ∧ PyData.depthAll (ns.map toldP) ≤ 2
  | [] => ⟨rfl, Nat.zero_le _⟩
  | n :: ns => ⟨by rw [List.map_cons, PyData.canLayAll0, (tolds_lay ns).1, (told_lay n).1]; rfl, by rw [List.map_cons, PyData.depthAll, (told_lay n).2]; exact Nat.max_le.mpr ⟨Nat.le_refl _, (tolds_lay ns).2⟩⟩
theorem told_shaped (ns : List Int) : PySem.SeqAt.shaped (.list (ns.map toldP)) = true := by
  unfold PySem.SeqAt.shaped
  rw [Bool.and_eq_true]
  refine ⟨?_, decide_eq_true ?_⟩
  · rw [PyData.canLay0]; exact (tolds_lay ns).1
  · rw [PyData.depth]; have := (tolds_lay ns).2; omega

set_option maxHeartbeats 1000000 in
theorem fd_picture (ns : List Int) (fs : Fd w mg mb k 36 5 [.list (ns.map .int), .list (boxesI.map tup5)] (.tup [.list (ns.map toldD), .list (picsD ns ns.length)])) (ft : Fd w mg mb k 37 5 [.list (picsD ns ns.length)] (.list (ns.map toldD))) :
    Fd w mg mb k 38 6 [.list (ns.map .int), .list (boxesI.map tup5)] (.bool true) := by
  refine fd_of (by show okFd _ 2 = true; decide +kernel) (fun pm cd doc vs hl => ?_) ⟨fun A E h' tk gs dd o Q N₀ h₀ L a cd G ao i q => ?_⟩
  · match vs, hl with
    | [a, b], _ => rfl
  have hh := ao.hh
  refine' ex_unpack (d := .tup [.list (ns.map toldD), .list (picsD ns ns.length)]) (ds := [.list (ns.map toldD), .list (picsD ns ns.length)]) (xs := ["told", "picture"]) i rfl hh ?G1 (.tup _) (.cons (.cons .nil)) rfl rfl ?own1 rfl rfl ?q1
  case G1 => exact gv_callF (j := 36) (n := 5) G (Fm.gc G) ⟨rfl, rfl, rfl⟩ (by decide) rfl rfl rfl (gvs_cons (by walk_at "mine:gv") (gvs_cons (by walk_at "mine:gv") gvs_nil rfl) rfl) (ao.less (by decide)) fs
  case own1 =>
    intro x hx
    simp only [List.mem_cons, List.not_mem_nil, or_false] at hx
    rcases hx with rfl | rfl <;> exact .inl rfl
  case q1 =>
  intro _ _ i
  refine' ex_return (d := .bool true) i rfl ?G2 ?q2
  case G2 =>
    refine gv_and2 (c := true) (gv_cmp (a := .list (picsD ns ns.length)) (by walk_at "mine:gv") gv_none (cm_isnot_none (nn_list _)) rfl) (fun _ => ?_) (fun h => by cases h)
    exact gv_cmp (a := .list (ns.map toldD)) (gv_callF (j := 37) (n := 5) G (Fm.gc G) ⟨rfl, rfl, rfl⟩ (by decide) rfl rfl rfl (gvs_cons (by walk_at "mine:gv") gvs_nil rfl) (ao.less (by decide)) ft) (by walk_at "mine:gv") (cm_eq_same (.list (pys_told ns)) (told_shaped ns) (by have := ao.un; omega)) rfl
  case q2 => intro v h' tk' y i'; exact q v h' tk' y i'.keep

structure BxP (P : Heap → Prop) (w : World) (mg mb : Str → Option Value) (k : Addr) (i n : Nat) (ds : List D) (d : D) : Prop where
  go : ∀ (A : Around) (E : Value → Shared → Prop) (h : Heap) (tk : Nat) (g dd o) (Q : Flow → Shared → Prop) (N₀ : Addr → Prop) (h₀ : Heap) (L a : Addr) (cd : Value), P h₀ → Glo w mg mb k h₀ → Ao A n → (fm0 h₀ N₀ i ds L a cd).I h →
    (∀ v h' tk', Is (fm0 h₀ N₀ i ds L a cd).N h' d v → KP h₀ h' → Q (.ret v) ⟨h', g, dd, tk', o⟩) → XS w A (envOfC (dfn i).name (dfn i).scope L a cd) (dfn i).body Q E ⟨h, g, dd, tk, o⟩

theorem fdp_of {P : Heap → Prop} {i n : Nat} {ds : List D} {d : D} (ok : okFd i ds.length = true)
    (hbind : ∀ pm cd doc vs, vs.length = ds.length → bindArgs (docDef (dfn i).name (dfn i).params (dfn i).body (dfn i).scope pm cd doc) ⟨vs, []⟩ = pure ((pars i).zip vs))
    (B : BxP P w mg mb k i n ds d) : FdP P w mg mb k i (n + 1) ds d := fdp_of_body ok hbind ⟨fun A E h tk g dd o Q N₀ h₀ L a cd hP G ao i q => (B.go A E h tk g dd o Q N₀ h₀ L a cd hP G ao i q).go⟩

def dfltI : List Int := [1127, 394, 24909, 1, 100]
def numbersI (ns : List Int) : List Int := ((if ns = [] then dfltI else ns).take 10).map fun n => n.fmod (10 ^ (12 : Int).toNat)

set_option maxHeartbeats 1000000 in
theorem fd_law (a : Addr) (vs : List Value) (ns : List Int) (hi : IntsAre vs ns) (hn : ns.length ≤ 63) (fp : Fd w mg mb k 38 6 [.list ((numbersI ns).map .int), .list (boxesI.map tup5)] (.bool true)) :
    FdP (fun h => h.IsList a vs.toArray) w mg mb k 39 7 [.val (.ref a)] (.bool true) := by
  refine fdp_of (by show okFd _ 1 = true; decide +kernel) (fun pm cd doc vs hl => ?_) ⟨fun A E h' tk gs dd o Q N₀ h₀ L a' cd hP G ao i q => ?_⟩
  · match vs, hl with
    | [a], _ => rfl
  have hh := ao.hh
  refine' ex_return (d := .bool true) i rfl ?G2 ?q2
  case G2 =>
    refine' gv_callF (j := 38) (n := 6) G (Fm.gc G) ⟨rfl, rfl, rfl⟩ (by decide) rfl rfl rfl (gvs_cons ?nums (gvs_cons ?bx gvs_nil rfl) rfl) (ao.less (by decide)) fp
    case bx => exact gv_callF (j := 26) (n := 1) G (Fm.gc G) ⟨rfl, rfl, rfl⟩ (by decide) rfl rfl rfl gvs_nil (ao.less (by decide)) fd_boxes
    case nums =>
      have e : (numbersI ns).map D.int = (((if ns = [] then dfltI else ns).take 10).map fun n => some (D.int (n.fmod (10 ^ (12 : Int).toNat)))).filterMap id := by
        unfold numbersI
        generalize (if ns = [] then dfltI else ns).take 10 = l
        induction l with
        | nil => rfl
        | cons x l ih => simpa using ih
      rw [e]
      refine' gv_comp (d := .list (((if ns = [] then dfltI else ns).take 10).map .int)) (ds := ((if ns = [] then dfltI else ns).take 10).map .int) _ rfl ?it0 (it_list _ hh) ?clos ?cell ?kind ?names ?x ?s (by simp) (by rw [List.length_map, List.length_take]; omega) ?bd
      walk_at "mine:comp"
      case it0 => exact gv_head (b := 10) (fun h ih => by obtain ⟨ob, e, r⟩ := hP; exact ⟨ob, Fm.I.keep ih _ _ e, r⟩) hi hn (by decide) (by decide) (by walk_at "mine:gv") (gv_list (by walk_at "mine:gvs") (by decide))
      case bd =>
        intro j dj od C Ca e1 e2 ca
        obtain ⟨n, _, rfl, rfl⟩ := outs_map e1 e2
        refine ⟨gts_nil, fun d' e => ?_⟩
        cases e
        exact gv_bin (gv_cvar ca rfl rfl rfl) (gv_bin gv_int gv_int (op_pow_ii (by decide +kernel) (by decide +kernel))) (op_mod_ii (by decide +kernel))
  case q2 => intro v h' tk' y i'; exact q v h' tk' y i'.keep
end

theorem pin_ok (w : World) (h : Heap) (x : PH w h) : isTheDefsW P0 h R0.name := by
  obtain ⟨mg, mb, k, G⟩ := x.glo
  obtain ⟨a, o, pm, cd, doc, e1, e2, e3, _⟩ := G.fn _ (dfn_mem (i := 39) (by decide))
  refine ⟨a, o, _, (dfn 39).params, (dfn 39).body, (dfn 39).scope, (Pin0 G.g _).trans e1, e2, e3, by kernel_rfl, rfl, rfl, rfl, rfl, rfl, rfl, rfl, rfl, .inl ⟨rfl, rfl⟩, [], by kernel_rfl, .inl ⟨rfl, rfl⟩⟩

theorem call_ok (hg : ∀ n, ∃ c a, Gd n c a) (hT : ∀ p (T : Nat), InR p → T ≤ 6 → InR (turnI p T) ∧ turnI (turnI p T) (6 - T) = p)
    (hY : ∀ w mg mb k p, InR p → Fd w mg mb k 34 2 [colD p] (.bool true))
    (hB : ∀ w mg mb k p (T : Nat) b, InR p → T ≤ 6 → ∃ d, Fd w mg mb k 32 3 [colD p, .int (T : Nat), .bool b] d ∧ Fd w mg mb k 33 1 [d] (colD (turnI p T))) : CallOk PH := by
  intro w s₁ a vs ns hP hgens hL hi hn
  obtain ⟨mg, mb, k, G⟩ := hP.glo
  obtain ⟨f, o, pm, cd, doc, e1, e2, e3, _⟩ := G.fn _ (dfn_mem (i := 39) (by decide))
  have hbox : ∀ x ∈ boxesI, 0 ≤ x.1 ∧ x.1 < 7 := by decide +kernel
  have hlen : (numbersI ns).length ≤ 10 := by unfold numbersI; rw [List.length_map, List.length_take]; omega
  have fs := fd_sent (w := w) (mg := mg) (mb := mb) (k := k) (numbersI ns) hlen (hY w mg mb k) (hB w mg mb k) hbox
  have ft := fd_taken (w := w) (mg := mg) (mb := mb) (k := k) (numbersI ns) hlen (fun n _ => hg n) hT (hB w mg mb k)
  have fl := fd_law (w := w) (mg := mg) (mb := mb) (k := k) a vs ns hi hn (fd_picture _ fs ft)
  obtain ⟨h, g, dd, tk, os⟩ := s₁
  unfold callTree
  refine wpAny_bind (wpAny_nsGet G.g ?_)
  rw [show mg R0.name = some (.ref f) from e1]
  refine wpAny_bind (fl.go callerA _ h tk g dd os _ (.ref f) [.ref a] (fun _ => True) hL e1 G (fun _ _ => trivial) (.cons (.val _) .nil) ⟨rfl, by decide, by decide⟩ fun v h' tk' y kp => ?_)
  cases y
  exact wpAny_pure ⟨rfl, kp, rfl, hgens⟩
end

end Mine
end

section
open PySem PySem.W PyProof.Rows PySem.Calls
set_option maxRecDepth 100000
set_option linter.unusedVariables false
namespace Mine
def chkTo : List (Nat × Nat × Nat) → Nat → Nat → Nat → Bool
  | [], _, _, _ => false
  | (a, b, t') :: rest, lo, hi, t => if Nat.blt b lo then chkTo rest lo hi t else Nat.ble a lo && Nat.ble hi b && Nat.beq (t' + (lo - a)) t
def chkNo : List (Nat × Nat × Nat) → Nat → Nat → Bool
  | [], _, _ => true
  | (a, b, _) :: rest, lo, hi => if Nat.blt b lo then chkNo rest lo hi else Nat.blt hi a
theorem chkTo_ok {lo hi t c : Nat} (h0 : lo ≤ c) (h1 : c ≤ hi) : ∀ {l : List (Nat × Nat × Nat)}, chkTo l lo hi t = true → (∀ x ∈ l, x.1 ≤ x.2.1) → Unicode.shifted l c = some (t + (c - lo))
  | [], h, _ => by cases h
  | (a, b, t') :: rest, h, ha => by
    unfold chkTo at h
    unfold Unicode.shifted
    have ha0 := ha (a, b, t') List.mem_cons_self
    simp only at ha0
    split at h
    · rename_i hb
      have hb' : b + 1 ≤ lo := by simpa [Nat.blt] using hb
      rw [if_neg (by omega), if_neg (by omega)]
      exact chkTo_ok h0 h1 h fun x hx => ha x (List.mem_cons_of_mem _ hx)
    · simp only [Bool.and_eq_true, Nat.ble_eq, Nat.beq_eq] at h
      obtain ⟨⟨h2, h3⟩, h4⟩ := h
      rw [if_neg (by omega), if_pos (by omega)]
      congr 1
      omega
theorem chkNo_ok {lo hi c : Nat} (h0 : lo ≤ c) (h1 : c ≤ hi) : ∀ {l : List (Nat × Nat × Nat)}, chkNo l lo hi = true → (∀ x ∈ l, x.1 ≤ x.2.1) → Unicode.shifted l c = none
  | [], _, _ => rfl
  | (a, b, t') :: rest, h, ha => by
    unfold chkNo at h
    unfold Unicode.shifted
    have ha0 := ha (a, b, t') List.mem_cons_self
    simp only at ha0
    split at h
    · rename_i hb
      have hb' : b + 1 ≤ lo := by simpa [Nat.blt] using hb
      rw [if_neg (by omega), if_neg (by omega)]
      exact chkNo_ok h0 h1 h fun x hx => ha x (List.mem_cons_of_mem _ hx)
    · have : hi + 1 ≤ a := by simpa [Nat.blt] using h
      rw [if_pos (by omega)]

theorem endsWord_one (c : Nat) : Unicode.endsWord #[c] 0 = false := rfl
theorem lower_one (c d : Nat) (h : Unicode.image UnicodeData.oneLower UnicodeData.severalLower c = [d]) : Txt.lower (chr1 c) = chr1 d := by
  have e : Unicode.lowerAt #[c] 0 = [d] := by
    unfold Unicode.lowerAt
    show (if c == 0x3A3 && Unicode.endsWord #[c] 0 then [0x3C2] else Unicode.lowerOf c) = [d]
    rw [endsWord_one, Bool.and_false, if_neg (by decide)]
    exact h
  unfold Txt.lower chr1
  congr 1
  show placed _ _ = _
  unfold placed
  simp [e]

def gaps : List (Nat × Nat × Nat) := [(65, 90, 32), (192, 214, 32), (216, 222, 32), (913, 929, 32), (931, 937, 32), (1024, 1039, 80), (1040, 1071, 32), (1329, 1366, 48), (8544, 8559, 16), (9398, 9423, 26), (65313, 65338, 32), (66560, 66597, 40)]
theorem gaps_ok : (gaps.all fun x => chkTo UnicodeData.oneLower x.1 x.2.1 (x.1 + x.2.2) && chkNo UnicodeData.oneLower (x.1 + x.2.2) (x.2.1 + x.2.2)) = true := by decide +kernel
def inGap (k : Nat) (x : Nat × Nat × Nat) : Bool := (Nat.ble x.1 k && Nat.ble k x.2.1) || (Nat.ble (x.1 + x.2.2) k && Nat.ble k (x.2.1 + x.2.2))
theorem keys_ok : (keys0.all fun k => gaps.all fun x => !inGap k.toNat x) = true := by decide +kernel
theorem table_le0 : (UnicodeData.oneLower.all fun x => Nat.ble x.1 x.2.1) = true := by decide +kernel
theorem table_le : ∀ x ∈ UnicodeData.oneLower, x.1 ≤ x.2.1 := fun x hx => Nat.le_of_ble_eq_true (List.all_eq_true.mp table_le0 x hx)

theorem several_none {c : Nat} (h : c ≠ 304) : UnicodeData.severalLower.lookup c = none := by
  show List.lookup c [(0x130, [0x69, 0x307])] = none
  rw [List.lookup_cons, beq_eq_false_iff_ne.mpr h]; rfl
theorem lower_to {c d : Nat} (h : c ≠ 304) (e : Unicode.shifted UnicodeData.oneLower c = some d) : Txt.lower (chr1 c) = chr1 d := lower_one c d (by unfold Unicode.image; rw [several_none h, e]; rfl)
theorem lower_same {c : Nat} (h : c ≠ 304) (e : Unicode.shifted UnicodeData.oneLower c = none) : Txt.lower (chr1 c) = chr1 c := lower_one c c (by unfold Unicode.image; rw [several_none h, e]; rfl)

theorem gaps_no304 : (gaps.all fun x => !inGap 304 x) = true := by decide +kernel
theorem keys_no {c : Nat} {x : Nat × Nat × Nat} (hx : x ∈ gaps) (h : inGap c x = true) : keys0.contains (c : Int) = false := by
  rw [Bool.eq_false_iff]
  intro hc
  have hm : (c : Int) ∈ keys0 := List.contains_iff_mem.mp hc
  have h1 := List.all_eq_true.mp (List.all_eq_true.mp keys_ok _ hm) x hx
  rw [Int.toNat_natCast, h] at h1
  cases h1
theorem gap_facts {c : Nat} {x : Nat × Nat × Nat} (hx : x ∈ gaps) (h0 : x.1 ≤ c) (h1 : c ≤ x.2.1) :
    keys0.contains (c : Int) = false ∧ keys0.contains ((c + x.2.2 : Nat) : Int) = false ∧ Txt.lower (chr1 c) = chr1 (c + x.2.2) ∧ Txt.lower (chr1 (c + x.2.2)) = chr1 (c + x.2.2) := by
  have g1 : inGap c x = true := by unfold inGap; rw [Nat.ble_eq_true_of_le h0, Nat.ble_eq_true_of_le h1]; rfl
  have g2 : inGap (c + x.2.2) x = true := by unfold inGap; rw [Nat.ble_eq_true_of_le (Nat.add_le_add_right h0 x.2.2), Nat.ble_eq_true_of_le (Nat.add_le_add_right h1 x.2.2)]; simp
  have n3 : ∀ d, inGap d x = true → d ≠ 304 := fun d hd e => by
    have := List.all_eq_true.mp gaps_no304 x hx
    rw [← e, hd] at this
    cases this
  have ok := List.all_eq_true.mp gaps_ok x hx
  rw [Bool.and_eq_true] at ok
  refine ⟨keys_no hx g1, keys_no hx g2, lower_to (n3 _ g1) ?_, lower_same (n3 _ g2) (chkNo_ok (Nat.add_le_add_right h0 x.2.2) (Nat.add_le_add_right h1 x.2.2) ok.2 table_le)⟩
  rw [chkTo_ok h0 h1 ok.1 table_le]
  congr 1
  omega

theorem great_gap (q : Int) : ∃ (c : Nat) (x : Nat × Nat × Nat), greatI q = c ∧ x ∈ gaps ∧ x.1 ≤ c ∧ c ≤ x.2.1 ∧ (blockI q).2.2.2.2 = x.2.2 ∧ c + x.2.2 ≤ 1114111 := by
  obtain ⟨h0, h1⟩ := fmod_lt (q := q) (m := 10) (by decide)
  have hb : blockI q = blocksI.getD (q.fmod 10).toNat (0, 0, 0, 0, 0) := rfl
  have hr : greatRaw q = 16384 * (blockI q).1 + 128 * (blockI q).2.1 + (blockI q).2.2.1 + (q.fdiv 10).fmod ((blockI q).2.2.2.1 - (blockI q).2.2.1 + 1) := rfl
  have hj : (q.fmod 10).toNat < 10 := by omega
  generalize (q.fmod 10).toNat = j at hb hj
  have ho : ∀ m : Int, 0 < m → 0 ≤ (q.fdiv 10).fmod m ∧ (q.fdiv 10).fmod m < m := fun m hm => fmod_lt hm
  generalize q.fdiv 10 = o at hr ho
  have fin : ∀ (x : Nat × Nat × Nat) (r : Int), greatI q = r → x ∈ gaps → (x.1 : Int) ≤ r → r ≤ x.2.1 → (blockI q).2.2.2.2 = x.2.2 → x.2.1 + x.2.2 ≤ 1114111 →
      ∃ (c : Nat) (x : Nat × Nat × Nat), greatI q = c ∧ x ∈ gaps ∧ x.1 ≤ c ∧ c ≤ x.2.1 ∧ (blockI q).2.2.2.2 = x.2.2 ∧ c + x.2.2 ≤ 1114111 := fun x r e hx a b d f =>
    ⟨r.toNat, x, by omega, hx, by omega, by omega, d, by omega⟩
  have plain : greatRaw q ≠ 215 → greatRaw q ≠ 930 → greatI q = greatRaw q := fun a b => by
    unfold greatI
    rw [if_neg]
    simp [a, b]
  have odd : (greatRaw q = 215 ∨ greatRaw q = 930) → greatI q = greatRaw q + 1 := fun a => by
    unfold greatI
    rw [if_pos]
    rcases a with a | a <;> simp [a]
  have raw : ∀ (r g lo hi st base n : Int), blockI q = (r, g, lo, hi, st) → 16384 * r + 128 * g + lo = base → hi - lo + 1 = n → greatRaw q = base + o.fmod n := fun r g lo hi st base n e h1 h2 => by
    rw [hr, e]
    show 16384 * r + 128 * g + lo + o.fmod (hi - lo + 1) = _
    rw [h1, h2]
  have whole : ∀ (x : Nat × Nat × Nat) (base n : Int), greatRaw q = base + o.fmod n → x ∈ gaps → (x.1 : Int) = base → (x.2.1 : Int) = base + n - 1 → 0 < n → (base + n ≤ 215 ∨ 930 < base) → (blockI q).2.2.2.2 = x.2.2 → x.2.1 + x.2.2 ≤ 1114111 →
      ∃ (c : Nat) (x : Nat × Nat × Nat), greatI q = c ∧ x ∈ gaps ∧ x.1 ≤ c ∧ c ≤ x.2.1 ∧ (blockI q).2.2.2.2 = x.2.2 ∧ c + x.2.2 ≤ 1114111 := fun x base n e hx a b c d f g => by
    obtain ⟨o0, o1⟩ := ho n c
    exact fin x _ (plain (by omega) (by omega)) hx (by omega) (by omega) f g
  have split : ∀ (x y : Nat × Nat × Nat) (base n k : Int), greatRaw q = base + o.fmod n → x ∈ gaps → y ∈ gaps → (x.1 : Int) = base → (x.2.1 : Int) = k - 1 → (y.1 : Int) = k + 1 → (y.2.1 : Int) = base + n - 1 → 0 < n → base < k → k < base + n - 1 → (k = 215 ∧ base + n ≤ 930 ∨ k = 930 ∧ 215 < base) → (blockI q).2.2.2.2 = x.2.2 → y.2.2 = x.2.2 → y.2.1 + y.2.2 ≤ 1114111 →
      ∃ (c : Nat) (x : Nat × Nat × Nat), greatI q = c ∧ x ∈ gaps ∧ x.1 ≤ c ∧ c ≤ x.2.1 ∧ (blockI q).2.2.2.2 = x.2.2 ∧ c + x.2.2 ≤ 1114111 := fun x y base n k e hx hy a b c d h0 h1 h2 h3 f f2 g => by
    obtain ⟨o0, o1⟩ := ho n h0
    by_cases h4 : greatRaw q = k
    · exact fin y _ (odd (by omega)) hy (by omega) (by omega) (by rw [f, f2]) g
    · by_cases h5 : greatRaw q < k
      · exact fin x _ (plain (by omega) (by omega)) hx (by omega) (by omega) f (by omega)
      · exact fin y _ (plain (by omega) (by omega)) hy (by omega) (by omega) (by rw [f, f2]) g
  match j, hj with
  | 0, _ => exact whole (65, 90, 32) 65 26 (raw _ _ _ _ _ _ _ hb rfl rfl) (by decide) rfl rfl (by decide) (by decide) (by rw [hb]; rfl) (by decide)
  | 1, _ => exact split (192, 214, 32) (216, 222, 32) 192 31 215 (raw _ _ _ _ _ _ _ hb rfl rfl) (by decide) (by decide) rfl rfl rfl rfl (by decide) (by decide) (by decide) (by decide) (by rw [hb]; rfl) rfl (by decide)
  | 2, _ => exact split (913, 929, 32) (931, 937, 32) 913 25 930 (raw _ _ _ _ _ _ _ hb rfl rfl) (by decide) (by decide) rfl rfl rfl rfl (by decide) (by decide) (by decide) (by decide) (by rw [hb]; rfl) rfl (by decide)
  | 3, _ => exact whole (1024, 1039, 80) 1024 16 (raw _ _ _ _ _ _ _ hb rfl rfl) (by decide) rfl rfl (by decide) (by decide) (by rw [hb]; rfl) (by decide)
  | 4, _ => exact whole (1040, 1071, 32) 1040 32 (raw _ _ _ _ _ _ _ hb rfl rfl) (by decide) rfl rfl (by decide) (by decide) (by rw [hb]; rfl) (by decide)
  | 5, _ => exact whole (1329, 1366, 48) 1329 38 (raw _ _ _ _ _ _ _ hb rfl rfl) (by decide) rfl rfl (by decide) (by decide) (by rw [hb]; rfl) (by decide)
  | 6, _ => exact whole (8544, 8559, 16) 8544 16 (raw _ _ _ _ _ _ _ hb rfl rfl) (by decide) rfl rfl (by decide) (by decide) (by rw [hb]; rfl) (by decide)
  | 7, _ => exact whole (9398, 9423, 26) 9398 26 (raw _ _ _ _ _ _ _ hb rfl rfl) (by decide) rfl rfl (by decide) (by decide) (by rw [hb]; rfl) (by decide)
  | 8, _ => exact whole (65313, 65338, 32) 65313 26 (raw _ _ _ _ _ _ _ hb rfl rfl) (by decide) rfl rfl (by decide) (by decide) (by rw [hb]; rfl) (by decide)
  | 9, _ => exact whole (66560, 66597, 40) 66560 38 (raw _ _ _ _ _ _ _ hb rfl rfl) (by decide) rfl rfl (by decide) (by decide) (by rw [hb]; rfl) (by decide)
end Mine
end

section
open PySem PySem.W PyProof.Rows PySem.Calls
set_option maxRecDepth 100000
set_option linter.unusedVariables false
namespace Mine
theorem held_at (r g b : Int) (t : Nat) (ht : t < 7) : ∀ (l : List Box) (h : List Bool), (∀ x ∈ l, 0 ≤ x.1) → h.length = 7 → (l.foldl (heldStep r g b) h).getD t false = (h.getD t false || l.any fun x => x.1.toNat == t && inBox r g b x)
  | [], h, _, _ => by simp
  | x :: l, h, hx, hl => by
    rw [List.foldl_cons, held_at r g b t ht l _ (fun y hy => hx y (List.mem_cons_of_mem _ hy)) (by rw [heldStep_len, hl]), List.any_cons, ← Bool.or_assoc]
    congr 1
    unfold heldStep
    cases hb : inBox r g b x with
    | false => simp
    | true =>
      simp only [if_true, Bool.and_true]
      by_cases e : x.1.toNat = t
      · rw [e]; simp [List.getD_eq_getElem?_getD, hl, ht]
      · simp [List.getD_eq_getElem?_getD, e]

theorem rangeI_contains {a : Int} {n : Nat} {x : Int} : (rangeInts a 1 n).contains x = (decide (a ≤ x) && decide (x < a + n)) := by
  rw [Bool.eq_iff_iff, List.contains_iff_mem, Bool.and_eq_true, decide_eq_true_eq, decide_eq_true_eq]
  constructor
  · exact mem_rangeInts
  · intro ⟨h0, h1⟩
    unfold rangeInts
    exact List.mem_map.mpr ⟨(x - a).toNat, List.mem_range.mpr (by omega), by omega⟩

def boxLo (x : Box) : Int := 16384 * x.2.1 + 128 * x.2.2.1 + x.2.2.2.1
def boxHi (x : Box) : Int := 16384 * x.2.1 + 128 * x.2.2.1 + x.2.2.2.2
def boxFit (x : Box) : Bool := decide (0 ≤ x.1) && decide (0 ≤ x.2.2.1) && decide (x.2.2.1 < 128) && decide (0 ≤ x.2.2.2.1) && decide (x.2.2.2.2 < 128)
theorem inBox_run {x : Box} (hf : boxFit x = true) (c : Nat) : inBox (partsC c).1 (partsC c).2.1 (partsC c).2.2 x = (decide (boxLo x ≤ c) && decide ((c : Int) ≤ boxHi x)) := by
  unfold boxFit at hf
  simp only [Bool.and_eq_true, decide_eq_true_eq] at hf
  unfold inBox boxLo boxHi partsC
  obtain ⟨t, r, g, lo, hi⟩ := x
  simp only at hf ⊢
  rw [Int.fmod_eq_emod_of_nonneg _ (by decide), Int.fmod_eq_emod_of_nonneg _ (by decide), Int.fdiv_eq_ediv_of_nonneg _ (by decide), Int.fdiv_eq_ediv_of_nonneg _ (by decide)]
  rw [Bool.eq_iff_iff]
  simp only [Bool.and_eq_true, decide_eq_true_eq, beq_iff_eq, and_true]
  omega
theorem boxes_fit : (boxesI.all boxFit) = true := by decide +kernel

theorem any_run (l : List Box) (hl : ∀ x ∈ l, boxFit x = true) (c t : Nat) : (l.any fun x => x.1.toNat == t && inBox (partsC c).1 (partsC c).2.1 (partsC c).2.2 x) = l.any fun x => x.1.toNat == t && (decide (boxLo x ≤ c) && decide ((c : Int) ≤ boxHi x)) := by
  induction l with
  | nil => rfl
  | cons x l ih => rw [List.any_cons, List.any_cons, ih fun y hy => hl y (List.mem_cons_of_mem _ hy), inBox_run (hl x List.mem_cons_self)]

def runsOf (t : Nat) : List (Int × Int) := (boxesI.filter fun x => x.1.toNat == t).map fun x => (boxLo x, boxHi x)
theorem any_runs (c t : Nat) : (boxesI.any fun x => x.1.toNat == t && (decide (boxLo x ≤ c) && decide ((c : Int) ≤ boxHi x))) = (runsOf t).any fun x => decide (x.1 ≤ c) && decide ((c : Int) ≤ x.2) := by
  unfold runsOf
  rw [List.any_map, List.any_filter]
  rfl
theorem held_runs (c t : Nat) (ht : t < 7) : (heldI (partsC c).1 (partsC c).2.1 (partsC c).2.2 boxesI).getD t false = (runsOf t).any fun x => decide (x.1 ≤ c) && decide ((c : Int) ≤ x.2) := by
  unfold heldI
  have hf : ∀ x ∈ boxesI, boxFit x = true := List.all_eq_true.mp boxes_fit
  rw [held_at _ _ _ t ht _ _ (fun x hx => by have := hf x hx; unfold boxFit at this; simp only [Bool.and_eq_true, decide_eq_true_eq] at this; omega) (by simp), any_run _ hf, any_runs]
  have : (List.replicate 7 false).getD t false = false := by
    rw [List.getD_eq_getElem?_getD, List.getElem?_replicate]; split <;> rfl
  rw [this, Bool.false_or]

theorem runs0 : runsOf 0 = [(173, 173), (847, 847), (6150, 6150), (6155, 6157), (8203, 8205), (8288, 8288), (65024, 65039), (65279, 65279)] := by decide +kernel
theorem runs1 : runsOf 1 = [(32, 32)] := by decide +kernel
theorem runs2 : runsOf 2 = (64976, 65007) :: (List.range 17).map fun (p : Nat) => (65536 * (p : Int) + 65534, 65536 * (p : Int) + 65535) := by decide +kernel
theorem runs3 : runsOf 3 = [(65529, 65533)] := by decide +kernel
theorem runs4 : runsOf 4 = [(12272, 12283)] := by decide +kernel
theorem runs5 : runsOf 5 = [(832, 833), (8206, 8207), (8234, 8238), (8298, 8303)] := by decide +kernel
theorem runs6 : runsOf 6 = [(917505, 917505), (917536, 917631)] := by decide +kernel

theorem mask_and (c : Nat) : Builtin.bitAnd (c : Int) 65535 = ((c % 65536 : Nat) : Int) := by
  show ((c &&& 65535 : Nat) : Int) = _
  rw [show (65535 : Nat) = 2 ^ 16 - 1 by decide, Nat.and_two_pow_sub_one_eq_mod]

theorem run1 (c a : Int) : (decide (a ≤ c) && decide (c ≤ a)) = (c == a) := by
  rw [Bool.eq_iff_iff]; simp only [Bool.and_eq_true, decide_eq_true_eq, beq_iff_eq]; omega
theorem run2 {c a b : Int} (h : b = a + 1) : (decide (a ≤ c) && decide (c ≤ b)) = (c == a || c == b) := by
  rw [Bool.eq_iff_iff]; simp only [Bool.and_eq_true, Bool.or_eq_true, decide_eq_true_eq, beq_iff_eq]; omega
theorem run3 {c a d b : Int} (h : d = a + 1) (h2 : b = a + 2) : (decide (a ≤ c) && decide (c ≤ b)) = (c == a || (c == d || c == b)) := by
  rw [Bool.eq_iff_iff]; simp only [Bool.and_eq_true, Bool.or_eq_true, decide_eq_true_eq, beq_iff_eq]; omega
theorem lt_le {c a b : Int} (h : a = b + 1) : decide (c < a) = decide (c ≤ b) := decide_eq_decide.mpr (by omega)
theorem tab0 (c : Nat) : ((runsOf 0).any fun x => decide (x.1 ≤ c) && decide ((c : Int) ≤ x.2)) = b1s.contains (c : Int) := by
  rw [runs0]
  unfold b1s
  rw [List.contains_append, rangeI_contains, lt_le (a := 65024 + (((65040 - 65024 : Int).toNat : Nat) : Int)) (b := 65039) (by decide)]
  simp only [List.any_cons, List.any_nil, List.contains_cons, List.contains_nil, run1, run3 (a := 6155) (d := 6156) (b := 6157) rfl rfl, run3 (a := 8203) (d := 8204) (b := 8205) rfl rfl, Bool.or_false]
  ac_rfl
theorem tab1 (c : Nat) : ((runsOf 1).any fun x => decide (x.1 ≤ c) && decide ((c : Int) ≤ x.2)) = (chr1 c == " ") := by
  rw [runs1, Bool.eq_iff_iff]
  have e : (chr1 c == " ") = true ↔ c = 32 := by
    rw [beq_iff_eq]
    constructor
    · intro h
      have h2 : (chr1 c).cps = (Str.ofString " ").cps := congrArg Str.cps h
      have h3 : (#[c] : Array Nat) = #[32] := h2
      simpa using h3
    · rintro rfl; rfl
  rw [e]
  simp only [List.any_cons, List.any_nil, Bool.or_eq_true, Bool.and_eq_true, decide_eq_true_eq, Bool.false_eq_true, or_false]
  omega
theorem tab2 (c : Nat) (hc : c ≤ 1114111) : ((runsOf 2).any fun x => decide (x.1 ≤ c) && decide ((c : Int) ≤ x.2)) = c4B (c : Int) := by
  rw [runs2, List.any_cons, List.any_map]
  unfold c4B
  rw [mask_and]
  split
  · rename_i h
    rw [Bool.or_eq_false_iff]
    constructor
    · rw [Bool.and_eq_false_iff]; left; exact decide_eq_false (by omega)
    · rw [List.any_eq_false]
      intro p hp
      have := List.mem_range.mp hp
      simp only [Function.comp, Bool.and_eq_true, decide_eq_true_eq, not_and]
      omega
  · rename_i h
    split
    · rename_i h2
      rw [Bool.or_eq_true]; left
      simp only [Bool.and_eq_true, decide_eq_true_eq]
      omega
    · rename_i h2
      rw [Bool.eq_iff_iff]
      simp only [Bool.or_eq_true, Bool.and_eq_true, decide_eq_true_eq, List.any_eq_true, List.mem_range, Function.comp, beq_iff_eq]
      constructor
      · rintro (h3 | ⟨p, hp, h3⟩) <;> omega
      · intro h3
        right
        exact ⟨c / 65536, by omega, by omega⟩
theorem tab3 (c : Nat) : ((runsOf 3).any fun x => decide (x.1 ≤ c) && decide ((c : Int) ≤ x.2)) = c6s.contains (c : Int) := by
  rw [runs3]
  unfold c6s
  rw [rangeI_contains, Bool.eq_iff_iff]
  simp only [List.any_cons, List.any_nil, Bool.or_eq_true, Bool.and_eq_true, decide_eq_true_eq, Bool.false_eq_true, or_false]
  omega
theorem tab4 (c : Nat) : ((runsOf 4).any fun x => decide (x.1 ≤ c) && decide ((c : Int) ≤ x.2)) = c7s.contains (c : Int) := by
  rw [runs4]
  unfold c7s
  rw [rangeI_contains, Bool.eq_iff_iff]
  simp only [List.any_cons, List.any_nil, Bool.or_eq_true, Bool.and_eq_true, decide_eq_true_eq, Bool.false_eq_true, or_false]
  omega
theorem tab5 (c : Nat) : ((runsOf 5).any fun x => decide (x.1 ≤ c) && decide ((c : Int) ≤ x.2)) = c8s.contains (c : Int) := by
  rw [runs5]
  unfold c8s
  rw [List.contains_append, List.contains_append, rangeI_contains, rangeI_contains, lt_le (a := 8234 + (((8239 - 8234 : Int).toNat : Nat) : Int)) (b := 8238) (by decide), lt_le (a := 8298 + (((8304 - 8298 : Int).toNat : Nat) : Int)) (b := 8303) (by decide)]
  simp only [List.any_cons, List.any_nil, List.contains_cons, List.contains_nil, run2 (a := 832) (b := 833) rfl, run2 (a := 8206) (b := 8207) rfl, Bool.or_false]
  ac_rfl
theorem tab6 (c : Nat) : ((runsOf 6).any fun x => decide (x.1 ≤ c) && decide ((c : Int) ≤ x.2)) = c9s.contains (c : Int) := by
  rw [runs6]
  unfold c9s
  rw [List.contains_append, rangeI_contains, Bool.eq_iff_iff]
  simp only [List.any_cons, List.any_nil, List.contains_cons, List.contains_nil, Bool.or_eq_true, Bool.and_eq_true, decide_eq_true_eq, beq_iff_eq, Bool.false_eq_true, or_false]
  omega

theorem held_tables (c : Nat) (hc : c ≤ 1114111) : heldI (partsC c).1 (partsC c).2.1 (partsC c).2.2 boxesI = tablesB c := by
  have h7 := heldI_len (partsC c).1 (partsC c).2.1 (partsC c).2.2 boxesI
  have hg := fun t ht => held_runs c t ht
  generalize heldI (partsC c).1 (partsC c).2.1 (partsC c).2.2 boxesI = l at h7 hg
  match l, h7 with
  | [b0, b1, b2, b3, b4, b5, b6], _ =>
    have e0 : b0 = _ := hg 0 (by decide)
    have e1 : b1 = _ := hg 1 (by decide)
    have e2 : b2 = _ := hg 2 (by decide)
    have e3 : b3 = _ := hg 3 (by decide)
    have e4 : b4 = _ := hg 4 (by decide)
    have e5 : b5 = _ := hg 5 (by decide)
    have e6 : b6 = _ := hg 6 (by decide)
    rw [e0, e1, e2, e3, e4, e5, e6, tab0, tab1, tab2 c hc, tab3, tab4, tab5, tab6]
    rfl

theorem all_good (n : Int) : ∃ c a, Gd n c a := by
  have plain : ∀ x : Int, drawnI n = (x.fmod 1114112, 0) → ∃ c a, Gd n c a := fun x e => by
    obtain ⟨h0, h1⟩ := fmod_lt (q := x) (m := 1114112) (by decide)
    have ec : codeN n = ((x.fmod 1114112).toNat : Nat) := by unfold codeN; rw [e]; show x.fmod 1114112 = _; omega
    have es : stepN n = 0 := by unfold stepN; rw [e]
    exact ⟨(x.fmod 1114112).toNat, (x.fmod 1114112).toNat, ec, by rw [es, ec]; omega, by omega, by omega, by unfold heldN; rw [ec]; exact held_tables _ (by omega), fun _ => es, fun h => by rw [es] at h; omega⟩
  by_cases h0 : (n.fmod 3 == 0) = true
  · exact plain _ (if_pos h0)
  · by_cases h1 : (n.fmod 3 == 1) = true
    · exact plain _ ((if_neg h0).trans (if_pos h1))
    · have e : drawnI n = _ := (if_neg h0).trans (if_neg h1)
      obtain ⟨c, x, g1, g2, g3, g4, g5, g6⟩ := great_gap (n.fdiv 3)
      have ec : codeN n = (c : Int) := by unfold codeN; rw [e]; exact g1
      have es : stepN n = (x.2.2 : Int) := by unfold stepN; rw [e]; exact g5
      obtain ⟨k1, k2, k3, k4⟩ := gap_facts g2 g3 g4
      exact ⟨c, c + x.2.2, ec, by rw [ec, es]; omega, by omega, g6, by unfold heldN; rw [ec]; exact held_tables _ (by omega), fun h => by omega, fun _ => ⟨k1, k2, k3, k4⟩⟩

theorem max3_spec (a b c : Int) : (max3I a b c = a ∨ max3I a b c = b ∨ max3I a b c = c) ∧ a ≤ max3I a b c ∧ b ≤ max3I a b c ∧ c ≤ max3I a b c := by
  unfold max3I; split <;> split <;> omega
theorem min3_spec (a b c : Int) : (min3I a b c = a ∨ min3I a b c = b ∨ min3I a b c = c) ∧ min3I a b c ≤ a ∧ min3I a b c ≤ b ∧ min3I a b c ≤ c := by
  unfold min3I; split <;> split <;> omega
theorem max3_uniq {a b c M : Int} (h : M = a ∨ M = b ∨ M = c) (h1 : a ≤ M) (h2 : b ≤ M) (h3 : c ≤ M) : max3I a b c = M := by
  obtain ⟨g, g1, g2, g3⟩ := max3_spec a b c
  generalize max3I a b c = X at *
  have k1 : M ≤ X := by rcases h with rfl | rfl | rfl <;> assumption
  have k2 : X ≤ M := by rcases g with rfl | rfl | rfl <;> assumption
  exact Int.le_antisymm k2 k1
theorem min3_uniq {a b c M : Int} (h : M = a ∨ M = b ∨ M = c) (h1 : M ≤ a) (h2 : M ≤ b) (h3 : M ≤ c) : min3I a b c = M := by
  obtain ⟨g, g1, g2, g3⟩ := min3_spec a b c
  generalize min3I a b c = X at *
  have k1 : X ≤ M := by rcases h with rfl | rfl | rfl <;> assumption
  have k2 : M ≤ X := by rcases g with rfl | rfl | rfl <;> assumption
  exact Int.le_antisymm k1 k2
theorem both_at {r g b M m : Int} (k : M = r ∨ M = g ∨ M = b) (k1 : r ≤ M) (k2 : g ≤ M) (k3 : b ≤ M) (l : m = r ∨ m = g ∨ m = b) (l1 : m ≤ r) (l2 : m ≤ g) (l3 : m ≤ b) :
    max3I (M + m - g) (M + m - b) (M + m - r) + min3I (M + m - g) (M + m - b) (M + m - r) = M + m := by
  rw [max3_uniq (M := M) (by omega) (by omega) (by omega) (by omega), min3_uniq (M := m) (by omega) (by omega) (by omega) (by omega)]
theorem both_turn (p : Col) : bothI (turn1 p) = bothI p := by
  obtain ⟨k, k1, k2, k3⟩ := max3_spec p.1 p.2.1 p.2.2
  obtain ⟨l, l1, l2, l3⟩ := min3_spec p.1 p.2.1 p.2.2
  exact both_at k k1 k2 k3 l l1 l2 l3
theorem turn_in {p : Col} (h : InR p) : InR (turn1 p) := by
  obtain ⟨r, g, b⟩ := p
  obtain ⟨⟨h1, h2⟩, ⟨h3, h4⟩, ⟨h5, h6⟩⟩ := h
  have k1 := max3_spec r g b
  have k2 := min3_spec r g b
  show (0 ≤ max3I r g b + min3I r g b - g ∧ max3I r g b + min3I r g b - g < 128) ∧ (0 ≤ max3I r g b + min3I r g b - b ∧ max3I r g b + min3I r g b - b < 128) ∧ (0 ≤ max3I r g b + min3I r g b - r ∧ max3I r g b + min3I r g b - r < 128)
  simp only at h1 h2 h3 h4 h5 h6
  omega
theorem turnI_add (p : Col) (m : Nat) : ∀ n, turnI (turnI p m) n = turnI p (m + n)
  | 0 => rfl
  | n + 1 => by show turn1 (turnI (turnI p m) n) = turn1 (turnI p (m + n)); rw [turnI_add p m n]
theorem turn6 (p : Col) : turnI p 6 = p := by
  have b1 := both_turn p
  have b2 := both_turn (turn1 p)
  have b3 := both_turn (turn1 (turn1 p))
  have b4 := both_turn (turn1 (turn1 (turn1 p)))
  have b5 := both_turn (turn1 (turn1 (turn1 (turn1 p))))
  show turn1 (turn1 (turn1 (turn1 (turn1 (turn1 p))))) = p
  have t : ∀ q : Col, turn1 q = (bothI q - q.2.1, bothI q - q.2.2, bothI q - q.1) := fun _ => rfl
  rw [t (turn1 (turn1 (turn1 (turn1 (turn1 p))))), b5, b4, b3, b2, b1, t (turn1 (turn1 (turn1 (turn1 p)))), b4, b3, b2, b1, t (turn1 (turn1 (turn1 p))), b3, b2, b1, t (turn1 (turn1 p)), b2, b1, t (turn1 p), b1, t p]
  obtain ⟨r, g, b⟩ := p
  simp only [Prod.mk.injEq]
  omega
theorem all_turns (p : Col) (T : Nat) (h : InR p) (hT : T ≤ 6) : InR (turnI p T) ∧ turnI (turnI p T) (6 - T) = p := by
  refine ⟨?_, by rw [turnI_add, show T + (6 - T) = 6 by omega, turn6]⟩
  clear hT
  induction T with
  | zero => exact h
  | succ T ih => exact turn_in ih
end Mine
end

section
open PySem PySem.Float64
set_option maxRecDepth 100000
namespace Mine
def Fin' (x : UInt64) : Prop := ∃ a m e, decode x = .fin a m e

theorem V_rep : ∀ (k q : Nat), q < 2 ^ 53 → ∃ t, V t = q * 2 ^ k
  | 0, q, h => ⟨q, by have := V_at (k := 0) (q := q) (by omega) (.inr rfl); simpa using this⟩
  | k + 1, q, h => by
    by_cases h2 : 2 ^ 52 ≤ q
    · exact ⟨_, V_at (k := k + 1) (q := q) (by omega) (.inl h2)⟩
    · obtain ⟨t, ht⟩ := V_rep k (2 * q) (by omega)
      exact ⟨t, by rw [ht, Nat.pow_succ, Nat.mul_comm 2 q, Nat.mul_assoc, Nat.mul_comm 2]⟩

theorem right_int {r : UInt64} {neg : Bool} {W D B E : Nat} (h : Right r neg W D) (hD : 0 < D) (hB : B = E + 53) (hB2 : B ≤ 2000) (hW : W < D * 2 ^ B) :
    ∃ t, t < infMag ∧ r = pack neg t ∧ val r = sgn neg (V t) ∧ Fin' r ∧ (∀ t', dist W (D * V t) ≤ dist W (D * V t')) ∧ W ≤ D * V t + D * 2 ^ E ∧ D * V t ≤ W + D * 2 ^ E := by
  obtain ⟨t, hr, hle, hinf, hnear⟩ := h
  have hlt : t < infMag := by
    rcases Nat.lt_or_ge t infMag with h | h
    · exact h
    · exfalso
      have e : t = infMag := by omega
      have h2 := hinf.mp e
      have h3 : D * ((2 ^ 54 - 1) * 2 ^ 2045) = D * 2 ^ B * ((2 ^ 54 - 1) * 2 ^ (2045 - B)) := by
        have : (2 : Nat) ^ 2045 = 2 ^ B * 2 ^ (2045 - B) := by rw [← Nat.pow_add]; congr 1; omega
        rw [this]
        generalize (2 : Nat) ^ B = A
        generalize (2 : Nat) ^ (2045 - B) = B
        ac_rfl
      rw [h3] at h2
      have h4 : 2 ≤ (2 ^ 54 - 1) * 2 ^ (2045 - B) := Nat.le_trans (by decide) (Nat.mul_le_mul_left _ (Nat.two_pow_pos (2045 - B)))
      have h5 : D * 2 ^ B * 2 ≤ D * 2 ^ B * ((2 ^ 54 - 1) * 2 ^ (2045 - B)) := Nat.mul_le_mul_left _ h4
      generalize D * 2 ^ B = X at *
      omega
  obtain ⟨m, e, hd, hv⟩ := decode_pack neg hlt
  refine ⟨t, hlt, hr, by rw [hr]; exact val_pack neg hlt, ⟨neg, m, e, by rw [hr]; exact hd⟩, fun t' => (hnear hlt t').1, ?_⟩
  have hX : 0 < D * 2 ^ E := Nat.mul_pos hD (Nat.two_pow_pos _)
  have hq : W / (D * 2 ^ E) < 2 ^ 53 := by
    rw [Nat.div_lt_iff_lt_mul hX]
    refine Nat.lt_of_lt_of_eq hW ?_
    rw [hB, Nat.pow_add]
    ac_rfl
  obtain ⟨t', ht'⟩ := V_rep E _ hq
  have h1 := (hnear hlt t').1
  rw [ht'] at h1
  have h2 := Nat.div_add_mod W (D * 2 ^ E)
  have h3 := Nat.mod_lt W hX
  have h4 : D * (W / (D * 2 ^ E) * 2 ^ E) = D * 2 ^ E * (W / (D * 2 ^ E)) := by ac_rfl
  rw [h4] at h1
  generalize D * 2 ^ E * (W / (D * 2 ^ E)) = Y at *
  generalize W % (D * 2 ^ E) = Z at *
  generalize D * 2 ^ E = X at *
  generalize D * V t = U at *
  unfold dist at h1
  omega

def K : Nat := 2 ^ 1074
theorem K_pos : 0 < K := Nat.two_pow_pos _
def rv (x : UInt64) : Rat := (val x : Rat) / ((K : Nat) : Rat)
def u : Rat := 1 / 1125899906842624
theorem K_u : ((2 ^ 1024 : Nat) : Rat) = u * ((K : Nat) : Rat) := by
  have : K = 2 ^ 1024 * 1125899906842624 := by unfold K; rw [show (1125899906842624 : Nat) = 2 ^ 50 by decide, ← Nat.pow_add]
  rw [this]
  unfold u
  push_cast
  grind
theorem Kq : (0 : Rat) < ((K : Nat) : Rat) := by exact_mod_cast K_pos
end Mine
end

section
open PySem PySem.Float64
set_option maxRecDepth 100000
set_option exponentiation.threshold 200
set_option linter.unusedVariables false
namespace Mine
theorem u_pos : (0 : Rat) < u := by unfold u; grind
theorem le_div {a b c : Rat} (hc : 0 < c) (h : c * a ≤ c * b) : a ≤ b := Rat.le_of_mul_le_mul_left h hc

theorem mul_cancel {a b c : Rat} (hc : 0 < c) (h : a * c = b * c) : a = b := by
  have h1 : a ≤ b := le_div hc (by grind)
  have h2 : b ≤ a := le_div hc (by grind)
  exact Rat.le_antisymm h1 h2

structure Ap (x : UInt64) (r ε : Rat) : Prop where
  fin : Fin' x
  up : rv x - r ≤ ε
  lo : r - rv x ≤ ε

theorem sgn_rat (neg : Bool) (W : Nat) : ((sgn neg W : Int) : Rat) = (if neg then -1 else 1) * (W : Rat) := by
  unfold sgn; cases neg
  · simp; norm_cast
  · simp [Rat.neg_mul]; norm_cast

theorem right_gen {r : UInt64} {neg : Bool} {W D B E : Nat} {M ε : Rat} (h : Right r neg W D) (hD : 0 < D) (hB : B = E + 53) (hB2 : B ≤ 2000) (hM : ((2 ^ B : Nat) : Rat) = M * ((K : Nat) : Rat)) (hE : ((2 ^ E : Nat) : Rat) = ε * ((K : Nat) : Rat))
    (ρ : Rat) (hρ : ρ * ((D : Rat) * ((K : Nat) : Rat)) = ((sgn neg W : Int) : Rat)) (b1 : -M < ρ) (b2 : ρ < M) :
    Ap r ρ ε ∧ ∃ t, t < infMag ∧ r = pack neg t ∧ val r = sgn neg (V t) ∧ ∀ t', dist W (D * V t) ≤ dist W (D * V t') := by
  have hd : (0 : Rat) < (D : Rat) := by exact_mod_cast hD
  have hk := Kq
  have hdk : (0 : Rat) < (D : Rat) * ((K : Nat) : Rat) := Rat.mul_pos hd hk
  rw [sgn_rat] at hρ
  have hW : W < D * 2 ^ B := by
    have : ((W : Nat) : Rat) < ((D * 2 ^ B : Nat) : Rat) := by
      rw [Rat.natCast_mul, hM]
      have e : (D : Rat) * (M * ((K : Nat) : Rat)) = ((D : Rat) * ((K : Nat) : Rat)) * M := by grind
      rw [e]
      generalize (D : Rat) * ((K : Nat) : Rat) = c at *
      have h1 := (Rat.mul_lt_mul_left hdk).mpr b2
      have h2 := (Rat.mul_lt_mul_left hdk).mpr b1
      cases neg <;> simp at hρ <;> grind
    exact_mod_cast this
  obtain ⟨t, ht, hr, hv, hf, hn, h1, h2⟩ := right_int h hD hB hB2 hW
  refine ⟨?_, t, ht, hr, hv, hn⟩
  have h1' : ((W : Nat) : Rat) ≤ ((D * V t + D * 2 ^ E : Nat) : Rat) := by exact_mod_cast h1
  have h2' : ((D * V t : Nat) : Rat) ≤ ((W + D * 2 ^ E : Nat) : Rat) := by exact_mod_cast h2
  rw [Rat.natCast_add, Rat.natCast_mul, Rat.natCast_mul, hE] at h1'
  rw [Rat.natCast_add, Rat.natCast_mul, Rat.natCast_mul, hE] at h2'
  have hrv : rv r * ((K : Nat) : Rat) = (if neg then -1 else 1) * ((V t : Nat) : Rat) := by
    unfold rv
    rw [Rat.div_mul_cancel (by grind), hv, sgn_rat]
  have key : (D : Rat) * ((K : Nat) : Rat) * rv r = (if neg then -1 else 1) * ((D : Rat) * ((V t : Nat) : Rat)) := by
    have : (D : Rat) * ((K : Nat) : Rat) * rv r = (D : Rat) * (rv r * ((K : Nat) : Rat)) := by grind
    rw [this, hrv]; grind
  refine ⟨hf, le_div hdk ?_, le_div hdk ?_⟩
  · have e : (D : Rat) * ((K : Nat) : Rat) * (rv r - ρ) = (D : Rat) * ((K : Nat) : Rat) * rv r - ρ * ((D : Rat) * ((K : Nat) : Rat)) := by grind
    rw [e, key, hρ]
    have e2 : (D : Rat) * (ε * ((K : Nat) : Rat)) = (D : Rat) * ((K : Nat) : Rat) * ε := by grind
    rw [e2] at h1' h2'
    cases neg <;> simp <;> grind
  · have e : (D : Rat) * ((K : Nat) : Rat) * (ρ - rv r) = ρ * ((D : Rat) * ((K : Nat) : Rat)) - (D : Rat) * ((K : Nat) : Rat) * rv r := by grind
    rw [e, key, hρ]
    have e2 : (D : Rat) * (ε * ((K : Nat) : Rat)) = (D : Rat) * ((K : Nat) : Rat) * ε := by grind
    rw [e2] at h1' h2'
    cases neg <;> simp <;> grind

theorem K8 : ((2 ^ 1077 : Nat) : Rat) = 8 * ((K : Nat) : Rat) := by
  have : 2 ^ 1077 = 8 * K := by unfold K; rw [show (8 : Nat) = 2 ^ 3 by decide, ← Nat.pow_add]
  rw [this]; push_cast; rfl
theorem K41 : ((2 ^ 1115 : Nat) : Rat) = 2199023255552 * ((K : Nat) : Rat) := by
  have : 2 ^ 1115 = 2199023255552 * K := by unfold K; rw [show (2199023255552 : Nat) = 2 ^ 41 by decide, ← Nat.pow_add]
  rw [this]; push_cast; rfl
theorem K12 : ((2 ^ 1062 : Nat) : Rat) = 1 / 4096 * ((K : Nat) : Rat) := by
  have : K = 2 ^ 1062 * 4096 := by unfold K; rw [show (4096 : Nat) = 2 ^ 12 by decide, ← Nat.pow_add]
  rw [this]; push_cast; grind
theorem right_rat {r : UInt64} {neg : Bool} {W D : Nat} (h : Right r neg W D) (hD : 0 < D) (ρ : Rat) (hρ : ρ * ((D : Rat) * ((K : Nat) : Rat)) = ((sgn neg W : Int) : Rat)) (b1 : -8 < ρ) (b2 : ρ < 8) :
    Ap r ρ u ∧ ∃ t, t < infMag ∧ r = pack neg t ∧ val r = sgn neg (V t) ∧ ∀ t', dist W (D * V t) ≤ dist W (D * V t') := right_gen h hD (B := 1077) (E := 1024) rfl (by decide) K8 K_u ρ hρ b1 b2
theorem right_big {r : UInt64} {neg : Bool} {W D : Nat} (h : Right r neg W D) (hD : 0 < D) (ρ : Rat) (hρ : ρ * ((D : Rat) * ((K : Nat) : Rat)) = ((sgn neg W : Int) : Rat)) (b1 : -2199023255552 < ρ) (b2 : ρ < 2199023255552) :
    Ap r ρ (1 / 4096) := (right_gen h hD (B := 1115) (E := 1062) rfl (by decide) K41 K12 ρ hρ b1 b2).1

theorem rv_mul (x : UInt64) : rv x * ((K : Nat) : Rat) = (val x : Rat) := by
  unfold rv; rw [Rat.div_mul_cancel]; have := Kq; grind

theorem fin_zero (a : Bool) : Fin' (zero a) := by
  obtain ⟨m, e, h, _⟩ := decode_pack a (t := 0) (by decide)
  exact ⟨a, m, e, h⟩
theorem val_zero (a : Bool) : val (zero a) = 0 := by
  show val (pack a 0) = 0
  rw [val_pack a (by decide), V_zero]; unfold sgn; cases a <;> simp
theorem rv_zero (a : Bool) : rv (zero a) = 0 := by unfold rv; rw [val_zero]; grind

theorem ap_zero {a : Bool} {ρ : Rat} (h : ρ = 0) : Ap (zero a) ρ u := ⟨fin_zero a, by rw [rv_zero, h]; have := u_pos; grind, by rw [rv_zero, h]; have := u_pos; grind⟩

theorem sgn_abs (z : Int) : sgn (decide (z < 0)) z.natAbs = z := by
  unfold sgn
  by_cases h : z < 0
  · rw [decide_eq_true h]; simp; omega
  · rw [decide_eq_false h]; simp; omega

theorem add0 {x y : UInt64} (hx : Fin' x) (hy : Fin' y) (b1 : -8 < rv x + rv y) (b2 : rv x + rv y < 8) : Ap (add x y) (rv x + rv y) u := by
  obtain ⟨a, m, e, dx⟩ := hx
  obtain ⟨b, k, f, dy⟩ := hy
  obtain ⟨h0, h1⟩ := add_right dx dy
  have ev : (rv x + rv y) * ((K : Nat) : Rat) = ((val x + val y : Int) : Rat) := by
    rw [Rat.intCast_add, ← rv_mul, ← rv_mul]; grind
  by_cases hz : val x + val y = 0
  · rw [h0 hz]
    refine ap_zero ?_
    rw [hz] at ev
    have hk := Kq
    have : (rv x + rv y) * ((K : Nat) : Rat) = 0 := by rw [ev]; rfl
    rcases Rat.mul_eq_zero.mp this with h | h
    · exact h
    · grind
  · refine (right_rat (h1 hz) (by decide) _ ?_ b1 b2).1
    rw [sgn_abs, ← ev]
    push_cast; grind

theorem fin_neg {y : UInt64} (hy : Fin' y) : Fin' (neg y) ∧ rv (neg y) = -rv y := by
  obtain ⟨b, k, f, dy⟩ := hy
  refine ⟨⟨_, _, _, neg_decode dy⟩, ?_⟩
  unfold rv; rw [neg_val dy]; push_cast; grind
theorem sub_eq (x y : UInt64) : sub x y = add x (neg y) := by with_unfolding_all rfl
theorem sub0 {x y : UInt64} (hx : Fin' x) (hy : Fin' y) (b1 : -8 < rv x - rv y) (b2 : rv x - rv y < 8) : Ap (sub x y) (rv x - rv y) u := by
  obtain ⟨h1, h2⟩ := fin_neg hy
  have := add0 hx h1 (by rw [h2]; grind) (by rw [h2]; grind)
  rw [h2] at this
  have e : rv x + -rv y = rv x - rv y := by grind
  rw [e] at this
  rw [sub_eq]; exact this

theorem mul_rat {x y : UInt64} {a b : Bool} {m k : Nat} {e f : Int} (dx : decode x = .fin a m e) (dy : decode y = .fin b k f) : rv x * rv y * (((2 ^ 1074 : Nat) : Rat) * ((K : Nat) : Rat)) = ((sgn (a != b) ((val x).natAbs * (val y).natAbs) : Int) : Rat) := by
  have es : sgn (a != b) ((val x).natAbs * (val y).natAbs) = val x * val y := by
    rw [val_natAbs dx, val_natAbs dy, val_eq dx, val_eq dy]
    generalize m * 2 ^ (e + 1074).toNat = p
    generalize k * 2 ^ (f + 1074).toNat = q
    unfold sgn
    cases a <;> cases b <;> simp [Int.neg_mul, Int.mul_neg]
  rw [es, Rat.intCast_mul, ← rv_mul, ← rv_mul]
  show rv x * rv y * (((K : Nat) : Rat) * ((K : Nat) : Rat)) = _
  grind
theorem mul0 {x y : UInt64} (hx : Fin' x) (hy : Fin' y) (b1 : -8 < rv x * rv y) (b2 : rv x * rv y < 8) : Ap (mul x y) (rv x * rv y) u := by
  obtain ⟨a, m, e, dx⟩ := hx
  obtain ⟨b, k, f, dy⟩ := hy
  exact (right_rat (mul_right dx dy) (Nat.two_pow_pos _) _ (mul_rat dx dy) b1 b2).1
theorem mulB {x y : UInt64} (hx : Fin' x) (hy : Fin' y) (b1 : -2199023255552 < rv x * rv y) (b2 : rv x * rv y < 2199023255552) : Ap (mul x y) (rv x * rv y) (1 / 4096) := by
  obtain ⟨a, m, e, dx⟩ := hx
  obtain ⟨b, k, f, dy⟩ := hy
  exact right_big (mul_right dx dy) (Nat.two_pow_pos _) _ (mul_rat dx dy) b1 b2

theorem div0 {x y : UInt64} (hx : Fin' x) (hy : Fin' y) (hz : rv y ≠ 0) (b1 : -8 < rv x / rv y) (b2 : rv x / rv y < 8) : Ap (div x y) (rv x / rv y) u := by
  obtain ⟨a, m, e, dx⟩ := hx
  obtain ⟨b, k, f, dy⟩ := hy
  have hvy : val y ≠ 0 := fun h => hz (by unfold rv; rw [h]; grind)
  have hk : k ≠ 0 := fun h => hvy (by rw [val_eq dy, h, Nat.zero_mul]; unfold sgn; cases b <;> simp)
  refine (right_rat (div_right dx dy hk) (by omega) _ ?_ b1 b2).1
  have hc := Kq
  have es : ((sgn (a != b) ((val x).natAbs * 2 ^ 1074) : Int) : Rat) * (val y : Rat) = (val x : Rat) * (((val y).natAbs : Nat) : Rat) * ((K : Nat) : Rat) := by
    rw [sgn_rat, val_natAbs dx, val_natAbs dy, val_eq dx, val_eq dy, sgn_rat, sgn_rat, Rat.natCast_mul]
    show _ * (_ * ((K : Nat) : Rat)) * _ = _
    generalize ((m * 2 ^ (e + 1074).toNat : Nat) : Rat) = p
    generalize ((k * 2 ^ (f + 1074).toNat : Nat) : Rat) = q
    cases a <;> cases b <;> simp <;> grind
  have hvr : (val y : Rat) ≠ 0 := fun h => hvy (by exact_mod_cast h)
  have ex := rv_mul x
  have ey := rv_mul y
  have : rv x / rv y * ((((val y).natAbs : Nat) : Rat) * ((K : Nat) : Rat)) * (val y : Rat) = ((sgn (a != b) ((val x).natAbs * 2 ^ 1074) : Int) : Rat) * (val y : Rat) := by
    rw [es, ← ex]
    have e1 : rv x / rv y * ((((val y).natAbs : Nat) : Rat) * ((K : Nat) : Rat)) * (val y : Rat) = rv x / rv y * rv y * ((((val y).natAbs : Nat) : Rat) * ((K : Nat) : Rat)) * ((K : Nat) : Rat) := by
      rw [← ey]; grind
    rw [e1, Rat.div_mul_cancel hz]; grind
  grind
end Mine
end

section
open PySem PySem.Float64
set_option maxRecDepth 100000
set_option linter.unusedVariables false
set_option exponentiation.threshold 200
namespace Mine
/-! sums and products of numbers nearly known -/
theorem Ap.weak {x : UInt64} {r ε δ : Rat} (a : Ap x r ε) (h : ε ≤ δ) : Ap x r δ := ⟨a.fin, by have := a.up; grind, by have := a.lo; grind⟩
theorem Ap.eq {x : UInt64} {r s ε : Rat} (a : Ap x r ε) (h : r = s) : Ap x s ε := h ▸ a

theorem ap_add {x y : UInt64} {r s ε δ : Rat} (a : Ap x r ε) (b : Ap y s δ) (h1 : -7 ≤ r + s) (h2 : r + s ≤ 7) (h3 : ε + δ ≤ 1 / 2) : Ap (add x y) (r + s) (ε + δ + u) := by
  have a1 := a.up; have a2 := a.lo; have b1 := b.up; have b2 := b.lo
  have c := add0 a.fin b.fin (by grind) (by grind)
  have c1 := c.up; have c2 := c.lo
  exact ⟨c.fin, by grind, by grind⟩
theorem ap_sub {x y : UInt64} {r s ε δ : Rat} (a : Ap x r ε) (b : Ap y s δ) (h1 : -7 ≤ r - s) (h2 : r - s ≤ 7) (h3 : ε + δ ≤ 1 / 2) : Ap (sub x y) (r - s) (ε + δ + u) := by
  have a1 := a.up; have a2 := a.lo; have b1 := b.up; have b2 := b.lo
  have c := sub0 a.fin b.fin (by grind) (by grind)
  have c1 := c.up; have c2 := c.lo
  exact ⟨c.fin, by grind, by grind⟩

theorem prod_le {p q P Q : Rat} (h1 : -P ≤ p) (h2 : p ≤ P) (h3 : -Q ≤ q) (h4 : q ≤ Q) : -(P * Q) ≤ p * q ∧ p * q ≤ P * Q := by
  have a := Rat.mul_nonneg (show 0 ≤ P - p by grind) (show 0 ≤ Q + q by grind)
  have b := Rat.mul_nonneg (show 0 ≤ P + p by grind) (show 0 ≤ Q - q by grind)
  have c := Rat.mul_nonneg (show 0 ≤ P - p by grind) (show 0 ≤ Q - q by grind)
  have d := Rat.mul_nonneg (show 0 ≤ P + p by grind) (show 0 ≤ Q + q by grind)
  constructor <;> grind
theorem prod_near {x y r s ε δ a b : Rat} (hx1 : x - r ≤ ε) (hx2 : r - x ≤ ε) (hy1 : y - s ≤ δ) (hy2 : s - y ≤ δ) (r1 : -a ≤ r) (r2 : r ≤ a) (s1 : -b ≤ s) (s2 : s ≤ b) :
    x * y - r * s ≤ (a + ε) * δ + b * ε ∧ r * s - x * y ≤ (a + ε) * δ + b * ε := by
  have p1 := prod_le (p := x) (q := y - s) (P := a + ε) (Q := δ) (by grind) (by grind) (by grind) (by grind)
  have p2 := prod_le (p := x - r) (q := s) (P := ε) (Q := b) (by grind) (by grind) (by grind) (by grind)
  constructor <;> grind
theorem ap_mul {x y : UInt64} {r s ε δ a b : Rat} (hx : Ap x r ε) (hy : Ap y s δ) (r1 : -a ≤ r) (r2 : r ≤ a) (s1 : -b ≤ s) (s2 : s ≤ b) (hab : a * b ≤ 7) (he : (a + ε) * δ + b * ε ≤ 1 / 2) : Ap (mul x y) (r * s) ((a + ε) * δ + b * ε + u) := by
  obtain ⟨n1, n2⟩ := prod_near hx.up hx.lo hy.up hy.lo r1 r2 s1 s2
  obtain ⟨m1, m2⟩ := prod_le r1 r2 s1 s2
  have c := mul0 hx.fin hy.fin (by grind) (by grind)
  have c1 := c.up; have c2 := c.lo
  exact ⟨c.fin, by grind, by grind⟩

/-! whole numbers of parts of 256 -/
structure Ex (x : UInt64) (n : Int) : Prop where
  fin : Fin' x
  val : val x = n * 2 ^ 1066

theorem Ex.rv {x : UInt64} {n : Int} (h : Ex x n) : rv x = (n : Rat) / 256 := by
  unfold Mine.rv
  rw [h.val]
  have e : ((K : Nat) : Rat) = 256 * ((2 ^ 1066 : Nat) : Rat) := by
    have : K = 256 * 2 ^ 1066 := by unfold K; rw [show (256 : Nat) = 2 ^ 8 by decide, ← Nat.pow_add]
    rw [this]; push_cast; rfl
  have hp : (0 : Rat) < ((2 ^ 1066 : Nat) : Rat) := by exact_mod_cast Nat.two_pow_pos 1066
  rw [e]
  have e2 : (((n * 2 ^ 1066 : Int)) : Rat) = (n : Rat) * ((2 ^ 1066 : Nat) : Rat) := by push_cast; rfl
  rw [e2]
  generalize ((2 ^ 1066 : Nat) : Rat) = c at *
  have : (n : Rat) * c / (256 * c) * (256 * c) = (n : Rat) / 256 * (256 * c) := by
    rw [Rat.div_mul_cancel (by grind)]; grind
  grind
theorem Ex.ap {x : UInt64} {n : Int} (h : Ex x n) : Ap x ((n : Rat) / 256) 0 := ⟨h.fin, by rw [h.rv]; grind, by rw [h.rv]; grind⟩

theorem right_exact {r : UInt64} {neg : Bool} {W : Nat} {q k : Nat} (h : Right r neg W 1) (hq : q < 2 ^ 53) (hk : k ≤ 1500) (e : W = q * 2 ^ k) : Fin' r ∧ Float64.val r = sgn neg W := by
  have hW : W < 1 * 2 ^ (1500 + 53) := by
    rw [e, Nat.one_mul]
    refine Nat.lt_of_lt_of_le (Nat.mul_lt_mul_of_pos_right hq (Nat.two_pow_pos k)) ?_
    rw [← Nat.pow_add]
    exact Nat.pow_le_pow_right (by decide) (by omega)
  obtain ⟨t, ht, hr, hv, hf, hn, _, _⟩ := right_int h (by decide) (B := 1500 + 53) (E := 1500) rfl (by decide) hW
  obtain ⟨t', ht'⟩ := V_rep k q hq
  have h1 := hn t'
  rw [ht', ← e, Nat.one_mul, Nat.one_mul] at h1
  refine ⟨hf, ?_⟩
  rw [hv]
  have h2 : dist W W = 0 := by unfold dist; omega
  rw [h2] at h1
  unfold dist at h1
  have : V t = W := by omega
  rw [this]

theorem Int.natAbs_mul_pow (n : Int) (k : Nat) : (n * 2 ^ k).natAbs = n.natAbs * 2 ^ k := by rw [Int.natAbs_mul, Int.natAbs_pow]; rfl

theorem ex_add {x y : UInt64} {m n : Int} (hx : Ex x m) (hy : Ex y n) (hb : (m + n).natAbs < 2 ^ 53) : Ex (add x y) (m + n) := by
  obtain ⟨a, p, e, dx⟩ := hx.fin
  obtain ⟨b, q, f, dy⟩ := hy.fin
  obtain ⟨h0, h1⟩ := add_right dx dy
  have ev : Float64.val x + Float64.val y = (m + n) * 2 ^ 1066 := by rw [hx.val, hy.val, Int.add_mul]
  by_cases hz : Float64.val x + Float64.val y = 0
  · rw [h0 hz]
    exact ⟨fin_zero _, by rw [val_zero, ← ev, hz]⟩
  · have R := h1 hz
    obtain ⟨hf, hv⟩ := right_exact R hb (k := 1066) (by decide) (by rw [ev, Int.natAbs_mul_pow])
    exact ⟨hf, by rw [hv, sgn_abs, ev]⟩
theorem ex_neg {y : UInt64} {n : Int} (hy : Ex y n) : Ex (neg y) (-n) := by
  obtain ⟨b, q, f, dy⟩ := hy.fin
  exact ⟨⟨_, _, _, neg_decode dy⟩, by rw [neg_val dy, hy.val, Int.neg_mul]⟩
theorem ex_sub {x y : UInt64} {m n : Int} (hx : Ex x m) (hy : Ex y n) (hb : (m - n).natAbs < 2 ^ 53) : Ex (sub x y) (m - n) := by
  have := ex_add hx (ex_neg hy) (by rw [← Int.sub_eq_add_neg]; exact hb)
  rw [← Int.sub_eq_add_neg] at this
  rw [sub_eq]; exact this

theorem ex_c128 {n : Int} (h0 : 0 ≤ n) (h1 : n < 256) : Ex (c128 n) (2 * n) := by
  have hneg : (decide (n < 0) != decide ((128 : Int) < 0)) = false := by rw [decide_eq_false (by omega)]; rfl
  have R : Right (c128 n) false (n.natAbs * 2 ^ 1067) 1 := by
    unfold c128
    rw [hneg]
    refine ofFrac_right (by decide) ?_ (by decide)
    show n.natAbs * 2 ^ 1074 * 1 = n.natAbs * 2 ^ 1067 * 128
    rw [show (2 : Nat) ^ 1074 = 2 ^ 1067 * 128 by rw [show (128 : Nat) = 2 ^ 7 by decide, ← Nat.pow_add]]
    ac_rfl
  obtain ⟨hf, hv⟩ := right_exact R (q := n.natAbs) (by omega) (k := 1067) (by decide) rfl
  refine ⟨hf, ?_⟩
  rw [hv]
  unfold sgn
  simp only [Bool.false_eq_true, if_false]
  have e : ((n.natAbs * 2 ^ 1067 : Nat) : Int) = n * 2 ^ 1067 := by push_cast; rw [Int.natAbs_of_nonneg h0]
  rw [e, show (2 : Int) ^ 1067 = 2 * 2 ^ 1066 by rw [Int.pow_succ, Int.mul_comm], ← Int.mul_assoc, Int.mul_comm n 2]

/-! comparisons -/
theorem cmp_val {x y : UInt64} (hx : Fin' x) (hy : Fin' y) : cmp x y = some (compare (Float64.val x) (Float64.val y)) := by
  obtain ⟨a, p, e, dx⟩ := hx
  obtain ⟨b, q, f, dy⟩ := hy
  exact cmp_right dx dy
theorem lt_val {x y : UInt64} (hx : Fin' x) (hy : Fin' y) : (cmp x y == some .lt) = decide (Float64.val x < Float64.val y) := by
  rw [cmp_val hx hy, Bool.eq_iff_iff, beq_iff_eq, decide_eq_true_eq, Option.some_inj, Int.compare_eq_lt]
theorem eq_val {x y : UInt64} (hx : Fin' x) (hy : Fin' y) : (cmp x y == some .eq) = decide (Float64.val x = Float64.val y) := by
  rw [cmp_val hx hy, Bool.eq_iff_iff, beq_iff_eq, decide_eq_true_eq, Option.some_inj, Int.compare_eq_eq]
theorem pow_pos' (k : Nat) : (0 : Int) < 2 ^ k := by
  have : ((2 ^ k : Nat) : Int) = (2 : Int) ^ k := by push_cast; rfl
  rw [← this]; exact Int.ofNat_lt.mpr (Nat.two_pow_pos k)
theorem ex_lt {x y : UInt64} {m n : Int} (hx : Ex x m) (hy : Ex y n) : (cmp x y == some .lt) = decide (m < n) := by
  rw [lt_val hx.fin hy.fin, hx.val, hy.val]
  have := pow_pos' 1066
  generalize (2 : Int) ^ 1066 = c at *
  exact decide_eq_decide.mpr ⟨fun h => Int.lt_of_mul_lt_mul_right h (Int.le_of_lt this), fun h => Int.mul_lt_mul_of_pos_right h this⟩
theorem ex_eq {x y : UInt64} {m n : Int} (hx : Ex x m) (hy : Ex y n) : (cmp x y == some .eq) = decide (m = n) := by
  rw [eq_val hx.fin hy.fin, hx.val, hy.val]
  have := pow_pos' 1066
  generalize (2 : Int) ^ 1066 = c at *
  exact decide_eq_decide.mpr ⟨fun h => Int.eq_of_mul_eq_mul_right (by omega) h, fun h => by rw [h]⟩
theorem rv_lt {x y : UInt64} (hx : Fin' x) (hy : Fin' y) : (cmp x y == some .lt) = true ↔ rv x < rv y := by
  rw [lt_val hx hy, decide_eq_true_eq]
  have ex := rv_mul x; have ey := rv_mul y
  have hk := Kq
  rw [Rat.mul_comm] at ex ey
  constructor
  · intro h
    have : (Float64.val x : Rat) < (Float64.val y : Rat) := by exact_mod_cast h
    rw [← ex, ← ey] at this
    exact (Rat.mul_lt_mul_left hk).mp this
  · intro h
    have := (Rat.mul_lt_mul_left hk).mpr h
    rw [ex, ey] at this
    exact_mod_cast this

theorem ex_max {a b c : UInt64} {l m n : Int} (ha : Ex a l) (hb : Ex b m) (hc : Ex c n) : Ex (max3F a b c) (max3I l m n) := by
  unfold max3F max3I ltF
  rw [ex_lt ha hb, ex_lt hb hc, ex_lt ha hc]
  simp only [decide_eq_true_eq]
  repeat' split
  all_goals assumption
theorem ex_min {a b c : UInt64} {l m n : Int} (ha : Ex a l) (hb : Ex b m) (hc : Ex c n) : Ex (min3F a b c) (min3I l m n) := by
  unfold min3F min3I ltF
  rw [ex_lt hb ha, ex_lt hc hb, ex_lt hc ha]
  simp only [decide_eq_true_eq]
  repeat' split
  all_goals assumption
theorem isZero_val {x : UInt64} (hx : Fin' x) : isZero x = decide (Float64.val x = 0) := by
  obtain ⟨a, m, e, dx⟩ := hx
  have hp := Nat.two_pow_pos (e + 1074).toNat
  unfold isZero
  rw [dx, val_eq dx]
  cases m with
  | zero => unfold sgn; cases a <;> simp
  | succ m =>
    simp only
    rw [eq_comm, decide_eq_false_iff_not]
    intro h
    have := congrArg Int.natAbs h
    rw [sgn_natAbs] at this
    have h2 : 0 < (m + 1) * 2 ^ (e + 1074).toNat := Nat.mul_pos (by omega) hp
    exact absurd (show (m + 1) * 2 ^ (e + 1074).toNat = 0 by simpa using this) (Nat.ne_of_gt h2)
end Mine
end

section
open PySem PySem.Float64
set_option maxRecDepth 100000
set_option linter.unusedVariables false
set_option exponentiation.threshold 200
namespace Mine
theorem decode_lt {x : UInt64} {a : Bool} {m : Nat} {e : Int} (h : decode x = .fin a m e) : m < 2 ^ 53 := by
  unfold decode at h
  simp only at h
  split at h
  · split at h <;> cases h
  · split at h
    · cases h; omega
    · cases h; omega

abbrev one1 : UInt64 := 0x3ff0000000000000
theorem decode_one : decode one1 = .fin false (2 ^ 52) (-52) := by
  with_unfolding_all rfl
theorem val_one : Float64.val one1 = (K : Int) := by
  rw [val_eq decode_one]
  unfold sgn K
  simp only [Bool.false_eq_true, if_false]
  have : (2 : Nat) ^ 52 * 2 ^ (-52 + 1074 : Int).toNat = 2 ^ 1074 := by
    rw [show (-52 + 1074 : Int).toNat = 1022 by decide, ← Nat.pow_add]
  rw [this]
theorem fin_one : Fin' one1 := ⟨_, _, _, decode_one⟩

theorem fmod_one {x : UInt64} (hx : Fin' x) : Fin' (fmod x one1) ∧ ∃ a, Float64.val x = sgn a (Float64.val x).natAbs ∧ Float64.val (fmod x one1) = sgn a ((Float64.val x).natAbs % K) := by
  obtain ⟨a, m, e, dx⟩ := hx
  have he := decode_ge dx
  have hm := decode_lt dx
  have hfm : fmod x one1 = ofBin a (m * 2 ^ (e - min e (-52)).toNat % (2 ^ 52 * 2 ^ (-52 - min e (-52)).toNat)) (min e (-52)) := by
    unfold fmod
    rw [dx, decode_one]
    show (if (2 ^ 52 : Nat) == 0 then _ else ofBin a (((m * 2 ^ (e - min e (-52)).toNat : Nat) : Int).toNat % ((2 ^ 52 * 2 ^ (-52 - min e (-52)).toNat : Nat) : Int).toNat) (min e (-52))) = _
    rw [if_neg (by decide), Int.toNat_natCast, Int.toNat_natCast]
  have hg : -1074 ≤ min e (-52) := by omega
  generalize hgg : min e (-52) = g at *
  have hN : m * 2 ^ (e - g).toNat % (2 ^ 52 * 2 ^ (-52 - g).toNat) < 2 ^ 53 := by
    rcases Int.le_total e (-52) with h | h
    · have e1 : (e - g).toNat = 0 := by omega
      rw [e1, Nat.pow_zero, Nat.mul_one]
      exact Nat.lt_of_le_of_lt (Nat.mod_le _ _) hm
    · have e1 : (-52 - g).toNat = 0 := by omega
      rw [e1, Nat.pow_zero, Nat.mul_one]
      exact Nat.lt_trans (Nat.mod_lt _ (by decide)) (by decide)
  have eW : m * 2 ^ (e - g).toNat % (2 ^ 52 * 2 ^ (-52 - g).toNat) * 2 ^ (g + 1074).toNat = (Float64.val x).natAbs % K := by
    rw [val_natAbs dx]
    have e1 : 2 ^ (e + 1074).toNat = 2 ^ (e - g).toNat * 2 ^ (g + 1074).toNat := by rw [← Nat.pow_add]; congr 1; omega
    have e2 : K = 2 ^ 52 * 2 ^ (-52 - g).toNat * 2 ^ (g + 1074).toNat := by unfold K; rw [Nat.mul_assoc, ← Nat.pow_add, ← Nat.pow_add]; congr 1; omega
    rw [e1, e2, ← Nat.mul_assoc, Nat.mul_mod_mul_right]
  generalize m * 2 ^ (e - g).toNat % (2 ^ 52 * 2 ^ (-52 - g).toNat) = N at *
  have R : Right (fmod x one1) a (N * 2 ^ (g + 1074).toNat) 1 := by
    rw [hfm]
    unfold ofBin
    refine ofFrac_right (shift_pos _ _ _ (by decide)) ?_ (by decide)
    have := shift_one N g 1074 (by omega)
    rw [Nat.mul_one]
    exact this
  obtain ⟨hf, hv⟩ := right_exact R hN (k := (g + 1074).toNat) (by omega) rfl
  exact ⟨hf, a, by rw [val_natAbs dx]; exact val_eq dx, by rw [hv, eW]⟩

theorem divmod_snd (x y : UInt64) : (divmod x y).2 = if isZero (fmod x y) then copysign (zero false) y else if lt y (zero false) != lt (fmod x y) (zero false) then add (fmod x y) y else fmod x y := by
  unfold divmod
  simp only
  split
  · rfl
  · split <;> rfl

theorem Vone : ∃ t, V t = K := by
  obtain ⟨t, h⟩ := V_rep 1074 1 (by decide)
  exact ⟨t, by rw [h, Nat.one_mul]; rfl⟩

theorem mod1_near {x : UInt64} (hx : Fin' x) : ∃ n : Int, Ap ((divmod x one1).2) (rv x - n) u ∧ 0 ≤ rv ((divmod x one1).2) ∧ rv ((divmod x one1).2) ≤ 1 := by
  obtain ⟨hf, a, hv, hm⟩ := fmod_one hx
  have hk := Kq
  have hK := K_pos
  have hu := u_pos
  have hz := isZero_val hf
  have hrx := rv_mul x
  have hrf := rv_mul (fmod x one1)
  have hlt1 : lt one1 (zero false) = false := by unfold lt; rw [lt_val fin_one (fin_zero _), val_zero, val_one]; exact decide_eq_false (by omega)
  have hlt2 : lt (fmod x one1) (zero false) = decide (Float64.val (fmod x one1) < 0) := by unfold lt; rw [lt_val hf (fin_zero _), val_zero]
  rw [divmod_snd, hz, hlt1, hlt2]
  -- the value is q * K + f
  have hq : ∃ q : Int, Float64.val x = q * K + Float64.val (fmod x one1) := by
    have := Nat.div_add_mod (Float64.val x).natAbs K
    rw [hm]
    cases a with
    | false =>
      refine ⟨((Float64.val x).natAbs / K : Nat), ?_⟩
      rw [hv]
      unfold sgn
      simp only [Bool.false_eq_true, if_false]
      rw [← Int.natCast_mul, ← Int.natCast_add, Nat.mul_comm]
      exact congrArg Int.ofNat (by simpa using this.symm)
    | true =>
      refine ⟨-((Float64.val x).natAbs / K : Nat), ?_⟩
      rw [hv]
      unfold sgn
      simp only [if_true]
      rw [Int.neg_mul, ← Int.neg_add, ← Int.natCast_mul, ← Int.natCast_add, Nat.mul_comm]
      congr 1
      exact congrArg Int.ofNat (by simpa using this.symm)
  obtain ⟨q, hq⟩ := hq
  have hqr : rv x = (q : Rat) + rv (fmod x one1) := by
    have h1 : rv x * ((K : Nat) : Rat) = ((q : Rat) + rv (fmod x one1)) * ((K : Nat) : Rat) := by
      rw [hrx, hq, Rat.intCast_add, Rat.intCast_mul, ← hrf]
      have : (((K : Nat) : Int) : Rat) = ((K : Nat) : Rat) := by norm_cast
      rw [this]; grind
    exact mul_cancel hk h1
  have hmod := Nat.mod_lt (Float64.val x).natAbs hK
  have hfb : Float64.val (fmod x one1) < K ∧ -(K : Int) < Float64.val (fmod x one1) := by
    rw [hm]; unfold sgn; cases a <;> simp <;> omega
  generalize fmod x one1 = f at *
  have rone : rv one1 = 1 := by unfold rv; rw [val_one]; have : (((K : Nat) : Int) : Rat) = ((K : Nat) : Rat) := by norm_cast
                                rw [this]; grind
  have up : rv f < 1 := by
    have : (Float64.val f : Rat) < ((K : Nat) : Rat) := by
      have h : Float64.val f < ((K : Nat) : Int) := hfb.1
      exact_mod_cast h
    rw [← hrf] at this
    have h2 : ((K : Nat) : Rat) * rv f < ((K : Nat) : Rat) * 1 := by grind
    exact (Rat.mul_lt_mul_left hk).mp h2
  have dn : -1 < rv f := by
    have : -((K : Nat) : Rat) < (Float64.val f : Rat) := by
      have h := Rat.intCast_lt_intCast.mpr hfb.2
      rw [Rat.intCast_neg, Rat.intCast_natCast] at h
      exact h
    rw [← hrf] at this
    have h2 : ((K : Nat) : Rat) * (-1) < ((K : Nat) : Rat) * rv f := by grind
    exact (Rat.mul_lt_mul_left hk).mp h2
  by_cases h0 : Float64.val f = 0
  · rw [decide_eq_true h0, if_pos rfl]
    have e : copysign (zero false) one1 = zero false := by decide +kernel
    have rf : rv f = 0 := by unfold rv; rw [h0]; grind
    rw [e]
    exact ⟨q, ap_zero (by rw [hqr, rf]; grind), by rw [rv_zero]; exact Rat.le_refl, by rw [rv_zero]; decide⟩
  · rw [decide_eq_false h0, if_neg (by decide)]
    by_cases h1 : Float64.val f < 0
    · rw [decide_eq_true h1, if_pos (by decide)]
      have rneg : rv f < 0 := by
        have : (Float64.val f : Rat) < 0 := by exact_mod_cast h1
        rw [← hrf] at this
        have h2 : ((K : Nat) : Rat) * rv f < ((K : Nat) : Rat) * 0 := by grind
        exact (Rat.mul_lt_mul_left hk).mp h2
      have A := add0 hf fin_one (by rw [rone]; grind) (by rw [rone]; grind)
      rw [rone] at A
      refine ⟨q - 1, A.eq (by rw [hqr]; push_cast; grind), ?_⟩
      -- the sum is right: it lies in 0..1
      obtain ⟨b, m', e', df⟩ := hf
      obtain ⟨_, R⟩ := add_right df decode_one
      rw [val_one] at R
      have hs : Float64.val f + (K : Int) ≠ 0 := by omega
      have R := R hs
      have hneg : decide (Float64.val f + (K : Int) < 0) = false := decide_eq_false (by omega)
      rw [hneg] at R
      have hWlt : (Float64.val f + (K : Int)).natAbs < K := by omega
      obtain ⟨t, ht, hr, hvv, hff, hn, _, _⟩ := right_int R (by decide) (B := 1077) (E := 1024) rfl (by decide) (by
        refine Nat.lt_trans hWlt ?_
        show 2 ^ 1074 < 1 * 2 ^ 1077
        rw [Nat.one_mul]
        exact Nat.pow_lt_pow_right (by decide) (by decide))
      obtain ⟨t1, h1'⟩ := Vone
      have hn1 := hn t1
      rw [h1', Nat.one_mul, Nat.one_mul] at hn1
      have hVt : V t ≤ K := by unfold dist at hn1; omega
      have hval : Float64.val (add f one1) = (V t : Int) := by rw [hvv]; unfold sgn; simp
      constructor
      · have h3 : (0 : Rat) ≤ (Float64.val (add f one1) : Rat) := by rw [hval]; exact_mod_cast Nat.zero_le _
        rw [← rv_mul] at h3
        refine le_div hk ?_
        grind
      · have h3 : (Float64.val (add f one1) : Rat) ≤ ((K : Nat) : Rat) := by rw [hval]; exact_mod_cast hVt
        rw [← rv_mul] at h3
        refine le_div hk ?_
        grind
    · rw [decide_eq_false h1, if_neg (by decide)]
      refine ⟨q, ⟨hf, by rw [hqr]; grind, by rw [hqr]; grind⟩, ?_, by grind⟩
      have h3 : (0 : Rat) ≤ (Float64.val f : Rat) := by
        have : (0 : Int) ≤ Float64.val f := by omega
        exact_mod_cast this
      rw [← hrf] at h3
      refine le_div hk ?_
      grind
end Mine
end

section
open PySem PySem.Float64
set_option maxRecDepth 100000
set_option linter.unusedVariables false
set_option exponentiation.threshold 200
namespace Mine
theorem intK : (((K : Nat) : Int) : Rat) = ((K : Nat) : Rat) := Rat.intCast_natCast K

theorem trunc_near {x : UInt64} (hx : Fin' x) (h0 : 0 ≤ rv x) : ((PySem.Flt.toInt truncOf x : Int) : Rat) ≤ rv x ∧ rv x < ((PySem.Flt.toInt truncOf x : Int) : Rat) + 1 ∧ 0 ≤ PySem.Flt.toInt truncOf x := by
  obtain ⟨a, m, e, dx⟩ := hx
  have he := decode_ge dx
  rw [PySem.Flt.toInt_fin dx]
  have hk := Kq
  have hv := val_eq dx
  have hr := rv_mul x
  have hnn : 0 ≤ Float64.val x := by
    have h1 : (0 : Rat) ≤ (Float64.val x : Rat) := by rw [← hr]; exact Rat.mul_nonneg h0 (by grind)
    exact_mod_cast h1
  have key : ∀ i : Int, i * (K : Int) ≤ Float64.val x → Float64.val x < (i + 1) * (K : Int) → ((i : Int) : Rat) ≤ rv x ∧ rv x < ((i : Int) : Rat) + 1 := by
    intro i h1 h2
    have h1' := Rat.intCast_le_intCast.mpr h1
    have h2' := Rat.intCast_lt_intCast.mpr h2
    rw [Rat.intCast_mul, intK, ← hr] at h1'
    rw [Rat.intCast_mul, intK, ← hr, Rat.intCast_add] at h2'
    refine ⟨le_div hk (by grind), (Rat.mul_lt_mul_left hk).mp ?_⟩
    have : ((1 : Int) : Rat) = 1 := rfl
    rw [this] at h2'
    grind
  by_cases hm : m = 0
  · subst hm
    have hz : Float64.val x = 0 := by rw [hv, Nat.zero_mul]; unfold sgn; cases a <;> simp
    have ht : truncOf a 0 e = 0 := by
      unfold truncOf ceilOf floorOf sgn
      cases a <;> simp
    rw [ht]
    have hK := K_pos
    obtain ⟨k1, k2⟩ := key 0 (by omega) (by omega)
    exact ⟨k1, k2, by omega⟩
  · have ha : a = false := by
      cases a with
      | false => rfl
      | true =>
        exfalso
        have hp := Nat.two_pow_pos (e + 1074).toNat
        have : 0 < m * 2 ^ (e + 1074).toNat := Nat.mul_pos (by omega) hp
        rw [hv] at hnn
        unfold sgn at hnn
        simp only [if_true] at hnn
        generalize m * 2 ^ (e + 1074).toNat = z at *
        omega
    subst ha
    have hv' : Float64.val x = ((m * 2 ^ (e + 1074).toNat : Nat) : Int) := by rw [hv]; rfl
    unfold truncOf
    simp only [Bool.false_eq_true, if_false]
    unfold floorOf sgn
    simp only [Bool.false_eq_true, if_false]
    by_cases hge : e ≥ 0
    · rw [if_pos hge]
      have e1 : (m : Int) * 2 ^ e.toNat * (K : Int) = Float64.val x := by
        rw [hv']
        have : (e + 1074).toNat = e.toNat + 1074 := by omega
        rw [this, Nat.pow_add]
        unfold K
        push_cast
        rw [Int.mul_assoc]
      have hK := K_pos
      obtain ⟨k1, k2⟩ := key ((m : Int) * 2 ^ e.toNat) (by omega) (by rw [Int.add_mul, e1]; omega)
      refine ⟨k1, k2, Int.mul_nonneg (by omega) (Int.le_of_lt (pow_pos' _))⟩
    · rw [if_neg hge]
      have ep : ((2 : Int) ^ (-e).toNat) = ((2 ^ (-e).toNat : Nat) : Int) := by push_cast; rfl
      have hpp := Nat.two_pow_pos (-e).toNat
      rw [ep, Int.fdiv_eq_ediv_of_nonneg _ (by omega), ← Int.natCast_ediv]
      have e2 : K = 2 ^ (-e).toNat * 2 ^ (e + 1074).toNat := by unfold K; rw [← Nat.pow_add]; congr 1; omega
      have hc := Nat.two_pow_pos (e + 1074).toNat
      have d1 := Nat.div_mul_le_self m (2 ^ (-e).toNat)
      have d2 : m < (m / 2 ^ (-e).toNat + 1) * 2 ^ (-e).toNat := by
        have := Nat.lt_mul_div_succ m hpp
        rw [Nat.mul_comm]; exact this
      generalize 2 ^ (-e).toNat = P at *
      generalize 2 ^ (e + 1074).toNat = C at *
      generalize m / P = i at *
      obtain ⟨k1, k2⟩ := key (i : Int) (by
        rw [hv', e2, ← Int.natCast_mul]
        exact Int.ofNat_le.mpr (by rw [← Nat.mul_assoc]; exact Nat.mul_le_mul_right C d1)) (by
        rw [hv', e2]
        have : ((i : Int) + 1) * ((P * C : Nat) : Int) = (((i + 1) * P * C : Nat) : Int) := by push_cast; rw [Int.mul_assoc]
        rw [this]
        exact Int.ofNat_lt.mpr (Nat.mul_lt_mul_of_pos_right d2 hc))
      exact ⟨k1, k2, by omega⟩

theorem nearest_int {y : UInt64} {a : Bool} {m : Nat} {e : Int} {N : Int} (dy : decode y = .fin a m e) (h : 2 * (Float64.val y - N * (K : Int)).natAbs < K) : nearestOf a m e = N := by
  have he := decode_ge dy
  have hv := val_eq dy
  have hva := val_natAbs dy
  have hs := shift_one m e 1074 (by omega)
  have hd := shift_pos m 1 e (by decide)
  unfold nearestOf
  show sgn a (halfEven (shift m 1 e).1 (shift m 1 e).2) = N
  have hs' : (shift m 1 e).1 * K = (Float64.val y).natAbs * (shift m 1 e).2 := by rw [hva]; exact hs
  have hn := halfEven_nearest (shift m 1 e).1 (shift m 1 e).2 hd
  generalize (shift m 1 e).1 = n at *
  generalize (shift m 1 e).2 = d at *
  generalize halfEven n d = h0 at *
  have hK := K_pos
  -- the absolute value
  have hj := hn N.natAbs
  have dabs : 2 * dist (Float64.val y).natAbs (N.natAbs * K) < K := by
    have e1 : (N * (K : Int)).natAbs = N.natAbs * K := by rw [Int.natAbs_mul]; rfl
    have : dist (Float64.val y).natAbs (N * (K : Int)).natAbs ≤ (Float64.val y - N * (K : Int)).natAbs := by unfold dist; omega
    rw [e1] at this
    omega
  have sc : K * dist n (d * N.natAbs) = d * dist (Float64.val y).natAbs (N.natAbs * K) := by
    rw [← dist_mul, ← dist_mul, Nat.mul_comm K n, hs']
    congr 1
    · exact Nat.mul_comm _ _
    · ac_rfl
  have lt1 : 2 * dist n (d * N.natAbs) < d := by
    refine Nat.lt_of_mul_lt_mul_left (a := K) ?_
    have : K * (2 * dist n (d * N.natAbs)) = d * (2 * dist (Float64.val y).natAbs (N.natAbs * K)) := by
      rw [Nat.mul_left_comm, sc, Nat.mul_left_comm]
    rw [this, Nat.mul_comm K d]
    exact Nat.mul_lt_mul_of_pos_left dabs hd
  have eh : h0 = N.natAbs := by
    rcases Nat.lt_trichotomy h0 N.natAbs with hl | hl | hl
    · exfalso
      have : d * (h0 + 1) ≤ d * N.natAbs := Nat.mul_le_mul_left d hl
      rw [Nat.mul_add, Nat.mul_one] at this
      unfold dist at *
      omega
    · exact hl
    · exfalso
      have : d * (N.natAbs + 1) ≤ d * h0 := Nat.mul_le_mul_left d hl
      rw [Nat.mul_add, Nat.mul_one] at this
      unfold dist at *
      omega
  rw [eh]
  -- the sign
  unfold sgn
  cases a with
  | false =>
    simp only [Bool.false_eq_true, if_false]
    rcases Int.le_total 0 N with h1 | h1
    · omega
    · by_cases h2 : N = 0
      · omega
      · exfalso
        have hv' : 0 ≤ Float64.val y := by rw [hv]; unfold sgn; simp only [Bool.false_eq_true, if_false]; exact Int.natCast_nonneg _
        have h3 : N * (K : Int) ≤ -1 * (K : Int) := Int.mul_le_mul_of_nonneg_right (by omega) (by omega)
        omega
  | true =>
    simp only [if_true]
    rcases Int.le_total N 0 with h1 | h1
    · omega
    · by_cases h2 : N = 0
      · omega
      · exfalso
        have hv' : Float64.val y ≤ 0 := by rw [hv]; unfold sgn; simp only [if_true]; omega
        have h3 : 1 * (K : Int) ≤ N * (K : Int) := Int.mul_le_mul_of_nonneg_right (by omega) (by omega)
        omega

theorem near_rd {m : Int} {x : UInt64} {N : Int} {ρ ε : Rat} (hx : Ap (mul x (ofInt m)) ρ ε) (e : ρ = (N : Rat)) (hε : ε < 1 / 2) : Rd m x N := by
  obtain ⟨a, p, q, dy⟩ := hx.fin
  have h1 := hx.up
  have h2 := hx.lo
  have hk := Kq
  rw [e] at h1 h2
  refine ⟨by unfold isFinite; rw [dy], by unfold isNaN; rw [dy], by unfold isInf; rw [dy], ?_⟩
  rw [PySem.Flt.toInt_fin dy]
  refine nearest_int dy ?_
  have hr := rv_mul (mul x (ofInt m))
  generalize mul x (ofInt m) = y at *
  have g1 : 2 * (Float64.val y - N * (K : Int)) < (K : Int) := by
    have : ((2 * (Float64.val y - N * (K : Int)) : Int) : Rat) < (((K : Nat) : Int) : Rat) := by
      rw [Rat.intCast_mul, Rat.intCast_sub, Rat.intCast_mul, intK, ← hr]
      have h3 : 2 * (rv y - (N : Rat)) < 1 := by grind
      have h4 := (Rat.mul_lt_mul_left hk).mpr h3
      have : ((2 : Int) : Rat) = 2 := rfl
      rw [this]
      grind
    exact_mod_cast this
  have g2 : 2 * (N * (K : Int) - Float64.val y) < (K : Int) := by
    have : ((2 * (N * (K : Int) - Float64.val y) : Int) : Rat) < (((K : Nat) : Int) : Rat) := by
      rw [Rat.intCast_mul, Rat.intCast_sub, Rat.intCast_mul, intK, ← hr]
      have h3 : 2 * ((N : Rat) - rv y) < 1 := by grind
      have h4 := (Rat.mul_lt_mul_left hk).mpr h3
      have : ((2 : Int) : Rat) = 2 := rfl
      rw [this]
      grind
    exact_mod_cast this
  generalize N * (K : Int) = z at *
  omega
end Mine
end

section
open PySem PySem.Float64
set_option maxRecDepth 100000
set_option linter.unusedVariables false
set_option exponentiation.threshold 200
namespace Mine
theorem rv_const {x : UInt64} {m s : Nat} (h : decode x = .fin false m (-(s : Int))) (hs : s ≤ 1074) : Fin' x ∧ rv x = (m : Rat) / ((2 ^ s : Nat) : Rat) := by
  refine ⟨⟨_, _, _, h⟩, ?_⟩
  have hk := Kq
  have hp : (0 : Rat) < ((2 ^ s : Nat) : Rat) := by exact_mod_cast Nat.two_pow_pos s
  have e1 : Float64.val x = ((m * 2 ^ (1074 - s) : Nat) : Int) := by
    rw [val_eq h]
    unfold sgn
    simp only [Bool.false_eq_true, if_false]
    have : (-(s : Int) + 1074).toNat = 1074 - s := by omega
    rw [this]
  have e2 : K = 2 ^ (1074 - s) * 2 ^ s := by unfold K; rw [← Nat.pow_add]; congr 1; omega
  have hr := rv_mul x
  rw [e1, Rat.intCast_natCast, Rat.natCast_mul] at hr
  have hq : (0 : Rat) < ((2 ^ (1074 - s) : Nat) : Rat) := by exact_mod_cast Nat.two_pow_pos (1074 - s)
  rw [e2, Rat.natCast_mul] at hr
  refine mul_cancel (c := ((2 ^ (1074 - s) : Nat) : Rat) * ((2 ^ s : Nat) : Rat)) (Rat.mul_pos hq hp) ?_
  rw [hr]
  have : (m : Rat) / ((2 ^ s : Nat) : Rat) * (((2 ^ (1074 - s) : Nat) : Rat) * ((2 ^ s : Nat) : Rat)) = (m : Rat) / ((2 ^ s : Nat) : Rat) * ((2 ^ s : Nat) : Rat) * ((2 ^ (1074 - s) : Nat) : Rat) := by grind
  rw [this, Rat.div_mul_cancel (by grind)]

theorem ap_const {x : UInt64} {m s : Nat} {r : Rat} (h : decode x = .fin false m (-(s : Int))) (hs : s ≤ 1074) (h1 : (m : Rat) - r * ((2 ^ s : Nat) : Rat) ≤ u * ((2 ^ s : Nat) : Rat)) (h2 : r * ((2 ^ s : Nat) : Rat) - (m : Rat) ≤ u * ((2 ^ s : Nat) : Rat)) : Ap x r u := by
  obtain ⟨f, e⟩ := rv_const h hs
  have hp : (0 : Rat) < ((2 ^ s : Nat) : Rat) := by exact_mod_cast Nat.two_pow_pos s
  have c : (m : Rat) / ((2 ^ s : Nat) : Rat) * ((2 ^ s : Nat) : Rat) = m := Rat.div_mul_cancel (by grind)
  refine ⟨f, le_div hp ?_, le_div hp ?_⟩ <;> rw [e] <;> grind
theorem ap_exact {x : UInt64} {m s : Nat} {r : Rat} (h : decode x = .fin false m (-(s : Int))) (hs : s ≤ 1074) (h1 : (m : Rat) = r * ((2 ^ s : Nat) : Rat)) : Ap x r 0 := by
  obtain ⟨f, e⟩ := rv_const h hs
  have hp : (0 : Rat) < ((2 ^ s : Nat) : Rat) := by exact_mod_cast Nat.two_pow_pos s
  have : (m : Rat) / ((2 ^ s : Nat) : Rat) * ((2 ^ s : Nat) : Rat) = m := Rat.div_mul_cancel (by grind)
  have er : rv x = r := mul_cancel hp (by rw [e, this, h1])
  exact ⟨f, by rw [er]; grind, by rw [er]; grind⟩

theorem k30 : Ap 0x3fd3333333333333 (3 / 10) u := ap_const (m := 5404319552844595) (s := 54) (by with_unfolding_all rfl) (by decide) (by unfold u; decide +kernel) (by unfold u; decide +kernel)
theorem k59 : Ap 0x3fe2e147ae147ae1 (59 / 100) u := ap_const (m := 5314247560297185) (s := 53) (by with_unfolding_all rfl) (by decide) (by unfold u; decide +kernel) (by unfold u; decide +kernel)
theorem k11 : Ap 0x3fbc28f5c28f5c29 (11 / 100) u := ap_const (m := 7926335344172073) (s := 56) (by with_unfolding_all rfl) (by decide) (by unfold u; decide +kernel) (by unfold u; decide +kernel)
theorem k74 : Ap 0x3fe7ae147ae147ae (74 / 100) u := ap_const (m := 6665327448508334) (s := 53) (by with_unfolding_all rfl) (by decide) (by unfold u; decide +kernel) (by unfold u; decide +kernel)
theorem k27 : Ap 0x3fd147ae147ae148 (27 / 100) u := ap_const (m := 4863887597560136) (s := 54) (by with_unfolding_all rfl) (by decide) (by unfold u; decide +kernel) (by unfold u; decide +kernel)
theorem k48 : Ap 0x3fdeb851eb851eb8 (48 / 100) u := ap_const (m := 8646911284551352) (s := 54) (by with_unfolding_all rfl) (by decide) (by unfold u; decide +kernel) (by unfold u; decide +kernel)
theorem k41 : Ap 0x3fda3d70a3d70a3d (41 / 100) u := ap_const (m := 7385903388887613) (s := 54) (by with_unfolding_all rfl) (by decide) (by unfold u; decide +kernel) (by unfold u; decide +kernel)
theorem x6 : Ap 0x4018000000000000 6 0 := ap_exact (m := 6755399441055744) (s := 50) (by with_unfolding_all rfl) (by decide) (by decide +kernel)
theorem x2 : Ap 0x4000000000000000 2 0 := ap_exact (m := 4503599627370496) (s := 51) (by with_unfolding_all rfl) (by decide) (by decide +kernel)
theorem x4 : Ap 0x4010000000000000 4 0 := ap_exact (m := 4503599627370496) (s := 50) (by with_unfolding_all rfl) (by decide) (by decide +kernel)
theorem x1 : Ap 0x3ff0000000000000 1 0 := ap_exact (m := 4503599627370496) (s := 52) (by with_unfolding_all rfl) (by decide) (by decide +kernel)
theorem x3 : Ap 0x4008000000000000 3 0 := ap_exact (m := 6755399441055744) (s := 51) (by with_unfolding_all rfl) (by decide) (by decide +kernel)
theorem xhalf : Ap 0x3fe0000000000000 (1 / 2) 0 := ap_exact (m := 4503599627370496) (s := 53) (by with_unfolding_all rfl) (by decide) (by decide +kernel)
theorem xP40 : Ap (ofInt (2 ^ (40 : Int).toNat)) 1099511627776 0 := by
  have e : ofInt (2 ^ (40 : Int).toNat) = 0x4270000000000000 := by decide +kernel
  rw [e]
  exact ap_exact (m := 4503599627370496) (s := 12) (by with_unfolding_all rfl) (by decide) (by decide +kernel)
theorem x128e4 : Ap (ofInt 1280000) 1280000 0 := by
  have e : ofInt 1280000 = 0x4133880000000000 := by decide +kernel
  rw [e]
  exact ap_exact (m := 5497558138880000) (s := 32) (by with_unfolding_all rfl) (by decide) (by decide +kernel)
theorem Ap.rv0 {x : UInt64} {r : Rat} (h : Ap x r 0) : rv x = r := by have := h.up; have := h.lo; exact Rat.le_antisymm (by grind) (by grind)

theorem ap_scale {x c : UInt64} {r ε M : Rat} (hx : Ap x r ε) (hc : Ap c M 0) (hM : 0 < M) (hM2 : M ≤ 1099511627776) (r1 : -3 / 2 ≤ r) (r2 : r ≤ 3 / 2) (he : ε ≤ 1 / 4) : Ap (mul x c) (r * M) (M * ε + 1 / 4096) := by
  have hr := hc.rv0
  have h1 := hx.up
  have h2 := hx.lo
  have a1 := Rat.mul_le_mul_of_nonneg_left (show rv x - r ≤ ε from h1) (show 0 ≤ M by grind)
  have a2 := Rat.mul_le_mul_of_nonneg_left (show r - rv x ≤ ε from h2) (show 0 ≤ M by grind)
  have b1 := Rat.mul_le_mul_of_nonneg_left (show rv x ≤ 7 / 4 by grind) (show 0 ≤ M by grind)
  have b2 := Rat.mul_le_mul_of_nonneg_left (show -(7 / 4) ≤ rv x by grind) (show 0 ≤ M by grind)
  have c := mulB hx.fin hc.fin (by rw [hr]; grind) (by rw [hr]; grind)
  have c1 := c.up
  have c2 := c.lo
  rw [hr] at c1 c2
  exact ⟨c.fin, by grind, by grind⟩

def qp (n : Int) : Rat := (n : Rat) / 128
theorem qp_in {n : Int} (h0 : 0 ≤ n) (h1 : n < 128) : 0 ≤ qp n ∧ qp n ≤ 127 / 128 := by
  have a : (0 : Rat) ≤ (n : Rat) := by exact_mod_cast h0
  have b : (n : Rat) ≤ 127 := by have : n ≤ 127 := by omega
                                 exact_mod_cast this
  unfold qp
  constructor <;> grind
theorem ap_c128 {n : Int} (h0 : 0 ≤ n) (h1 : n < 128) : Ap (c128 n) (qp n) 0 := (ex_c128 h0 (by omega)).ap.eq (by unfold qp; push_cast; grind)

section
variable {p : Col} (h : InR p)
include h
theorem ap_y : Ap (yF (c128 p.1) (c128 p.2.1) (c128 p.2.2)) (3 / 10 * qp p.1 + 59 / 100 * qp p.2.1 + 11 / 100 * qp p.2.2) (9 * u) := by
  obtain ⟨⟨h1, h2⟩, ⟨h3, h4⟩, ⟨h5, h6⟩⟩ := h
  obtain ⟨r1, r2⟩ := qp_in h1 h2
  obtain ⟨g1, g2⟩ := qp_in h3 h4
  obtain ⟨b1, b2⟩ := qp_in h5 h6
  have hu : u ≤ 1 / 1000000 := by unfold u; decide +kernel
  have hu0 := u_pos
  have m1 := ap_mul (a := 1) (b := 1) k30 (ap_c128 h1 h2) (by grind) (by grind) (by grind) (by grind) (by grind) (by grind)
  have m2 := ap_mul (a := 1) (b := 1) k59 (ap_c128 h3 h4) (by grind) (by grind) (by grind) (by grind) (by grind) (by grind)
  have m3 := ap_mul (a := 1) (b := 1) k11 (ap_c128 h5 h6) (by grind) (by grind) (by grind) (by grind) (by grind) (by grind)
  have s1 := ap_add m1 m2 (by grind) (by grind) (by grind)
  have s2 := ap_add s1 m3 (by grind) (by grind) (by grind)
  exact s2.weak (by grind)

theorem ap_iq : Ap (iF (c128 p.1) (c128 p.2.1) (c128 p.2.2)) (74 / 100 * (qp p.1 - (3 / 10 * qp p.1 + 59 / 100 * qp p.2.1 + 11 / 100 * qp p.2.2)) - 27 / 100 * (qp p.2.2 - (3 / 10 * qp p.1 + 59 / 100 * qp p.2.1 + 11 / 100 * qp p.2.2))) (30 * u) ∧
    Ap (qF (c128 p.1) (c128 p.2.1) (c128 p.2.2)) (48 / 100 * (qp p.1 - (3 / 10 * qp p.1 + 59 / 100 * qp p.2.1 + 11 / 100 * qp p.2.2)) + 41 / 100 * (qp p.2.2 - (3 / 10 * qp p.1 + 59 / 100 * qp p.2.1 + 11 / 100 * qp p.2.2))) (30 * u) := by
  have hy := ap_y h
  obtain ⟨⟨h1, h2⟩, ⟨h3, h4⟩, ⟨h5, h6⟩⟩ := h
  obtain ⟨r1, r2⟩ := qp_in h1 h2
  obtain ⟨g1, g2⟩ := qp_in h3 h4
  obtain ⟨b1, b2⟩ := qp_in h5 h6
  have y1 : 0 ≤ 3 / 10 * qp p.1 + 59 / 100 * qp p.2.1 + 11 / 100 * qp p.2.2 := by grind
  have y2 : 3 / 10 * qp p.1 + 59 / 100 * qp p.2.1 + 11 / 100 * qp p.2.2 ≤ 1 := by grind
  generalize 3 / 10 * qp p.1 + 59 / 100 * qp p.2.1 + 11 / 100 * qp p.2.2 = Y at *
  have hu : u ≤ 1 / 1000000 := by unfold u; decide +kernel
  have hu0 := u_pos
  have huu : u * u ≤ u := by unfold u; decide +kernel
  have d1 := (ap_sub (ap_c128 h1 h2) hy (by grind) (by grind) (by grind)).weak (δ := 10 * u) (by grind)
  have d2 := (ap_sub (ap_c128 h5 h6) hy (by grind) (by grind) (by grind)).weak (δ := 10 * u) (by grind)
  have er : ∀ a : Rat, a ≤ 1 → 0 ≤ a → (a + u) * (10 * u) + 1 * u + u ≤ 13 * u := by unfold u; intro a h1 h2; grind
  have m1 := (ap_mul (a := 1) (b := 1) k74 d1 (by grind) (by grind) (by grind) (by grind) (by grind) (by unfold u; decide +kernel)).weak (δ := 14 * u) (by unfold u; decide +kernel)
  have m2 := (ap_mul (a := 1) (b := 1) k27 d2 (by grind) (by grind) (by grind) (by grind) (by grind) (by unfold u; decide +kernel)).weak (δ := 14 * u) (by unfold u; decide +kernel)
  have m3 := (ap_mul (a := 1) (b := 1) k48 d1 (by grind) (by grind) (by grind) (by grind) (by grind) (by unfold u; decide +kernel)).weak (δ := 14 * u) (by unfold u; decide +kernel)
  have m4 := (ap_mul (a := 1) (b := 1) k41 d2 (by grind) (by grind) (by grind) (by grind) (by grind) (by unfold u; decide +kernel)).weak (δ := 14 * u) (by unfold u; decide +kernel)
  exact ⟨(ap_sub m1 m2 (by grind) (by grind) (by grind)).weak (by grind), (ap_add m3 m4 (by grind) (by grind) (by grind)).weak (by grind)⟩

theorem yiq_rd : Rd 1280000 (yF (c128 p.1) (c128 p.2.1) (c128 p.2.2)) (whole1 p) ∧ Rd 1280000 (iF (c128 p.1) (c128 p.2.1) (c128 p.2.2)) (whole2 p) ∧ Rd 1280000 (qF (c128 p.1) (c128 p.2.1) (c128 p.2.2)) (whole3 p) := by
  have hy := ap_y h
  obtain ⟨hi, hq⟩ := ap_iq h
  obtain ⟨⟨h1, h2⟩, ⟨h3, h4⟩, ⟨h5, h6⟩⟩ := h
  obtain ⟨r1, r2⟩ := qp_in h1 h2
  obtain ⟨g1, g2⟩ := qp_in h3 h4
  obtain ⟨b1, b2⟩ := qp_in h5 h6
  have small : ∀ k : Rat, k ≤ 30 → 1280000 * (k * u) + 1 / 4096 < 1 / 2 := by unfold u; intro k hk; grind
  have s1 := ap_scale hy x128e4 (by decide +kernel) (by decide +kernel) (by grind) (by grind) (by unfold u; decide +kernel)
  have s2 := ap_scale hi x128e4 (by decide +kernel) (by decide +kernel) (by grind) (by grind) (by unfold u; decide +kernel)
  have s3 := ap_scale hq x128e4 (by decide +kernel) (by decide +kernel) (by grind) (by grind) (by unfold u; decide +kernel)
  refine ⟨near_rd s1 ?_ (small _ (by decide +kernel)), near_rd s2 ?_ (small _ (by decide +kernel)), near_rd s3 ?_ (small _ (by decide +kernel))⟩
  · unfold whole1 qp; push_cast; grind
  · unfold whole2 qp; push_cast; grind
  · unfold whole3 qp; push_cast; grind
end

theorem fd_yiq_all {w : World} {mg mb : Str → Option Value} {k : Addr} (p : Col) (h : InR p) : Fd w mg mb k 34 2 [colD p] (.bool true) := by
  obtain ⟨a, b, c⟩ := yiq_rd h
  obtain ⟨⟨h1, h2⟩, ⟨h3, h4⟩, ⟨h5, h6⟩⟩ := h
  have key : ∀ n : Int, 0 ≤ n → n < 128 → n.natAbs < 2 ^ 1023 := fun n h0 h1 => Nat.lt_of_lt_of_le (show n.natAbs < 2 ^ 7 by omega) (Nat.pow_le_pow_right (by decide) (by decide))
  exact fd_lyiq p ⟨key _ h1 h2, key _ h3 h4, key _ h5 h6⟩ a b c
end Mine
end

section
open PySem PySem.Float64
set_option maxRecDepth 100000
set_option linter.unusedVariables false
set_option exponentiation.threshold 200
namespace Mine
def Gr (w y : Rat) : Prop := (0 ≤ w ∧ w ≤ 1 ∧ y = w) ∨ (1 ≤ w ∧ w ≤ 3 ∧ y = 1) ∨ (3 ≤ w ∧ w ≤ 4 ∧ y = 4 - w) ∨ (4 ≤ w ∧ w ≤ 6 ∧ y = 0)
def Ph (z y : Rat) : Prop := ∃ n : Int, Gr (z - 6 * n) y

theorem Gr.six {w y : Rat} (h : Gr w y) : 0 ≤ w ∧ w ≤ 6 := by rcases h with ⟨a, b, c⟩ | ⟨a, b, c⟩ | ⟨a, b, c⟩ | ⟨a, b, c⟩ <;> constructor <;> grind
theorem Ph.shift {z y : Rat} (h : Ph z y) (m : Int) : Ph (z + 6 * m) y := by
  obtain ⟨n, g⟩ := h
  refine ⟨n + m, ?_⟩
  have : z + 6 * (m : Rat) - 6 * ((n + m : Int) : Rat) = z - 6 * n := by push_cast; grind
  rw [this]; exact g
theorem Ph.half {z y : Rat} (h : Ph z y) : Ph (z + 3) (1 - y) := by
  obtain ⟨n, g⟩ := h
  have e1 : z + 3 - 6 * (n : Rat) = z - 6 * n + 3 := by grind
  have e2 : z + 3 - 6 * ((n + 1 : Int) : Rat) = z - 6 * n - 3 := by push_cast; grind
  rcases g with ⟨a, b, c⟩ | ⟨a, b, c⟩ | ⟨a, b, c⟩ | ⟨a, b, c⟩
  · exact ⟨n, by rw [e1]; exact .inr (.inr (.inl ⟨by grind, by grind, by grind⟩))⟩
  · exact ⟨n, by rw [e1]; exact .inr (.inr (.inr ⟨by grind, by grind, by grind⟩))⟩
  · exact ⟨n + 1, by rw [e2]; exact .inl ⟨by grind, by grind, by grind⟩⟩
  · exact ⟨n + 1, by rw [e2]; exact .inr (.inl ⟨by grind, by grind, by grind⟩)⟩

theorem Gr.near {w v x y δ : Rat} (hx : Gr w x) (hy : Gr v y) (h1 : w - v ≤ δ) (h2 : v - w ≤ δ) : x - y ≤ δ ∧ y - x ≤ δ := by
  rcases hx with ⟨a, b, c⟩ | ⟨a, b, c⟩ | ⟨a, b, c⟩ | ⟨a, b, c⟩ <;> rcases hy with ⟨a', b', c'⟩ | ⟨a', b', c'⟩ | ⟨a', b', c'⟩ | ⟨a', b', c'⟩ <;> constructor <;> grind
theorem Gr.wrap {w v x y δ : Rat} (hx : Gr w x) (hy : Gr v y) (h : w + 6 - v ≤ δ) (hd : δ < 1) : x - y ≤ δ ∧ y - x ≤ δ := by
  have := hx.six; have := hy.six
  rcases hx with ⟨a, b, c⟩ | ⟨a, b, c⟩ | ⟨a, b, c⟩ | ⟨a, b, c⟩ <;> rcases hy with ⟨a', b', c'⟩ | ⟨a', b', c'⟩ | ⟨a', b', c'⟩ | ⟨a', b', c'⟩ <;> constructor <;> grind
theorem Ph.near {z z' y y' δ : Rat} (h : Ph z y) (h' : Ph z' y') (h1 : z - z' ≤ δ) (h2 : z' - z ≤ δ) (hd : δ < 1) : y - y' ≤ δ ∧ y' - y ≤ δ := by
  obtain ⟨n, g⟩ := h
  obtain ⟨m, g'⟩ := h'
  obtain ⟨a, b⟩ := g.six
  obtain ⟨a', b'⟩ := g'.six
  have c1 : (m : Rat) - n < 2 := by grind
  have c2 : -2 < (m : Rat) - n := by grind
  have d1 : m - n < 2 := by
    have : ((m - n : Int) : Rat) < ((2 : Int) : Rat) := by push_cast; exact c1
    exact_mod_cast this
  have d2 : -2 < m - n := by
    have : ((-2 : Int) : Rat) < ((m - n : Int) : Rat) := by push_cast; exact c2
    exact_mod_cast this
  have : m = n ∨ m = n + 1 ∨ m = n - 1 := by omega
  rcases this with rfl | rfl | rfl
  · exact g.near g' (by grind) (by grind)
  · have e : ((n + 1 : Int) : Rat) = (n : Rat) + 1 := by push_cast; rfl
    rw [e] at g' a' b'
    have := g'.wrap g (δ := δ) (by grind) hd
    exact ⟨this.2, this.1⟩
  · have e : ((n - 1 : Int) : Rat) = (n : Rat) - 1 := by push_cast; rfl
    rw [e] at g' a' b'
    exact g.wrap g' (δ := δ) (by grind) hd

structure Hue (m M : Rat) (X : Rat) (p : Col) : Prop where
  r : ∃ y, Ph (X + 2) y ∧ qp p.1 = m + (M - m) * y
  g : ∃ y, Ph X y ∧ qp p.2.1 = m + (M - m) * y
  b : ∃ y, Ph (X - 2) y ∧ qp p.2.2 = m + (M - m) * y

theorem Hue.turn {X : Rat} {p : Col} {l : Int} {m M : Rat} (h : Hue m M X p) (hb : qp (bothI p) = m + M) : Hue m M (X + 1) (turn1 p) := by
  obtain ⟨⟨y1, f1, e1⟩, ⟨y2, f2, e2⟩, ⟨y3, f3, e3⟩⟩ := h
  have sub : ∀ a b : Int, qp (a - b) = qp a - qp b := fun a b => by unfold qp; push_cast; grind
  refine ⟨⟨1 - y2, ?_, ?_⟩, ⟨1 - y3, ?_, ?_⟩, ⟨1 - y1, ?_, ?_⟩⟩
  · have := f2.half; have e : X + 3 = X + 1 + 2 := by grind
    rw [e] at this; exact this
  · show qp (bothI p - p.2.1) = _
    rw [sub, hb, e2]; grind
  · have := f3.half; have e : X - 2 + 3 = X + 1 := by grind
    rw [e] at this; exact this
  · show qp (bothI p - p.2.2) = _
    rw [sub, hb, e3]; grind
  · have := f1.half.shift (-1)
    have e : X + 2 + 3 + 6 * ((-1 : Int) : Rat) = X + 1 - 2 := by push_cast; grind
    rw [e] at this; exact this
  · show qp (bothI p - p.1) = _
    rw [sub, hb, e1]; grind

theorem both_turns (p : Col) : ∀ T, bothI (turnI p T) = bothI p
  | 0 => rfl
  | T + 1 => (both_turn _).trans (both_turns p T)
theorem Hue.turns {X : Rat} {p : Col} {m M : Rat} (h : Hue m M X p) (hb : qp (bothI p) = m + M) : ∀ T : Nat, Hue m M (X + (T : Rat)) (turnI p T)
  | 0 => by have e : X + ((0 : Nat) : Rat) = X := by push_cast; grind
            rw [e]; exact h
  | T + 1 => by
    have := (Hue.turns h hb T).turn (l := 0) (by rw [both_turns]; exact hb)
    have e : X + ((T + 1 : Nat) : Rat) = X + (T : Rat) + 1 := by push_cast; grind
    rw [e]; exact this

theorem Hue.of {r g b m M X : Rat} {p : Col} (er : qp p.1 = r) (eg : qp p.2.1 = g) (eb : qp p.2.2 = b) (hm : (m = r ∨ m = g ∨ m = b) ∧ m ≤ r ∧ m ≤ g ∧ m ≤ b) (hM : r ≤ M ∧ g ≤ M ∧ b ≤ M) (hlt : m < M)
    (hX : (r = M ∧ X * (M - m) = g - b) ∨ (g = M ∧ (X - 2) * (M - m) = b - r) ∨ (b = M ∧ (X - 4) * (M - m) = r - g)) : Hue m M X p := by
  have hd : 0 < M - m := by grind
  have frac : ∀ t : Rat, ∃ y, t - m = (M - m) * y := fun t => ⟨(t - m) / (M - m), by rw [Rat.mul_comm, Rat.div_mul_cancel (by grind)]⟩
  obtain ⟨hm0, hm1, hm2, hm3⟩ := hm
  obtain ⟨hM1, hM2, hM3⟩ := hM
  obtain ⟨yr, fr⟩ := frac r
  obtain ⟨yg, fg⟩ := frac g
  obtain ⟨yb, fb⟩ := frac b
  have pos : ∀ {t y : Rat}, t - m = (M - m) * y → m ≤ t → t ≤ M → 0 ≤ y ∧ y ≤ 1 := fun {t y} e h1 h2 => ⟨le_div hd (by grind), le_div hd (by grind)⟩
  have can : ∀ {a c : Rat}, (M - m) * a = (M - m) * c → a = c := fun {a c} h => mul_cancel hd (by grind)
  obtain ⟨r0, r1⟩ := pos fr hm1 hM1
  obtain ⟨g0, g1⟩ := pos fg hm2 hM2
  obtain ⟨b0, b1⟩ := pos fb hm3 hM3
  have sh : ∀ {z y : Rat} (n : Int) (w : Rat), z - 6 * (n : Rat) = w → Gr w y → Ph z y := fun n w e h => ⟨n, by rw [e]; exact h⟩
  have c0 : ((0 : Int) : Rat) = 0 := rfl
  have c1 : ((1 : Int) : Rat) = 1 := rfl
  have cm : ((-1 : Int) : Rat) = -1 := rfl
  have fin : Ph (X + 2) yr → Ph X yg → Ph (X - 2) yb → Hue m M X p := fun a b' c => ⟨⟨yr, a, by grind⟩, ⟨yg, b', by grind⟩, ⟨yb, c, by grind⟩⟩
  rcases hX with ⟨h1, h2⟩ | ⟨h1, h2⟩ | ⟨h1, h2⟩
  · have er1 : yr = 1 := can (by grind)
    have eX : X = yg - yb := can (by grind)
    rcases Rat.le_total (a := b) (b := g) with h3 | h3
    · have eb0 : yb = 0 := can (by grind)
      refine fin (sh 0 (X + 2) (by grind) (.inr (.inl ⟨by grind, by grind, er1⟩))) (sh 0 X (by grind) (.inl ⟨by grind, by grind, by grind⟩)) (sh (-1) (X + 4) (by rw [cm]; grind) (.inr (.inr (.inr ⟨by grind, by grind, eb0⟩))))
    · have eg0 : yg = 0 := can (by grind)
      refine fin (sh 0 (X + 2) (by grind) (.inr (.inl ⟨by grind, by grind, er1⟩))) (sh (-1) (X + 6) (by rw [cm]; grind) (.inr (.inr (.inr ⟨by grind, by grind, eg0⟩)))) (sh (-1) (X + 4) (by rw [cm]; grind) (.inr (.inr (.inl ⟨by grind, by grind, by grind⟩))))
  · have eg1 : yg = 1 := can (by grind)
    have eX : X - 2 = yb - yr := can (by grind)
    rcases Rat.le_total (a := r) (b := b) with h3 | h3
    · have er0 : yr = 0 := can (by grind)
      refine fin (sh 0 (X + 2) (by grind) (.inr (.inr (.inr ⟨by grind, by grind, er0⟩)))) (sh 0 X (by grind) (.inr (.inl ⟨by grind, by grind, eg1⟩))) (sh 0 (X - 2) (by grind) (.inl ⟨by grind, by grind, by grind⟩))
    · have eb0 : yb = 0 := can (by grind)
      refine fin (sh 0 (X + 2) (by grind) (.inr (.inr (.inl ⟨by grind, by grind, by grind⟩)))) (sh 0 X (by grind) (.inr (.inl ⟨by grind, by grind, eg1⟩))) (sh (-1) (X + 4) (by rw [cm]; grind) (.inr (.inr (.inr ⟨by grind, by grind, eb0⟩))))
  · have eb1 : yb = 1 := can (by grind)
    have eX : X - 4 = yr - yg := can (by grind)
    rcases Rat.le_total (a := g) (b := r) with h3 | h3
    · have eg0 : yg = 0 := can (by grind)
      refine fin (sh 1 (X - 4) (by rw [c1]; grind) (.inl ⟨by grind, by grind, by grind⟩)) (sh 0 X (by grind) (.inr (.inr (.inr ⟨by grind, by grind, eg0⟩)))) (sh 0 (X - 2) (by grind) (.inr (.inl ⟨by grind, by grind, eb1⟩)))
    · have er0 : yr = 0 := can (by grind)
      refine fin (sh 0 (X + 2) (by grind) (.inr (.inr (.inr ⟨by grind, by grind, er0⟩)))) (sh 0 X (by grind) (.inr (.inr (.inl ⟨by grind, by grind, by grind⟩)))) (sh 0 (X - 2) (by grind) (.inr (.inl ⟨by grind, by grind, eb1⟩)))
end Mine
end

section
open PySem PySem.Float64
set_option maxRecDepth 100000
set_option linter.unusedVariables false
set_option linter.unusedSectionVars false
set_option exponentiation.threshold 200
namespace Mine
theorem right_nn {r : UInt64} {neg : Bool} {W D t : Nat} (hv : Float64.val r = sgn neg (V t)) (hn : ∀ t', dist W (D * V t) ≤ dist W (D * V t')) (hD : 0 < D) (hs : 0 ≤ sgn neg W) : 0 ≤ rv r := by
  have hk := Kq
  have h0 : 0 ≤ Float64.val r := by
    rw [hv]
    cases neg with
    | false => unfold sgn; simp
    | true =>
      unfold sgn at hs ⊢
      simp only [if_true] at hs ⊢
      have hW : W = 0 := by omega
      have h1 := hn 0
      rw [hW, V_zero, Nat.mul_zero] at h1
      unfold dist at h1
      have h2 : D * V t = 0 := by omega
      rcases Nat.mul_eq_zero.mp h2 with h3 | h3
      · omega
      · rw [h3]; decide
  have h1 : (0 : Rat) ≤ (Float64.val r : Rat) := by exact_mod_cast h0
  rw [← rv_mul] at h1
  exact le_div hk (by grind)

theorem add_nn {x y : UInt64} (hx : Fin' x) (hy : Fin' y) (h1 : 0 ≤ rv x) (h2 : 0 ≤ rv y) (h3 : rv x + rv y < 8) : 0 ≤ rv (add x y) := by
  obtain ⟨a, m, e, dx⟩ := hx
  obtain ⟨b, k, f, dy⟩ := hy
  have hk := Kq
  obtain ⟨h0, hR⟩ := add_right dx dy
  have ev : (rv x + rv y) * ((K : Nat) : Rat) = ((Float64.val x + Float64.val y : Int) : Rat) := by
    rw [Rat.intCast_add, ← rv_mul, ← rv_mul]; grind
  by_cases hz : Float64.val x + Float64.val y = 0
  · rw [h0 hz, rv_zero]; exact Rat.le_refl
  · obtain ⟨_, t, _, _, hv, hn⟩ := right_rat (hR hz) (by decide) (rv x + rv y) (by rw [sgn_abs, ← ev]; push_cast; grind) (by grind) h3
    refine right_nn hv hn (by decide) ?_
    rw [sgn_abs]
    have : (0 : Rat) ≤ ((Float64.val x + Float64.val y : Int) : Rat) := by rw [← ev]; exact Rat.mul_nonneg (by grind) (by grind)
    exact_mod_cast this

theorem K16 : ((2 ^ 1078 : Nat) : Rat) = 16 * ((K : Nat) : Rat) := by
  have : 2 ^ 1078 = 16 * K := by unfold K; rw [show (16 : Nat) = 2 ^ 4 by decide, ← Nat.pow_add]
  rw [this]; push_cast; rfl
theorem K_2u : ((2 ^ 1025 : Nat) : Rat) = 2 * u * ((K : Nat) : Rat) := by
  have : 2 ^ 1025 = 2 * 2 ^ 1024 := by rw [Nat.pow_succ, Nat.mul_comm]
  rw [this, Rat.natCast_mul, K_u]; push_cast; grind
theorem mul16 {x y : UInt64} (hx : Fin' x) (hy : Fin' y) (h1 : 0 ≤ rv x) (h2 : 0 ≤ rv y) (h3 : rv x * rv y < 16) : Ap (mul x y) (rv x * rv y) (2 * u) ∧ 0 ≤ rv (mul x y) := by
  obtain ⟨a, m, e, dx⟩ := hx
  obtain ⟨b, k, f, dy⟩ := hy
  have hk := Kq
  have h4 := Rat.mul_nonneg h1 h2
  have hr := mul_rat dx dy
  obtain ⟨A, t, _, _, hv, hn⟩ := right_gen (mul_right dx dy) (Nat.two_pow_pos _) (B := 1078) (E := 1025) rfl (by decide) K16 K_2u _ hr (by grind) h3
  refine ⟨A, right_nn hv hn (Nat.two_pow_pos _) ?_⟩
  have : (0 : Rat) ≤ ((sgn (a != b) ((Float64.val x).natAbs * (Float64.val y).natAbs) : Int) : Rat) := by
    rw [← hr]
    refine Rat.mul_nonneg h4 (Rat.mul_nonneg ?_ (by grind))
    exact_mod_cast Nat.zero_le _
  exact_mod_cast this

theorem ap_ofInt {i : Int} (h0 : 0 ≤ i) (h1 : i < 1000) : Ap (ofInt i) (i : Rat) 0 := by
  have R := ofInt_right i
  rw [decide_eq_false (by omega)] at R
  obtain ⟨hf, hv⟩ := right_exact R (q := i.natAbs) (by omega) (k := 1074) (by decide) rfl
  have hk := Kq
  have e : rv (ofInt i) = (i : Rat) := by
    refine mul_cancel hk ?_
    rw [rv_mul, hv]
    unfold sgn
    simp only [Bool.false_eq_true, if_false]
    have : ((i.natAbs * 2 ^ 1074 : Nat) : Int) = i * (K : Int) := by
      show ((i.natAbs * K : Nat) : Int) = _
      rw [Int.natCast_mul, Int.natAbs_of_nonneg h0]
    rw [this, Rat.intCast_mul, intK]
  exact ⟨hf, by rw [e]; grind, by rw [e]; grind⟩
theorem ap_six {T : Int} (h0 : 0 ≤ T) (h1 : T ≤ 6) : Ap (sixthF T) ((T : Rat) / 6) u ∧ 0 ≤ rv (sixthF T) := by
  have hneg : (decide (T < 0) != decide ((6 : Int) < 0)) = false := by rw [decide_eq_false (by omega)]; rfl
  have hk := Kq
  have t0 : (0 : Rat) ≤ (T : Rat) := by exact_mod_cast h0
  have t1 : (T : Rat) ≤ 6 := by exact_mod_cast h1
  have R : Right (sixthF T) false (T.natAbs * 2 ^ 1074) 6 := by
    unfold sixthF
    rw [hneg]
    exact ofFrac_right (by decide) (by show T.natAbs * 2 ^ 1074 * 6 = T.natAbs * 2 ^ 1074 * 6; rfl) (by decide)
  have hw : ((sgn false (T.natAbs * 2 ^ 1074) : Int) : Rat) = (T : Rat) * ((K : Nat) : Rat) := by
    unfold sgn
    simp only [Bool.false_eq_true, if_false]
    have : ((T.natAbs * 2 ^ 1074 : Nat) : Int) = T * (K : Int) := by
      show ((T.natAbs * K : Nat) : Int) = _
      rw [Int.natCast_mul, Int.natAbs_of_nonneg h0]
    rw [this, Rat.intCast_mul, intK]
  obtain ⟨A, t, _, _, hv, hn⟩ := right_rat R (by decide) ((T : Rat) / 6) (by
    rw [hw]
    have : ((6 : Nat) : Rat) = 6 := rfl
    rw [this]
    have := Rat.div_mul_cancel (a := (T : Rat)) (b := 6) (by decide)
    grind) (by grind) (by grind)
  exact ⟨A, right_nn hv hn (by decide) (by unfold sgn; simp only [Bool.false_eq_true, if_false]; exact Int.natCast_nonneg _)⟩

theorem frac01 {a d : Rat} (h0 : 0 ≤ a) (h1 : a ≤ d) (hd : 0 < d) : 0 ≤ a / d ∧ a / d ≤ 1 ∧ a / d * d = a := by
  have e : a / d * d = a := Rat.div_mul_cancel (by grind)
  exact ⟨le_div hd (by grind), le_div hd (by grind), e⟩

theorem max3_two (a b c : Int) : max3I (2 * a) (2 * b) (2 * c) = 2 * max3I a b c := by unfold max3I; split <;> split <;> split <;> (try split) <;> omega
theorem min3_two (a b c : Int) : min3I (2 * a) (2 * b) (2 * c) = 2 * min3I a b c := by unfold min3I; split <;> split <;> split <;> (try split) <;> omega
theorem qp_ex {x : UInt64} {n : Int} (h : Ex x (2 * n)) : rv x = qp n := by rw [h.rv]; unfold qp; push_cast; grind
theorem qp_sub (a b : Int) : qp (a - b) = qp a - qp b := by unfold qp; push_cast; grind
theorem qp_add (a b : Int) : qp (a + b) = qp a + qp b := by unfold qp; push_cast; grind
theorem qp_le {a b : Int} (h : a ≤ b) : qp a ≤ qp b := by
  have : (a : Rat) ≤ (b : Rat) := by exact_mod_cast h
  unfold qp; grind
theorem qp_lt {a b : Int} (h : a < b) : qp a + 1 / 128 ≤ qp b := by
  have : (a : Rat) + 1 ≤ (b : Rat) := by have : a + 1 ≤ b := h
                                         exact_mod_cast this
  unfold qp; grind

def mxI (p : Col) : Int := max3I p.1 p.2.1 p.2.2
def mnI (p : Col) : Int := min3I p.1 p.2.1 p.2.2
def mxF (p : Col) : UInt64 := max3F (c128 p.1) (c128 p.2.1) (c128 p.2.2)
def mnF (p : Col) : UInt64 := min3F (c128 p.1) (c128 p.2.1) (c128 p.2.2)

section
variable {p : Col} (h : InR p)
include h
theorem mx_spec : (mxI p = p.1 ∨ mxI p = p.2.1 ∨ mxI p = p.2.2) ∧ p.1 ≤ mxI p ∧ p.2.1 ≤ mxI p ∧ p.2.2 ≤ mxI p := max3_spec _ _ _
theorem mn_spec : (mnI p = p.1 ∨ mnI p = p.2.1 ∨ mnI p = p.2.2) ∧ mnI p ≤ p.1 ∧ mnI p ≤ p.2.1 ∧ mnI p ≤ p.2.2 := min3_spec _ _ _
theorem mm_in : 0 ≤ mnI p ∧ mnI p ≤ mxI p ∧ mxI p < 128 := by
  have a := mx_spec h; have b := mn_spec h
  obtain ⟨⟨h1, h2⟩, ⟨h3, h4⟩, ⟨h5, h6⟩⟩ := h
  omega
theorem ex_r : Ex (c128 p.1) (2 * p.1) := ex_c128 h.1.1 (by have := h.1.2; omega)
theorem ex_g : Ex (c128 p.2.1) (2 * p.2.1) := ex_c128 h.2.1.1 (by have := h.2.1.2; omega)
theorem ex_b : Ex (c128 p.2.2) (2 * p.2.2) := ex_c128 h.2.2.1 (by have := h.2.2.2; omega)
theorem ex_mx : Ex (mxF p) (2 * mxI p) := by have := ex_max (ex_r h) (ex_g h) (ex_b h); rw [max3_two] at this; exact this
theorem ex_mn : Ex (mnF p) (2 * mnI p) := by have := ex_min (ex_r h) (ex_g h) (ex_b h); rw [min3_two] at this; exact this
theorem ex_rng : Ex (sub (mxF p) (mnF p)) (2 * (mxI p - mnI p)) := by
  have := mm_in h
  have := ex_sub (ex_mx h) (ex_mn h) (by omega)
  rw [← Int.mul_sub] at this; exact this
theorem eq_mm : eqF (mnF p) (mxF p) = decide (mnI p = mxI p) := by
  unfold eqF
  rw [ex_eq (ex_mn h) (ex_mx h)]
  exact decide_eq_decide.mpr (by omega)

theorem ap_part {x : UInt64} {n : Int} (hx : Ex x (2 * n)) (h1 : mnI p ≤ n) (h2 : n ≤ mxI p) (hc : mnI p < mxI p) :
    Ap (div (sub (mxF p) x) (sub (mxF p) (mnF p))) ((qp (mxI p) - qp n) / (qp (mxI p) - qp (mnI p))) u := by
  have hm := mm_in h
  have e1 := ex_sub (ex_mx h) hx (by omega)
  rw [← Int.mul_sub] at e1
  have e2 := ex_rng h
  have r1 : rv (sub (mxF p) x) = qp (mxI p) - qp n := by rw [qp_ex e1, qp_sub]
  have r2 : rv (sub (mxF p) (mnF p)) = qp (mxI p) - qp (mnI p) := by rw [qp_ex e2, qp_sub]
  have l1 := qp_le h1; have l2 := qp_le h2; have l3 := qp_lt hc
  obtain ⟨f0, f1, _⟩ := frac01 (a := qp (mxI p) - qp n) (d := qp (mxI p) - qp (mnI p)) (by grind) (by grind) (by grind)
  have := div0 e1.fin e2.fin (by rw [r2]; grind) (by rw [r1, r2]; grind) (by rw [r1, r2]; grind)
  rw [r1, r2] at this
  exact this

theorem hue0_near (hc : mnI p < mxI p) : ∃ X, Ap (hue0F (c128 p.1) (c128 p.2.1) (c128 p.2.2)) X (5 * u) ∧ Hue (qp (mnI p)) (qp (mxI p)) X p ∧ -1 ≤ X ∧ X ≤ 5 := by
  have hmx := mx_spec h; have hmn := mn_spec h
  have pr := ap_part h (ex_r h) hmn.2.1 hmx.2.1 hc
  have pg := ap_part h (ex_g h) hmn.2.2.1 hmx.2.2.1 hc
  have pb := ap_part h (ex_b h) hmn.2.2.2 hmx.2.2.2 hc
  have l3 := qp_lt hc
  have a1 := qp_le hmn.2.1; have a2 := qp_le hmn.2.2.1; have a3 := qp_le hmn.2.2.2
  have b1 := qp_le hmx.2.1; have b2 := qp_le hmx.2.2.1; have b3 := qp_le hmx.2.2.2
  have hm0 : qp (mnI p) = qp p.1 ∨ qp (mnI p) = qp p.2.1 ∨ qp (mnI p) = qp p.2.2 := by rcases hmn.1 with e | e | e <;> rw [← e] <;> simp
  obtain ⟨fr0, fr1, fre⟩ := frac01 (a := qp (mxI p) - qp p.1) (d := qp (mxI p) - qp (mnI p)) (by grind) (by grind) (by grind)
  obtain ⟨fg0, fg1, fge⟩ := frac01 (a := qp (mxI p) - qp p.2.1) (d := qp (mxI p) - qp (mnI p)) (by grind) (by grind) (by grind)
  obtain ⟨fb0, fb1, fbe⟩ := frac01 (a := qp (mxI p) - qp p.2.2) (d := qp (mxI p) - qp (mnI p)) (by grind) (by grind) (by grind)
  generalize (qp (mxI p) - qp p.1) / (qp (mxI p) - qp (mnI p)) = fr at *
  generalize (qp (mxI p) - qp p.2.1) / (qp (mxI p) - qp (mnI p)) = fg at *
  generalize (qp (mxI p) - qp p.2.2) / (qp (mxI p) - qp (mnI p)) = fb at *
  have hu0 := u_pos
  have hu : u ≤ 1 / 1000000 := by unfold u; decide +kernel
  have er : eqF (c128 p.1) (mxF p) = decide (p.1 = mxI p) := by unfold eqF; rw [ex_eq (ex_r h) (ex_mx h)]; exact decide_eq_decide.mpr (by omega)
  have eg : eqF (c128 p.2.1) (mxF p) = decide (p.2.1 = mxI p) := by unfold eqF; rw [ex_eq (ex_g h) (ex_mx h)]; exact decide_eq_decide.mpr (by omega)
  unfold hue0F
  show ∃ X, Ap (if eqF (c128 p.1) (mxF p) = true then sub (div (sub (mxF p) (c128 p.2.2)) (sub (mxF p) (mnF p))) (div (sub (mxF p) (c128 p.2.1)) (sub (mxF p) (mnF p))) else if eqF (c128 p.2.1) (mxF p) = true then _ else _) X _ ∧ _
  rw [er, eg]
  by_cases h1 : p.1 = mxI p
  · rw [decide_eq_true h1, if_pos rfl]
    refine ⟨fb - fg, (ap_sub pb pg (by grind) (by grind) (by grind)).weak (by grind), Hue.of rfl rfl rfl ⟨hm0, a1, a2, a3⟩ ⟨b1, b2, b3⟩ (by grind) (.inl ⟨by rw [h1], by grind⟩), by grind, by grind⟩
  · rw [decide_eq_false h1, if_neg (by decide)]
    by_cases h2 : p.2.1 = mxI p
    · rw [decide_eq_true h2, if_pos rfl]
      have s1 := ap_add x2 pr (by grind) (by grind) (by grind)
      refine ⟨2 + fr - fb, (ap_sub s1 pb (by grind) (by grind) (by grind)).weak (by grind), Hue.of rfl rfl rfl ⟨hm0, a1, a2, a3⟩ ⟨b1, b2, b3⟩ (by grind) (.inr (.inl ⟨by rw [h2], by grind⟩)), by grind, by grind⟩
    · rw [decide_eq_false h2, if_neg (by decide)]
      have h3 : p.2.2 = mxI p := by have := hmx.1; omega
      have s1 := ap_add x4 pg (by grind) (by grind) (by grind)
      refine ⟨4 + fg - fr, (ap_sub s1 pr (by grind) (by grind) (by grind)).weak (by grind), Hue.of rfl rfl rfl ⟨hm0, a1, a2, a3⟩ ⟨b1, b2, b3⟩ (by grind) (.inr (.inr ⟨by rw [h3], by grind⟩)), by grind, by grind⟩

theorem hue_near (hc : mnI p < mxI p) {T : Int} (t0 : 0 ≤ T) (t1 : T ≤ 6) : ∃ (X : Rat) (n : Int), Hue (qp (mnI p)) (qp (mxI p)) X p ∧ Ap (add (hueF (c128 p.1) (c128 p.2.1) (c128 p.2.2)) (sixthF T)) (X / 6 - n + (T : Rat) / 6) (6 * u) ∧
    0 ≤ rv (add (hueF (c128 p.1) (c128 p.2.1) (c128 p.2.2)) (sixthF T)) ∧ rv (add (hueF (c128 p.1) (c128 p.2.1) (c128 p.2.2)) (sixthF T)) ≤ 5 / 2 := by
  obtain ⟨X, A, H, x0, x1⟩ := hue0_near h hc
  rw [show hueF (c128 p.1) (c128 p.2.1) (c128 p.2.2) = (divmod (div (hue0F (c128 p.1) (c128 p.2.1) (c128 p.2.2)) 0x4018000000000000) one1).2 from rfl]
  have hu0 := u_pos
  have hu : u ≤ 1 / 1000000 := by unfold u; decide +kernel
  have a1 := A.up; have a2 := A.lo
  have r6 := x6.rv0
  have D := div0 A.fin x6.fin (by rw [r6]; decide) (by rw [r6]; grind) (by rw [r6]; grind)
  rw [r6] at D
  have d1 := D.up; have d2 := D.lo
  obtain ⟨n, B, B0, B1⟩ := mod1_near D.fin
  have b1 := B.up; have b2 := B.lo
  obtain ⟨C, C0⟩ := ap_six t0 t1
  have t2 : (0 : Rat) ≤ (T : Rat) := by exact_mod_cast t0
  have t3 : (T : Rat) ≤ 6 := by exact_mod_cast t1
  have c1 := C.up; have c2 := C.lo
  have S := add0 B.fin C.fin (by grind) (by grind)
  have s1 := S.up; have s2 := S.lo
  refine ⟨X, n, H, ⟨S.fin, ?_, ?_⟩, add_nn B.fin C.fin B0 C0 (by grind), ?_⟩
  · grind
  · grind
  · grind
end
end Mine
end

section
open PySem PySem.Float64
set_option maxRecDepth 100000
set_option linter.unusedVariables false
set_option linter.unusedSectionVars false
set_option exponentiation.threshold 200
namespace Mine
theorem near_rd40 {x : UInt64} {N : Int} (A : Ap x (qp N) (400 * u)) (h0 : 0 ≤ N) (h1 : N < 128) : Rd (2 ^ (40 : Int).toNat) x (N * 8589934592) := by
  obtain ⟨q0, q1⟩ := qp_in h0 h1
  have s := ap_scale A xP40 (by decide +kernel) (by decide +kernel) (by grind) (by grind) (by unfold u; decide +kernel)
  refine near_rd s ?_ (by unfold u; decide +kernel)
  unfold qp; push_cast; grind

theorem close {a : UInt64} {m M y y' ε δ : Rat} {N : Int} (A : Ap a (m + (M - m) * y) ε) (h1 : y - y' ≤ δ) (h2 : y' - y ≤ δ) (hN : qp N = m + (M - m) * y') (hm : 0 ≤ M - m) (hM : M - m ≤ 1) (hd : 0 ≤ δ) : Ap a (qp N) (ε + δ) := by
  have a1 := A.up; have a2 := A.lo
  have b1 := Rat.mul_le_mul_of_nonneg_left h1 hm
  have b2 := Rat.mul_le_mul_of_nonneg_left h2 hm
  have b3 := Rat.mul_le_mul_of_nonneg_left hM hd
  exact ⟨A.fin, by rw [hN]; grind, by rw [hN]; grind⟩

theorem phw {z y : Rat} (n : Int) (w : Rat) (e : z = w + 6 * n) (h : Gr w y) : Ph z y := by
  refine ⟨n, ?_⟩
  rw [e]
  have : w + 6 * (n : Rat) - 6 * n = w := by grind
  rw [this]; exact h

theorem hsv_out {s v x : UInt64} {V m S : Rat} (hv : Ap v V 0) (hs : Ap s S u) (hVS : S * V = V - m) (s0 : 0 ≤ S) (s1 : S ≤ 1) (v0 : 0 ≤ V) (v1 : V ≤ 1) (hx : Fin' x) (h0 : 0 ≤ rv x) (h1 : rv x ≤ 5 / 2) :
    (isFinite (h6F x) = true ∧ isNaN (h6F x) = false ∧ isInf (h6F x) = false ∧ (h6I x).natAbs < 2 ^ 1023) ∧ Ap (h6F x) (rv x * 6) (2 * u) ∧
    ∃ a b c, hsvOut ((h6I x).fmod 6) v (pF s v) (qqF x s v) (tF x s v) = [.flt a, .flt b, .flt c] ∧ (∃ y, Ph (rv (h6F x) + 2) y ∧ Ap a (m + (V - m) * y) (8 * u)) ∧ (∃ y, Ph (rv (h6F x)) y ∧ Ap b (m + (V - m) * y) (8 * u)) ∧ (∃ y, Ph (rv (h6F x) - 2) y ∧ Ap c (m + (V - m) * y) (8 * u)) := by
  have hu0 := u_pos
  have hu : u ≤ 1 / 1000000 := by unfold u; decide +kernel
  have huu : u * u ≤ u := by unfold u; decide +kernel
  have r6 := x6.rv0
  obtain ⟨A, A0⟩ := mul16 hx x6.fin h0 (by rw [r6]; decide) (by rw [r6]; grind)
  rw [r6] at A
  have a1 := A.up; have a2 := A.lo
  have A' : Ap (h6F x) (rv x * 6) (2 * u) := A
  obtain ⟨i0, i1, i2⟩ := trunc_near A'.fin A0
  have i0' : ((h6I x : Int) : Rat) ≤ rv (h6F x) := i0
  have i1' : rv (h6F x) < ((h6I x : Int) : Rat) + 1 := i1
  have i2' : 0 ≤ h6I x := i2
  have a1' : rv (h6F x) - rv x * 6 ≤ 2 * u := a1
  have hi : h6I x < 20 := by
    have : ((h6I x : Int) : Rat) < ((20 : Int) : Rat) := by
      have : ((20 : Int) : Rat) = 20 := rfl
      rw [this]; grind
    exact_mod_cast this
  have I := ap_ofInt i2' (by omega)
  have F : Ap (fracF x) (rv (h6F x) - (h6I x : Rat)) u := by
    have := sub0 A'.fin I.fin (by rw [I.rv0]; grind) (by rw [I.rv0]; grind)
    rw [I.rv0] at this
    exact this
  have fins : isFinite (h6F x) = true ∧ isNaN (h6F x) = false ∧ isInf (h6F x) = false ∧ (h6I x).natAbs < 2 ^ 1023 := by
    obtain ⟨a, b, c, d⟩ := A'.fin
    exact ⟨by unfold isFinite; rw [d], by unfold isNaN; rw [d], by unfold isInf; rw [d], Nat.lt_of_lt_of_le (show (h6I x).natAbs < 2 ^ 7 by omega) (Nat.pow_le_pow_right (by decide) (by decide))⟩
  refine ⟨fins, A', ?_⟩
  have j0 := fmod_lt (q := h6I x) (m := 6) (by decide)
  have jd : ∃ k : Int, h6I x = (h6I x).fmod 6 + 6 * k := ⟨(h6I x).fdiv 6, by have := Int.mul_fdiv_add_fmod (h6I x) 6; omega⟩
  obtain ⟨k, hk⟩ := jd
  generalize (h6I x).fmod 6 = j at *
  have hkr : ((h6I x : Int) : Rat) = (j : Rat) + 6 * (k : Rat) := by rw [hk]; push_cast; grind
  generalize hFF : rv (h6F x) - (h6I x : Rat) = f at *
  have f0 : 0 ≤ f := by grind
  have f1 : f ≤ 1 := by grind
  have hz : rv (h6F x) = j + f + 6 * k := by grind
  have Ppre : Ap (pF s v) (V * (1 - S)) (8 * u) := by
    have d1 := ap_sub x1 hs (by grind) (by grind) (by grind)
    have := ap_mul (a := 1) (b := 1) hv d1 (by grind) (by grind) (by grind) (by grind) (by grind) (by grind)
    exact this.weak (by grind)
  have P0 : Ap (pF s v) (m + (V - m) * 0) (8 * u) := Ppre.eq (by grind)
  have Q0 : Ap (qqF x s v) (m + (V - m) * (1 - f)) (8 * u) := by
    have m1 := (ap_mul (a := 1) (b := 1) hs F (by grind) (by grind) (by grind) (by grind) (by grind) (by grind)).weak (δ := 4 * u) (by grind)
    obtain ⟨p1, p2⟩ := prod_le (p := S) (q := f) (P := 1) (Q := 1) (by grind) (by grind) (by grind) (by grind)
    have p3 := Rat.mul_nonneg s0 f0
    have d1 := (ap_sub x1 m1 (by grind) (by grind) (by grind)).weak (δ := 5 * u) (by grind)
    have := ap_mul (a := 1) (b := 1) hv d1 (by grind) (by grind) (by grind) (by grind) (by grind) (by grind)
    exact (this.weak (δ := 8 * u) (by grind)).eq (by have : V * (S * f) = S * V * f := by grind
                                                     rw [hVS] at this; grind)
  have T0 : Ap (tF x s v) (m + (V - m) * f) (8 * u) := by
    have d0 := (ap_sub x1 F (by grind) (by grind) (by grind)).weak (δ := 2 * u) (by grind)
    have m1 := (ap_mul (a := 1) (b := 1) hs d0 (by grind) (by grind) (by grind) (by grind) (by grind) (by grind)).weak (δ := 6 * u) (by grind)
    obtain ⟨p1, p2⟩ := prod_le (p := S) (q := 1 - f) (P := 1) (Q := 1) (by grind) (by grind) (by grind) (by grind)
    have p3 := Rat.mul_nonneg s0 (show 0 ≤ 1 - f by grind)
    have d1 := (ap_sub x1 m1 (by grind) (by grind) (by grind)).weak (δ := 7 * u) (by grind)
    have := ap_mul (a := 1) (b := 1) hv d1 (by grind) (by grind) (by grind) (by grind) (by grind) (by grind)
    exact (this.weak (δ := 8 * u) (by grind)).eq (by have : V * (S * (1 - f)) = S * V * (1 - f) := by grind
                                                     rw [hVS] at this; grind)
  have V0 : Ap v (m + (V - m) * 1) (8 * u) := (hv.weak (by grind)).eq (by grind)
  have six : j = 0 ∨ j = 1 ∨ j = 2 ∨ j = 3 ∨ j = 4 ∨ j = 5 := by omega
  have cp : ((k + 1 : Int) : Rat) = (k : Rat) + 1 := by push_cast; rfl
  have cm : ((k - 1 : Int) : Rat) = (k : Rat) - 1 := by push_cast; rfl
  rw [hz]
  rcases six with rfl | rfl | rfl | rfl | rfl | rfl
  · have ej : ((0 : Int) : Rat) = 0 := rfl
    rw [ej]
    exact ⟨_, _, _, rfl, ⟨1, phw k (2 + f) (by grind) (.inr (.inl ⟨by grind, by grind, rfl⟩)), V0⟩, ⟨f, phw k f (by grind) (.inl ⟨f0, f1, rfl⟩), T0⟩, ⟨0, phw (k - 1) (4 + f) (by rw [cm]; grind) (.inr (.inr (.inr ⟨by grind, by grind, rfl⟩))), P0⟩⟩
  · have ej : ((1 : Int) : Rat) = 1 := rfl
    rw [ej]
    exact ⟨_, _, _, rfl, ⟨1 - f, phw k (3 + f) (by grind) (.inr (.inr (.inl ⟨by grind, by grind, by grind⟩))), Q0⟩, ⟨1, phw k (1 + f) (by grind) (.inr (.inl ⟨by grind, by grind, rfl⟩)), V0⟩, ⟨0, phw (k - 1) (5 + f) (by rw [cm]; grind) (.inr (.inr (.inr ⟨by grind, by grind, rfl⟩))), P0⟩⟩
  · have ej : ((2 : Int) : Rat) = 2 := rfl
    rw [ej]
    exact ⟨_, _, _, rfl, ⟨0, phw k (4 + f) (by grind) (.inr (.inr (.inr ⟨by grind, by grind, rfl⟩))), P0⟩, ⟨1, phw k (2 + f) (by grind) (.inr (.inl ⟨by grind, by grind, rfl⟩)), V0⟩, ⟨f, phw k f (by grind) (.inl ⟨f0, f1, rfl⟩), T0⟩⟩
  · have ej : ((3 : Int) : Rat) = 3 := rfl
    rw [ej]
    exact ⟨_, _, _, rfl, ⟨0, phw k (5 + f) (by grind) (.inr (.inr (.inr ⟨by grind, by grind, rfl⟩))), P0⟩, ⟨1 - f, phw k (3 + f) (by grind) (.inr (.inr (.inl ⟨by grind, by grind, by grind⟩))), Q0⟩, ⟨1, phw k (1 + f) (by grind) (.inr (.inl ⟨by grind, by grind, rfl⟩)), V0⟩⟩
  · have ej : ((4 : Int) : Rat) = 4 := rfl
    rw [ej]
    exact ⟨_, _, _, rfl, ⟨f, phw (k + 1) f (by rw [cp]; grind) (.inl ⟨f0, f1, rfl⟩), T0⟩, ⟨0, phw k (4 + f) (by grind) (.inr (.inr (.inr ⟨by grind, by grind, rfl⟩))), P0⟩, ⟨1, phw k (2 + f) (by grind) (.inr (.inl ⟨by grind, by grind, rfl⟩)), V0⟩⟩
  · have ej : ((5 : Int) : Rat) = 5 := rfl
    rw [ej]
    exact ⟨_, _, _, rfl, ⟨1, phw (k + 1) (1 + f) (by rw [cp]; grind) (.inr (.inl ⟨by grind, by grind, rfl⟩)), V0⟩, ⟨0, phw k (5 + f) (by grind) (.inr (.inr (.inr ⟨by grind, by grind, rfl⟩))), P0⟩, ⟨1 - f, phw k (3 + f) (by grind) (.inr (.inr (.inl ⟨by grind, by grind, by grind⟩))), Q0⟩⟩
end Mine
end

section
open PySem PySem.Float64
set_option maxRecDepth 100000
set_option linter.unusedVariables false
set_option linter.unusedSectionVars false
set_option exponentiation.threshold 200
namespace Mine
theorem fin_0 : Fin' (0 : UInt64) ∧ Float64.val (0 : UInt64) = 0 := by
  have e : (0 : UInt64) = zero false := by decide +kernel
  rw [e]; exact ⟨fin_zero _, val_zero _⟩
theorem eq0_false {s : UInt64} {S : Rat} (hs : Ap s S u) (h : u < S) : eqF s 0 = false := by
  have a := hs.lo
  unfold eqF
  rw [eq_val hs.fin fin_0.1, fin_0.2]
  refine decide_eq_false fun e => ?_
  have : rv s = 0 := by unfold rv; rw [e]; grind
  rw [this] at a
  grind

theorem small128 {n : Int} (h0 : 0 ≤ n) (h1 : n < 128) : n.natAbs < 2 ^ 1023 := Nat.lt_of_lt_of_le (show n.natAbs < 2 ^ 7 by omega) (Nat.pow_le_pow_right (by decide) (by decide))
theorem InR.small {p : Col} (h : InR p) : p.1.natAbs < 2 ^ 1023 ∧ p.2.1.natAbs < 2 ^ 1023 ∧ p.2.2.natAbs < 2 ^ 1023 := ⟨small128 h.1.1 h.1.2, small128 h.2.1.1 h.2.1.2, small128 h.2.2.1 h.2.2.2⟩

section
variable {p : Col} (h : InR p)
include h

theorem mm_q (hc : mnI p < mxI p) : 0 ≤ qp (mnI p) ∧ qp (mnI p) + 1 / 128 ≤ qp (mxI p) ∧ qp (mxI p) ≤ 127 / 128 := by
  have hm := mm_in h
  exact ⟨(qp_in hm.1 (by omega)).1, qp_lt hc, (qp_in (by omega) hm.2.2).2⟩
theorem both_q : qp (bothI p) = qp (mnI p) + qp (mxI p) := by
  show qp (mxI p + mnI p) = _
  rw [qp_add]; grind
theorem rng_nz (hc : mnI p < mxI p) : isZero (sub (mxF p) (mnF p)) = false ∧ isZero (mxF p) = false := by
  have hm := mm_in h
  have hp := pow_pos' 1066
  constructor
  · rw [isZero_val (ex_rng h).fin, (ex_rng h).val]
    refine decide_eq_false fun e => ?_
    rcases Int.mul_eq_zero.mp e with e | e <;> omega
  · rw [isZero_val (ex_mx h).fin, (ex_mx h).val]
    refine decide_eq_false fun e => ?_
    rcases Int.mul_eq_zero.mp e with e | e <;> omega

theorem grey_turn (hc : mnI p = mxI p) : p = (mxI p, mxI p, mxI p) ∧ ∀ T, turnI p T = p := by
  have a := mx_spec h; have b := mn_spec h
  have e : p = (mxI p, mxI p, mxI p) := by
    obtain ⟨r, g, b'⟩ := p
    simp only [Prod.mk.injEq]
    simp only at a b
    omega
  refine ⟨e, fun T => ?_⟩
  induction T with
  | zero => rfl
  | succ T ih =>
    show turn1 (turnI p T) = p
    rw [ih]
    show (mxI p + mnI p - p.2.1, mxI p + mnI p - p.2.2, mxI p + mnI p - p.1) = p
    obtain ⟨r, g, b'⟩ := p
    simp only [Prod.mk.injEq]
    simp only at a b
    omega

theorem rd_all {a b c : UInt64} {T : Nat} (hT : T ≤ 6) (A : Ap a (qp (turnI p T).1) (400 * u)) (B : Ap b (qp (turnI p T).2.1) (400 * u)) (C : Ap c (qp (turnI p T).2.2) (400 * u)) {w : World} {mg mb : Str → Option Value} {k : Addr} :
    Fd w mg mb k 33 1 [.tup [.flt a, .flt b, .flt c]] (colD (turnI p T)) := by
  have ht := (all_turns p T h hT).1
  exact fd_read a b c (turnI p T) (near_rd40 A ht.1.1 ht.1.2) (near_rd40 B ht.2.1.1 ht.2.1.2) (near_rd40 C ht.2.2.1 ht.2.2.2)

theorem hsv_all (T : Nat) (hT : T ≤ 6) {w : World} {mg mb : Str → Option Value} {k : Addr} : ∃ d, Fd w mg mb k 32 3 [colD p, .int (T : Nat), .bool true] d ∧ Fd w mg mb k 33 1 [d] (colD (turnI p T)) := by
  have hu0 := u_pos
  have hu : u ≤ 1 / 1000000 := by unfold u; decide +kernel
  have hm := mm_in h
  have hTs : ((T : Nat) : Int).natAbs < 2 ^ 1023 := Nat.lt_of_lt_of_le (show ((T : Nat) : Int).natAbs < 2 ^ 7 by omega) (Nat.pow_le_pow_right (by decide) (by decide))
  rcases Int.lt_or_eq_of_le hm.2.1 with hc | hc
  · obtain ⟨q0, q1, q2⟩ := mm_q h hc
    obtain ⟨z1, z2⟩ := rng_nz h hc
    have he : eqF (mnF p) (mxF p) = false := by rw [eq_mm h]; exact decide_eq_false (by omega)
    obtain ⟨X, n, H, A, x0, x1⟩ := hue_near h hc (T := (T : Nat)) (by omega) (by omega)
    have a1 := A.up; have a2 := A.lo
    -- the saturation
    have e1 := ex_rng h
    have e2 := ex_mx h
    have r1 : rv (sub (mxF p) (mnF p)) = qp (mxI p) - qp (mnI p) := by rw [qp_ex e1, qp_sub]
    have r2 : rv (mxF p) = qp (mxI p) := qp_ex e2
    obtain ⟨s0, s1, sV⟩ := frac01 (a := qp (mxI p) - qp (mnI p)) (d := qp (mxI p)) (by grind) (by grind) (by grind)
    have S := div0 e1.fin e2.fin (by rw [r2]; grind) (by rw [r1, r2]; grind) (by rw [r1, r2]; grind)
    rw [r1, r2] at S
    have sbig : u < (qp (mxI p) - qp (mnI p)) / qp (mxI p) := by
      refine (Rat.mul_lt_mul_left (show 0 < qp (mxI p) by grind)).mp ?_
      have : qp (mxI p) * ((qp (mxI p) - qp (mnI p)) / qp (mxI p)) = qp (mxI p) - qp (mnI p) := by rw [Rat.mul_comm]; exact sV
      rw [this]
      have := Rat.mul_le_mul_of_nonneg_left (show qp (mxI p) ≤ 1 by grind) (show 0 ≤ u by grind)
      grind
    have S' : Ap (satF (c128 p.1) (c128 p.2.1) (c128 p.2.2)) ((qp (mxI p) - qp (mnI p)) / qp (mxI p)) u := S
    have Vx : Ap (mxF p) (qp (mxI p)) 0 := ⟨e2.fin, by rw [r2]; grind, by rw [r2]; grind⟩
    obtain ⟨⟨f1, f2, f3, f4⟩, G, a, b, c, eq, ⟨ya, fa, Aa⟩, ⟨yb, fb, Ab⟩, ⟨yc, fc, Ac⟩⟩ := hsv_out (x := add (hueF (c128 p.1) (c128 p.2.1) (c128 p.2.2)) (sixthF ((T : Nat) : Int))) Vx S' sV s0 s1 (by grind) (by grind) A.fin x0 x1
    have g1 := G.up; have g2 := G.lo
    have c1 := fd_hsv_col (w := w) (mg := mg) (mb := mb) (k := k) (c128 p.1) (c128 p.2.1) (c128 p.2.2) he z1 z2
    have c2 := fd_rgb_hsv (w := w) (mg := mg) (mb := mb) (k := k) (add (hueF (c128 p.1) (c128 p.2.1) (c128 p.2.2)) (sixthF ((T : Nat) : Int))) (satF (c128 p.1) (c128 p.2.1) (c128 p.2.2)) (mxF p) (eq0_false S' sbig) f1 f2 f3 f4
    rw [eq] at c2
    refine ⟨_, fd_by_hsv p _ _ _ _ a b c hTs h.small c1 c2, ?_⟩
    have Ht := H.turns (both_q h) T
    have tc : (((T : Nat) : Int) : Rat) = (T : Rat) := Rat.intCast_natCast T
    rw [tc] at a1 a2
    have cn : ((-n : Int) : Rat) = -(n : Rat) := by push_cast; rfl
    obtain ⟨⟨y1, t1, k1⟩, ⟨y2, t2, k2⟩, ⟨y3, t3, k3⟩⟩ := Ht
    have t1' := t1.shift (-n)
    have t2' := t2.shift (-n)
    have t3' := t3.shift (-n)
    rw [cn] at t1' t2' t3'
    have n1 := fa.near (δ := 38 * u) t1' (by grind) (by grind) (by grind)
    have n2 := fb.near (δ := 38 * u) t2' (by grind) (by grind) (by grind)
    have n3 := fc.near (δ := 38 * u) t3' (by grind) (by grind) (by grind)
    exact rd_all h hT ((close Aa n1.1 n1.2 k1 (by grind) (by grind) (by grind)).weak (by grind)) ((close Ab n2.1 n2.2 k2 (by grind) (by grind) (by grind)).weak (by grind)) ((close Ac n3.1 n3.2 k3 (by grind) (by grind) (by grind)).weak (by grind))
  · obtain ⟨eg, et⟩ := grey_turn h hc
    have he : eqF (mnF p) (mxF p) = true := by rw [eq_mm h]; exact decide_eq_true hc
    have c1 := fd_hsv_grey (w := w) (mg := mg) (mb := mb) (k := k) (c128 p.1) (c128 p.2.1) (c128 p.2.2) he
    have c2 := fd_rgb_hsv_grey (w := w) (mg := mg) (mb := mb) (k := k) (add 0 (sixthF ((T : Nat) : Int))) 0 (mxF p) (by decide +kernel)
    refine ⟨_, fd_by_hsv p _ _ _ _ _ _ _ hTs h.small c1 c2, ?_⟩
    have A : Ap (mxF p) (qp (mxI p)) (400 * u) := ⟨(ex_mx h).fin, by rw [qp_ex (ex_mx h)]; grind, by rw [qp_ex (ex_mx h)]; grind⟩
    have e1 : p.1 = mxI p := by rw [eg]; exact congrArg mxI eg
    refine rd_all h hT ?_ ?_ ?_ <;> rw [et T]
    · rw [show p.1 = mxI p from congrArg Prod.fst eg]; exact A
    · rw [show p.2.1 = mxI p from congrArg (fun q => q.2.1) eg]; exact A
    · rw [show p.2.2 = mxI p from congrArg (fun q => q.2.2) eg]; exact A
end
end Mine
end

section
open PySem PySem.Float64
set_option maxRecDepth 100000
set_option linter.unusedVariables false
set_option linter.unusedSectionVars false
set_option exponentiation.threshold 200
namespace Mine
theorem ap_third : Ap oneThird (1 / 3) u := by
  have := div0 x1.fin x3.fin (by rw [x3.rv0]; decide) (by rw [x1.rv0, x3.rv0]; decide +kernel) (by rw [x1.rv0, x3.rv0]; decide +kernel)
  rw [x1.rv0, x3.rv0] at this
  exact this
theorem ap_sixth : Ap oneSixth (1 / 6) u := by
  have := div0 x1.fin x6.fin (by rw [x6.rv0]; decide) (by rw [x1.rv0, x6.rv0]; decide +kernel) (by rw [x1.rv0, x6.rv0]; decide +kernel)
  rw [x1.rv0, x6.rv0] at this
  exact this
theorem ap_two3 : Ap twoThird (2 / 3) u := by
  have := div0 x2.fin x3.fin (by rw [x3.rv0]; decide) (by rw [x2.rv0, x3.rv0]; decide +kernel) (by rw [x2.rv0, x3.rv0]; decide +kernel)
  rw [x2.rv0, x3.rv0] at this
  exact this

theorem v_near {m1 m2 x : UInt64} {m M : Rat} (h1 : Ap m1 m (13 * u)) (h2 : Ap m2 M (13 * u)) (m0 : 0 ≤ m) (mM : m ≤ M) (M1 : M ≤ 1) (hx : Fin' x) :
    ∃ z y, Ph z y ∧ z - 6 * rv x ≤ 14 * u ∧ 6 * rv x - z ≤ 14 * u ∧ Ap (vF m1 m2 x) (m + (M - m) * y) (300 * u) := by
  have hu0 := u_pos
  have hu : u ≤ 1 / 1000000 := by unfold u; decide +kernel
  have huu : u * u ≤ 1 / 1000 * u := by unfold u; decide +kernel
  obtain ⟨n, Y, y0, y1⟩ := mod1_near hx
  have Y1 := Y.up; have Y2 := Y.lo
  have c6 := ap_sixth; have c3 := ap_two3
  have c61 := c6.up; have c62 := c6.lo; have c31 := c3.up; have c32 := c3.lo
  have hh := xhalf.rv0
  have Yx : Ap (mod1F x) (rv (mod1F x)) 0 := ⟨Y.fin, by grind, by grind⟩
  have D := (ap_sub h2 h1 (by grind) (by grind) (by grind)).weak (δ := 27 * u) (by grind)
  have y0' : 0 ≤ rv (mod1F x) := y0
  have y1' : rv (mod1F x) ≤ 1 := y1
  have Y1' : rv (mod1F x) - (rv x - n) ≤ u := Y1
  have Y2' : rv x - n - rv (mod1F x) ≤ u := Y2
  have lt6 := rv_lt Yx.fin c6.fin
  have lt5 := rv_lt Yx.fin xhalf.fin
  have lt3 := rv_lt Yx.fin c3.fin
  rw [hh] at lt5
  generalize hY : rv (mod1F x) = Yv at *
  obtain ⟨P1, P2⟩ := prod_le (p := M - m) (q := Yv) (P := 1) (Q := 1) (by grind) (by grind) (by grind) (by grind)
  have P3 := Rat.mul_nonneg (show 0 ≤ M - m by grind) y0'
  unfold vF ltB
  by_cases b1 : (cmp (mod1F x) oneSixth == some .lt) = true
  · rw [if_pos b1]
    have b1' := lt6.mp b1
    have A1 := (ap_mul (a := 1) (b := 1) D Yx (by grind) (by grind) (by grind) (by grind) (by grind) (by grind)).weak (δ := 30 * u) (by grind)
    have A2 := (ap_mul (a := 1) (b := 6) A1 x6 (by grind) (by grind) (by grind) (by grind) (by grind) (by grind)).weak (δ := 190 * u) (by grind)
    have A3 := ap_add h1 A2 (by grind) (by grind) (by grind)
    by_cases b2 : 6 * Yv ≤ 1
    · exact ⟨6 * Yv + 6 * n, 6 * Yv, phw n (6 * Yv) rfl (.inl ⟨by grind, b2, rfl⟩), by grind, by grind, (A3.weak (by grind)).eq (by grind)⟩
    · have e := Rat.mul_le_mul_of_nonneg_left (show 6 * Yv - 1 ≤ 6 * u by grind) (show 0 ≤ M - m by grind)
      have e2 := Rat.mul_nonneg (show 0 ≤ M - m by grind) (show 0 ≤ 6 * Yv - 1 by grind)
      have e3 := Rat.mul_le_mul_of_nonneg_left (show M - m ≤ 1 by grind) (show 0 ≤ 6 * u by grind)
      have a1 := A3.up; have a2 := A3.lo
      exact ⟨1 + 6 * n, 1, phw n 1 rfl (.inl ⟨by grind, by grind, rfl⟩), by grind, by grind, ⟨A3.fin, by grind, by grind⟩⟩
  · rw [if_neg b1]
    have b1' : ¬ Yv < rv oneSixth := fun e => b1 (lt6.mpr e)
    by_cases b2 : (cmp (mod1F x) 0x3fe0000000000000 == some .lt) = true
    · rw [if_pos b2]
      have b2' := lt5.mp b2
      have A := (h2.weak (δ := 300 * u) (by grind)).eq (s := m + (M - m) * 1) (by grind)
      by_cases b3 : 1 ≤ 6 * Yv
      · exact ⟨6 * Yv + 6 * n, 1, phw n (6 * Yv) rfl (.inr (.inl ⟨b3, by grind, rfl⟩)), by grind, by grind, A⟩
      · exact ⟨1 + 6 * n, 1, phw n 1 rfl (.inr (.inl ⟨by grind, by grind, rfl⟩)), by grind, by grind, A⟩
    · rw [if_neg b2]
      have b2' : ¬ Yv < 1 / 2 := fun e => b2 (lt5.mpr e)
      by_cases b3 : (cmp (mod1F x) twoThird == some .lt) = true
      · rw [if_pos b3]
        have b3' := lt3.mp b3
        have B := (ap_sub c3 Yx (by grind) (by grind) (by grind)).weak (δ := 2 * u) (by grind)
        obtain ⟨Q1, Q2⟩ := prod_le (p := M - m) (q := 2 / 3 - Yv) (P := 1) (Q := 1) (by grind) (by grind) (by grind) (by grind)
        have A1 := (ap_mul (a := 1) (b := 1) D B (by grind) (by grind) (by grind) (by grind) (by grind) (by grind)).weak (δ := 32 * u) (by grind)
        have A2 := (ap_mul (a := 1) (b := 6) A1 x6 (by grind) (by grind) (by grind) (by grind) (by grind) (by grind)).weak (δ := 200 * u) (by grind)
        have Q3 : (M - m) * (2 / 3 - Yv) ≤ 1 / 6 := by
          have e1 := Rat.mul_le_mul_of_nonneg_left (show 2 / 3 - Yv ≤ 1 / 6 by grind) (show 0 ≤ M - m by grind)
          grind
        have A3 := ap_add h1 A2 (by grind) (by grind) (by grind)
        by_cases b4 : 6 * Yv ≤ 4
        · exact ⟨6 * Yv + 6 * n, 4 - 6 * Yv, phw n (6 * Yv) rfl (.inr (.inr (.inl ⟨by grind, b4, rfl⟩))), by grind, by grind, (A3.weak (by grind)).eq (by grind)⟩
        · have e := Rat.mul_le_mul_of_nonneg_left (show 6 * Yv - 4 ≤ 6 * u by grind) (show 0 ≤ M - m by grind)
          have e2 := Rat.mul_nonneg (show 0 ≤ M - m by grind) (show 0 ≤ 6 * Yv - 4 by grind)
          have e3 := Rat.mul_le_mul_of_nonneg_left (show M - m ≤ 1 by grind) (show 0 ≤ 6 * u by grind)
          have a1 := A3.up; have a2 := A3.lo
          exact ⟨4 + 6 * n, 0, phw n 4 rfl (.inr (.inr (.inl ⟨by grind, by grind, by grind⟩))), by grind, by grind, ⟨A3.fin, by grind, by grind⟩⟩
      · rw [if_neg b3]
        have b3' : ¬ Yv < rv twoThird := fun e => b3 (lt3.mpr e)
        have A := (h1.weak (δ := 300 * u) (by grind)).eq (s := m + (M - m) * 0) (by grind)
        by_cases b4 : 4 ≤ 6 * Yv
        · exact ⟨6 * Yv + 6 * n, 0, phw n (6 * Yv) rfl (.inr (.inr (.inr ⟨b4, by grind, rfl⟩))), by grind, by grind, A⟩
        · exact ⟨4 + 6 * n, 0, phw n 4 rfl (.inr (.inr (.inr ⟨by grind, by grind, rfl⟩))), by grind, by grind, A⟩

theorem ex_of_rv {x : UInt64} {n : Int} (hf : Fin' x) (h : rv x = (n : Rat) / 256) : Ex x n := by
  refine ⟨hf, ?_⟩
  have e := rv_mul x
  rw [h] at e
  have eK : ((K : Nat) : Rat) = 256 * ((2 ^ 1066 : Nat) : Rat) := by
    have : K = 256 * 2 ^ 1066 := by unfold K; rw [show (256 : Nat) = 2 ^ 8 by decide, ← Nat.pow_add]
    rw [this]; push_cast; rfl
  rw [eK] at e
  have e2 : (Float64.val x : Rat) = ((n * 2 ^ 1066 : Int) : Rat) := by
    rw [← e, Rat.intCast_mul]
    have : (((2 : Int) ^ 1066 : Int) : Rat) = ((2 ^ 1066 : Nat) : Rat) := by push_cast; rfl
    rw [this]
    have := Rat.div_mul_cancel (a := (n : Rat)) (b := 256) (by decide)
    grind
  exact Rat.intCast_inj.mp e2
theorem ex_two : Ex 0x4000000000000000 512 := ex_of_rv x2.fin (by rw [x2.rv0]; decide +kernel)

section
variable {p : Col} (h : InR p)
include h
theorem ex_sum : Ex (add (mxF p) (mnF p)) (2 * (mxI p + mnI p)) := by
  have := mm_in h
  have := ex_add (ex_mx h) (ex_mn h) (by omega)
  rw [← Int.mul_add] at this; exact this
theorem ex_rest : Ex (sub (sub 0x4000000000000000 (mxF p)) (mnF p)) (2 * (256 - mxI p - mnI p)) := by
  have := mm_in h
  have e1 := ex_sub ex_two (ex_mx h) (by omega)
  have e2 := ex_sub e1 (ex_mn h) (by omega)
  rw [show (512 : Int) - 2 * mxI p - 2 * mnI p = 2 * (256 - mxI p - mnI p) by omega] at e2
  exact e2
theorem ap_lum : Ap (lumF (c128 p.1) (c128 p.2.1) (c128 p.2.2)) ((qp (mxI p) + qp (mnI p)) / 2) u := by
  have hm := mm_in h
  have q1 := qp_in hm.1 (by omega)
  have q2 := qp_in (n := mxI p) (by omega) hm.2.2
  have e := ex_sum h
  have r : rv (add (mxF p) (mnF p)) = qp (mxI p) + qp (mnI p) := by rw [qp_ex e, qp_add]
  have := div0 e.fin x2.fin (by rw [x2.rv0]; decide) (by rw [r, x2.rv0]; grind) (by rw [r, x2.rv0]; grind)
  rw [r, x2.rv0] at this
  exact this

theorem nz_of {x : UInt64} {n : Int} (e : Ex x (2 * n)) (hn : n ≠ 0) : isZero x = false := by
  rw [isZero_val e.fin, e.val]
  have hp := pow_pos' 1066
  refine decide_eq_false fun e => ?_
  rcases Int.mul_eq_zero.mp e with e | e <;> omega

theorem hls_sat (hc : mnI p < mxI p) : ∃ S, Ap (hlsSF (c128 p.1) (c128 p.2.1) (c128 p.2.2)) S u ∧ u < S ∧
    Ap (m2F (lumF (c128 p.1) (c128 p.2.1) (c128 p.2.2)) (hlsSF (c128 p.1) (c128 p.2.1) (c128 p.2.2))) (qp (mxI p)) (13 * u) ∧ Ap (m1F (lumF (c128 p.1) (c128 p.2.1) (c128 p.2.2)) (hlsSF (c128 p.1) (c128 p.2.1) (c128 p.2.2))) (qp (mnI p)) (13 * u) := by
  have hu0 := u_pos
  have hu : u ≤ 1 / 1000000 := by unfold u; decide +kernel
  have huu : u * u ≤ 1 / 1000 * u := by unfold u; decide +kernel
  have hm := mm_in h
  obtain ⟨q0, q1, q2⟩ := mm_q h hc
  have L := ap_lum h
  have e1 := ex_rng h
  have r1 : rv (sub (mxF p) (mnF p)) = qp (mxI p) - qp (mnI p) := by rw [qp_ex e1, qp_sub]
  unfold hlsSF m1F m2F
  by_cases hl : leF (lumF (c128 p.1) (c128 p.2.1) (c128 p.2.2)) 0x3fe0000000000000 = true
  · rw [if_pos hl, if_pos hl]
    have e2 := ex_sum h
    have r2 : rv (add (mxF p) (mnF p)) = qp (mxI p) + qp (mnI p) := by rw [qp_ex e2, qp_add]
    obtain ⟨s0, s1, sV⟩ := frac01 (a := qp (mxI p) - qp (mnI p)) (d := qp (mxI p) + qp (mnI p)) (by grind) (by grind) (by grind)
    have S := div0 e1.fin e2.fin (by rw [r2]; grind) (by rw [r1, r2]; grind) (by rw [r1, r2]; grind)
    rw [r1, r2] at S
    have sbig : u < (qp (mxI p) - qp (mnI p)) / (qp (mxI p) + qp (mnI p)) := by
      refine (Rat.mul_lt_mul_left (show 0 < qp (mxI p) + qp (mnI p) by grind)).mp ?_
      have e : (qp (mxI p) + qp (mnI p)) * ((qp (mxI p) - qp (mnI p)) / (qp (mxI p) + qp (mnI p))) = qp (mxI p) - qp (mnI p) := by rw [Rat.mul_comm]; exact sV
      rw [e]
      have := Rat.mul_le_mul_of_nonneg_left (show qp (mxI p) + qp (mnI p) ≤ 2 by grind) (show 0 ≤ u by grind)
      grind
    generalize (qp (mxI p) - qp (mnI p)) / (qp (mxI p) + qp (mnI p)) = s at *
    have S' : Ap (div (sub (max3F (c128 p.1) (c128 p.2.1) (c128 p.2.2)) (min3F (c128 p.1) (c128 p.2.1) (c128 p.2.2))) (add (max3F (c128 p.1) (c128 p.2.1) (c128 p.2.2)) (min3F (c128 p.1) (c128 p.2.1) (c128 p.2.2)))) s u := S
    generalize div (sub (max3F (c128 p.1) (c128 p.2.1) (c128 p.2.2)) (min3F (c128 p.1) (c128 p.2.1) (c128 p.2.2))) (add (max3F (c128 p.1) (c128 p.2.1) (c128 p.2.2)) (min3F (c128 p.1) (c128 p.2.1) (c128 p.2.2))) = sF at *
    have A0 := (ap_add x1 S' (by grind) (by grind) (by grind)).weak (δ := 2 * u) (by grind)
    have A1 := ((ap_mul (a := 1) (b := 2) L A0 (by grind) (by grind) (by grind) (by grind) (by grind) (by grind)).weak (δ := 10 * u) (by grind)).eq (s := qp (mxI p)) (by grind)
    have A3 := ((ap_mul (a := 1) (b := 2) L A0 (by grind) (by grind) (by grind) (by grind) (by grind) (by grind)).weak (δ := 7 * u) (by grind)).eq (s := qp (mxI p)) (by grind)
    have l2 := (ap_mul (a := 2) (b := 1) x2 L (by grind) (by grind) (by grind) (by grind) (by grind) (by grind)).weak (δ := 2 * u + u) (by grind)
    exact ⟨s, S', sbig, A1.weak (by grind), ((ap_sub l2 A3 (by grind) (by grind) (by grind)).weak (by grind)).eq (by grind)⟩
  · rw [if_neg hl, if_neg hl]
    have e2 := ex_rest h
    have r2 : rv (sub (sub 0x4000000000000000 (mxF p)) (mnF p)) = 2 - qp (mxI p) - qp (mnI p) := by
      rw [qp_ex e2, qp_sub, qp_sub]
      have : qp 256 = 2 := by unfold qp; decide +kernel
      rw [this]
    obtain ⟨s0, s1, sV⟩ := frac01 (a := qp (mxI p) - qp (mnI p)) (d := 2 - qp (mxI p) - qp (mnI p)) (by grind) (by grind) (by grind)
    have S := div0 e1.fin e2.fin (by rw [r2]; grind) (by rw [r1, r2]; grind) (by rw [r1, r2]; grind)
    rw [r1, r2] at S
    have sbig : u < (qp (mxI p) - qp (mnI p)) / (2 - qp (mxI p) - qp (mnI p)) := by
      refine (Rat.mul_lt_mul_left (show 0 < 2 - qp (mxI p) - qp (mnI p) by grind)).mp ?_
      have e : (2 - qp (mxI p) - qp (mnI p)) * ((qp (mxI p) - qp (mnI p)) / (2 - qp (mxI p) - qp (mnI p))) = qp (mxI p) - qp (mnI p) := by rw [Rat.mul_comm]; exact sV
      rw [e]
      have := Rat.mul_le_mul_of_nonneg_left (show 2 - qp (mxI p) - qp (mnI p) ≤ 2 by grind) (show 0 ≤ u by grind)
      grind
    generalize (qp (mxI p) - qp (mnI p)) / (2 - qp (mxI p) - qp (mnI p)) = s at *
    have S' : Ap (div (sub (max3F (c128 p.1) (c128 p.2.1) (c128 p.2.2)) (min3F (c128 p.1) (c128 p.2.1) (c128 p.2.2))) (sub (sub 0x4000000000000000 (max3F (c128 p.1) (c128 p.2.1) (c128 p.2.2))) (min3F (c128 p.1) (c128 p.2.1) (c128 p.2.2)))) s u := S
    generalize div (sub (max3F (c128 p.1) (c128 p.2.1) (c128 p.2.2)) (min3F (c128 p.1) (c128 p.2.1) (c128 p.2.2))) (sub (sub 0x4000000000000000 (max3F (c128 p.1) (c128 p.2.1) (c128 p.2.2))) (min3F (c128 p.1) (c128 p.2.1) (c128 p.2.2))) = sF at *
    have A0 := (ap_add L S' (by grind) (by grind) (by grind)).weak (δ := 3 * u) (by grind)
    have A1 := (ap_mul (a := 1) (b := 1) L S' (by grind) (by grind) (by grind) (by grind) (by grind) (by grind)).weak (δ := 4 * u) (by grind)
    obtain ⟨P1, P2⟩ := prod_le (p := (qp (mxI p) + qp (mnI p)) / 2) (q := s) (P := 1) (Q := 1) (by grind) (by grind) (by grind) (by grind)
    have P3 := Rat.mul_nonneg (show 0 ≤ (qp (mxI p) + qp (mnI p)) / 2 by grind) s0
    have A2 := ((ap_sub A0 A1 (by grind) (by grind) (by grind)).weak (δ := 8 * u) (by grind)).eq (s := qp (mxI p)) (by grind)
    have l2 := (ap_mul (a := 2) (b := 1) x2 L (by grind) (by grind) (by grind) (by grind) (by grind) (by grind)).weak (δ := 2 * u + u) (by grind)
    exact ⟨s, S', sbig, A2.weak (by grind), ((ap_sub l2 A2 (by grind) (by grind) (by grind)).weak (by grind)).eq (by grind)⟩
end
end Mine
end

section
open PySem PySem.Float64
set_option maxRecDepth 100000
set_option linter.unusedVariables false
set_option linter.unusedSectionVars false
set_option exponentiation.threshold 200
namespace Mine
section
variable {p : Col} (h : InR p)
include h
theorem hls_all (T : Nat) (hT : T ≤ 6) {w : World} {mg mb : Str → Option Value} {k : Addr} : ∃ d, Fd w mg mb k 32 3 [colD p, .int (T : Nat), .bool false] d ∧ Fd w mg mb k 33 1 [d] (colD (turnI p T)) := by
  have hu0 := u_pos
  have hu : u ≤ 1 / 1000000 := by unfold u; decide +kernel
  have hm := mm_in h
  have hTs : ((T : Nat) : Int).natAbs < 2 ^ 1023 := Nat.lt_of_lt_of_le (show ((T : Nat) : Int).natAbs < 2 ^ 7 by omega) (Nat.pow_le_pow_right (by decide) (by decide))
  rcases Int.lt_or_eq_of_le hm.2.1 with hc | hc
  · obtain ⟨q0, q1, q2⟩ := mm_q h hc
    obtain ⟨z1, z2⟩ := rng_nz h hc
    have he : eqF (mnF p) (mxF p) = false := by rw [eq_mm h]; exact decide_eq_false (by omega)
    obtain ⟨X, n, H, A, x0, x1⟩ := hue_near h hc (T := (T : Nat)) (by omega) (by omega)
    have a1 := A.up; have a2 := A.lo
    obtain ⟨S, S', sbig, M2, M1⟩ := hls_sat h hc
    have c1 := fd_hls_col (w := w) (mg := mg) (mb := mb) (k := k) (c128 p.1) (c128 p.2.1) (c128 p.2.2) he z1 (fun _ => nz_of h (ex_sum h) (by omega)) (fun _ => nz_of h (ex_rest h) (by omega))
    have c2 := fd_rgb_hls (w := w) (mg := mg) (mb := mb) (k := k) (add (hueF (c128 p.1) (c128 p.2.1) (c128 p.2.2)) (sixthF ((T : Nat) : Int))) (lumF (c128 p.1) (c128 p.2.1) (c128 p.2.2)) (hlsSF (c128 p.1) (c128 p.2.1) (c128 p.2.2)) (eq0_false S' sbig)
    refine ⟨_, fd_by_hls p _ _ _ _ _ _ _ hTs h.small c1 c2, ?_⟩
    generalize lumF (c128 p.1) (c128 p.2.1) (c128 p.2.2) = l at *
    generalize hlsSF (c128 p.1) (c128 p.2.1) (c128 p.2.2) = s at *
    have tc : (((T : Nat) : Int) : Rat) = (T : Rat) := Rat.intCast_natCast T
    rw [tc] at a1 a2
    have hx := A.fin
    generalize add (hueF (c128 p.1) (c128 p.2.1) (c128 p.2.2)) (sixthF ((T : Nat) : Int)) = x at *
    have o1 := ap_third.up; have o2 := ap_third.lo
    have R := add0 hx ap_third.fin (by grind) (by grind)
    have B := sub0 hx ap_third.fin (by grind) (by grind)
    have r1 := R.up; have r2 := R.lo; have b1 := B.up; have b2 := B.lo
    obtain ⟨zr, yr, fr, zr1, zr2, Ar⟩ := v_near M1 M2 q0 (by grind) (by grind) R.fin
    obtain ⟨zg, yg, fg, zg1, zg2, Ag⟩ := v_near M1 M2 q0 (by grind) (by grind) hx
    obtain ⟨zb, yb, fb, zb1, zb2, Ab⟩ := v_near M1 M2 q0 (by grind) (by grind) B.fin
    have Ht := H.turns (both_q h) T
    have cn : ((-n : Int) : Rat) = -(n : Rat) := by push_cast; rfl
    obtain ⟨⟨y1, t1, k1⟩, ⟨y2, t2, k2⟩, ⟨y3, t3, k3⟩⟩ := Ht
    have t1' := t1.shift (-n)
    have t2' := t2.shift (-n)
    have t3' := t3.shift (-n)
    rw [cn] at t1' t2' t3'
    have n1 := fr.near (δ := 80 * u) t1' (by grind) (by grind) (by grind)
    have n2 := fg.near (δ := 80 * u) t2' (by grind) (by grind) (by grind)
    have n3 := fb.near (δ := 80 * u) t3' (by grind) (by grind) (by grind)
    exact rd_all h hT ((close Ar n1.1 n1.2 k1 (by grind) (by grind) (by grind)).weak (by grind)) ((close Ag n2.1 n2.2 k2 (by grind) (by grind) (by grind)).weak (by grind)) ((close Ab n3.1 n3.2 k3 (by grind) (by grind) (by grind)).weak (by grind))
  · obtain ⟨eg, et⟩ := grey_turn h hc
    have he : eqF (mnF p) (mxF p) = true := by rw [eq_mm h]; exact decide_eq_true hc
    have c1 := fd_hls_grey (w := w) (mg := mg) (mb := mb) (k := k) (c128 p.1) (c128 p.2.1) (c128 p.2.2) he
    have c2 := fd_rgb_hls_grey (w := w) (mg := mg) (mb := mb) (k := k) (add 0 (sixthF ((T : Nat) : Int))) (lumF (c128 p.1) (c128 p.2.1) (c128 p.2.2)) 0 (by decide +kernel)
    refine ⟨_, fd_by_hls p _ _ _ _ _ _ _ hTs h.small c1 c2, ?_⟩
    have A : Ap (lumF (c128 p.1) (c128 p.2.1) (c128 p.2.2)) (qp (mxI p)) (400 * u) := ((ap_lum h).weak (by grind)).eq (by rw [hc]; grind)
    refine rd_all h hT ?_ ?_ ?_ <;> rw [et T]
    · exact A.eq (congrArg qp (show p.1 = mxI p from congrArg Prod.fst eg).symm)
    · exact A.eq (congrArg qp (show p.2.1 = mxI p from congrArg (fun q => q.2.1) eg).symm)
    · exact A.eq (congrArg qp (show p.2.2 = mxI p from congrArg (fun q => q.2.2) eg).symm)
end

theorem call_is_ok : CallOk PH := call_ok all_good all_turns (fun w mg mb k p h => fd_yiq_all p h) fun w mg mb k p T b h hT => by
  cases b with
  | false => exact hls_all h T hT
  | true => exact hsv_all h T hT
end Mine
end

open PySem PySem.W PyProof.Rows
set_option maxRecDepth 100000
namespace Mine
abbrev L0 : OpenLaw := PySem.Challenge.rw_mq0338_01
theorem looks_open : looksOpen L0.row.prog = true := by
  unfold looksOpen
  repeat' (with_reducible refine look_both ?_ ?_)
  all_goals decide +kernel
theorem row_said0 : L0.row.wellSaid = true := by
  unfold OpenRow.wellSaid OpenRow.partSaid
  repeat' (with_reducible refine look_both ?_ ?_)
  all_goals first | (with_reducible exact looks_open) | decide +kernel
theorem law_said0 : L0.wellSaid = true := by
  unfold OpenLaw.wellSaid
  repeat' (with_reducible refine look_both ?_ ?_)
  all_goals first | (with_reducible exact row_said0) | decide +kernel
theorem promised0 : R0.promised := by w_witness2
end Mine
theorem PySem.Challenge.cw_mq0338_01_holds : PySem.Challenge.rw_mq0338_01.Holds :=
  holds_law Mine.law_said0 fun s => ⟨s, Mine.promised0, Mine.holds_main (fun _ _ _ x k => x.keeps k) Mine.top_ok Mine.pin_ok Mine.call_is_ok Mine.promised0 _⟩
