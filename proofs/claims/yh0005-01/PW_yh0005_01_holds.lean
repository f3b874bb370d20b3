import PyProof.Rows.All
import Wide.All
import OpenK.AllK
import Wide.FinOn
import KE.KNestM
import Lean
import PySem.Challenge.RW_yh0005_01
set_option Elab.async false
section
open PySem PySem.W PyProof.Rows PySem.Calls
open PySem.Sem (wp)
set_option maxRecDepth 100000
set_option maxHeartbeats 4000000
namespace Mine
/-! The logic over the contexts in which the claim's caller stands on the stack. -/
noncomputable def HasC (Γ : Ctx) : Prop := ∀ p, (((Γ.code, p) :: Γ.below).map (·.1)).any Code.isCaller = true
noncomputable def HasB (Γ : Ctx) : Prop := (Γ.below.map (·.1)).any Code.isCaller = true
noncomputable def wpC {α : Type} (M : Model) (A : Around) (t : Sem α) (Q : α → Shared → Prop) (E : Value → Shared → Prop) (s : Shared) : Prop :=
  ∀ Γ p, Γ.In A → HasC Γ → wp M Γ t (fun a _ s' => Q a s') (fun e _ s' => E e s') p s
noncomputable def codeC (M : Model) (A : Around) (c : Code) (R : Result → Shared → Prop) (s : Shared) : Prop :=
  ∀ Γ p, Γ.code = c → Γ.Below A → HasB Γ → wpCode M Γ R p s

theorem HasB.has {Γ : Ctx} (h : HasB Γ) : HasC Γ := fun p => by
  unfold HasB at h
  rw [List.map_cons, List.any_cons, h, Bool.or_true]
theorem HasC.enter {Γ : Ctx} (h : HasC Γ) (c : Code) (hd : Option Value) (p : Pos) : HasB (Γ.enter c hd p) := h p

section
variable {α β : Type} {M : Model} {A : Around} {E : Value → Shared → Prop} {s : Shared}
theorem wpC_of_any {t : Sem α} {Q : α → Shared → Prop} (h : wpAny M A t Q E s) : wpC M A t Q E s := fun Γ p hΓ _ => h Γ p hΓ
theorem codeC_of_any {c : Code} {R : Result → Shared → Prop} (h : codeAny M A c R s) : codeC M A c R s := fun Γ p hc hΓ _ => h Γ p hc hΓ
theorem wpC_mono {t : Sem α} {Q Q' : α → Shared → Prop} {E' : Value → Shared → Prop} (h : wpC M A t Q E s)
    (hQ : ∀ a s, Q a s → Q' a s) (hE : ∀ e s, E e s → E' e s) : wpC M A t Q' E' s :=
  fun Γ p hΓ hC => Sem.wp_mono M Γ t (fun a _ s => hQ a s) (fun e _ s => hE e s) p s (h Γ p hΓ hC)
theorem codeC_mono {c : Code} {R R' : Result → Shared → Prop} (h : codeC M A c R s) (hR : ∀ r s, R r s → R' r s) : codeC M A c R' s :=
  fun Γ p hc hΓ hB => wpCode_mono hR (h Γ p hc hΓ hB)
theorem wpC_bind {m : Sem α} {f : α → Sem β} {Q : β → Shared → Prop} (h : wpC M A m (fun a s' => wpC M A (f a) Q E s') E s) : wpC M A (m >>= f) Q E s := fun Γ p hΓ hC => by
  rw [Sem.wp_bind']
  exact Sem.wp_mono M Γ m (fun a p' s' h' => h' Γ p' hΓ hC) (fun _ _ _ h' => h') p s (h Γ p hΓ hC)
theorem wpC_onRaise {m : Sem α} {k : Value → Sem Unit} {Q : α → Shared → Prop}
    (h : wpC M A m Q (fun e s' => wpAny M A (k e) (fun _ s'' => E e s'') E s') s) : wpC M A (m.onRaise k) Q E s := fun Γ p hΓ hC => by
  rw [Sem.wp_onRaise]
  exact Sem.wp_mono M Γ m (fun _ _ _ h' => h') (fun e p' s' h' => h' Γ p' hΓ) p s (h Γ p hΓ hC)
theorem wpC_attempt {m : Sem α} {Q : Except Value α → Shared → Prop} (h : wpC M A m (fun a => Q (.ok a)) (fun e => Q (.error e)) s) :
    wpC M A m.attempt Q E s := fun Γ p hΓ hC => by rw [Sem.wp_attempt]; exact h Γ p hΓ hC
theorem wpC_holding {vs : List Value} {m : Sem α} {Q : α → Shared → Prop} (h : wpC M A m Q E s) : wpC M A (holding vs m) Q E s :=
  fun Γ p hΓ hC => by rw [Sem.wp_holding]; exact h Γ p hΓ hC
theorem wpC_keep {vs : List Value} {m : Sem α} {Q : α → Shared → Prop} (h : wpC M A m Q E s) : wpC M A (m.keep vs) Q E s :=
  fun Γ p hΓ hC => by rw [Sem.wp_keep]; exact h Γ p hΓ hC
theorem wpC_of_eq {t : Sem α} {a : α} {Q : α → Shared → Prop} (e : t = pure a) (h : Q a s) : wpC M A t Q E s := wpC_of_any (wpAny_of_eq e h)
theorem wpC_run {c : Code} {h : Option Value} {Q : Flow → Shared → Prop}
    (hc : codeC M (A.mark h) c (fun r s' => match r with | .ok f => Q f s' | .error e => E e s') s) (hnb : h ≠ some byPass := by intro x; cases x) :
    wpC M A (run c h) Q E s :=
  fun Γ p hΓ hC => by rw [Sem.wp_run]; exact hc _ p rfl (hΓ.enter c h p hnb) (hC.enter c h p)
theorem wpC_runValue {c : Code} {Q : Value → Shared → Prop}
    (hc : codeC M A c (fun r s' => match r with | .ok (.ret v) => Q v s' | .ok _ => False | .error e => E e s') s) :
    wpC M A (runValue c) Q E s := fun Γ p hΓ hC => by rw [Sem.wp_runValue]; exact hc _ p rfl (hΓ.enter c none p (by intro x; cases x)) (hC.enter c none p)
theorem wpC_call {f : Value} {pos : List Value} {kw : List (Str × Value)} {Q : Value → Shared → Prop}
    (hc : codeC M A (.call f ⟨pos, kw⟩) (fun r s' => match r with | .ok (.ret v) => Q v s' | .ok _ => False | .error e => E e s') s) :
    wpC M A (call f pos kw) Q E s := wpC_runValue hc
theorem codeC_of_tree {c : Code} {R : Result → Shared → Prop}
    (h : wpC M (A.under c) (M.den c) (fun fin s' => match fin with | .done f => R (.ok f) s' | .again c' => c'.quiet = true ∧ codeC M A c' R s')
      (fun e s' => R (.error e) s') s) : codeC M A c R s := fun Γ p hc hΓ hB => by
  rw [wpCode_iff_wp, hc]
  refine Sem.wp_mono M Γ _ (fun fin p' s' h' => ?_) (fun _ _ _ h' => h') p s (h Γ p (hc ▸ hΓ.in) hB.has)
  cases fin with
  | done f => exact h'
  | again c' => exact ⟨h'.1, h'.2 (Γ.goto c') p' rfl (hΓ.goto c') hB⟩
theorem codeC_loop' {c : Code} {R : Result → Shared → Prop} (hq : c.quiet = true) (I : Nat → Shared → Prop)
    (turn : ∀ n s, I n s → wpC M (A.under c) (M.den c)
      (fun fin s' => match fin with
        | .done f => R (.ok f) s'
        | .again c' => (c' = c ∧ ∃ m, m < n ∧ I m s') ∨ (c'.quiet = true ∧ codeC M A c' R s')) (fun e s' => R (.error e) s') s)
    (n : Nat) (h : I n s) : codeC M A c R s := by
  induction n using Nat.strongRecOn generalizing s with
  | ind n ih =>
    refine codeC_of_tree (wpC_mono (turn n s h) (fun fin s' hf => ?_) fun _ _ h' => h')
    cases fin with
    | done f => exact hf
    | again c' =>
      rcases hf with ⟨rfl, m, hm, hI⟩ | hf
      · exact ⟨hq, ih m hm hI⟩
      · exact hf

theorem wpC_ite_true {c : Prop} [Decidable c] {a b : Sem α} {Q : α → Shared → Prop} (hc : c) (h : wpC M A a Q E s) : wpC M A (if c then a else b) Q E s := by
  rw [if_pos hc]; exact h
theorem wpC_ite_false {c : Prop} [Decidable c] {a b : Sem α} {Q : α → Shared → Prop} (hc : ¬ c) (h : wpC M A b Q E s) : wpC M A (if c then a else b) Q E s := by
  rw [if_neg hc]; exact h
/-- the mark of a refusal is not written under the claim's caller -/
theorem wpC_mark {own : List String} {e : Value} {Q : Unit → Shared → Prop} (h : Q () s) : wpC M A (markTheRefusal own e) Q E s := fun Γ p hΓ hC => by
  unfold markTheRefusal
  rw [Sem.wp_bind']
  show wp M Γ stack _ _ p s
  unfold stack
  rw [Sem.wp_stack]
  have hno : pythonCodeMadeTheCall own (((Γ.code, p) :: Γ.below).map (·.1)) = false := by
    unfold pythonCodeMadeTheCall
    show ((!(((Γ.code, p) :: Γ.below).map (·.1)).any Code.isCaller) && _ && _) = false
    rw [hC p]
    rfl
  rw [Sem.wp_pure]
  dsimp only
  rw [hno]
  exact h
end
section
variable {prog : Program} {w : World} {A : Around} {E : Value → Shared → Prop} {s : Shared} {R : Result → Shared → Prop}
theorem codeC_builtin {id : String} {args : Args} {b : Builtin} (hb : entryFor table id = some b)
    (h : wpC (model prog w) (A.under (.builtin id args)) (b args)
      (fun fin s' => match fin with | .done f => R (.ok f) s' | .again c' => c'.quiet = true ∧ codeC (model prog w) A c' R s') (fun e s' => R (.error e) s') s) :
    codeC (model prog w) A (.builtin id args) R s := by
  refine codeC_of_tree ?_
  show wpC _ _ (match entryFor table id with | some b => b args | none => unsupported ((withoutEnding? id "#data").getD id)) _ _ s
  rw [hb]; exact h
theorem codeC_call_builtin {id : String} {args : Args} (hq : (Code.builtin id args).quiet = true) (hc : checkBuiltinCall id args = pure ())
    (h : codeC (model prog w) A (.builtin id args) R s) : codeC (model prog w) A (.call (.builtin id) args) R s := by
  refine codeC_of_tree ?_
  show wpC _ A.in1 (do checkBuiltinCall id args; again (.builtin id args)) _ _ s
  exact wpC_bind (wpC_of_eq hc (wpC_of_any (wpAny_pure ⟨hq, h⟩)))
end
end Mine
end

section
open PySem PySem.W PyProof.Rows PySem.Calls
open PySem.Sem (wp)
set_option maxRecDepth 100000
set_option maxHeartbeats 4000000
namespace Mine
/-! The head, for a walk that holds where the claim's caller stands below. -/
section
variable {M : Model} {s : Shared} {R : Result → Shared → Prop}
noncomputable abbrev callerΓ : Ctx := ⟨.builtin "claim.caller" {}, none, none, [], none⟩
theorem callerΓ_has : HasC callerΓ := fun _ => rfl
theorem caller_done {t : Sem Fin} (h : wpC M callerA t (fun fin s' => ∃ f, fin = .done f ∧ R (.ok f) s') (fun e s' => R (.error e) s') s) (p : Pos) :
    wp M callerΓ t (Sem.finPost M callerΓ R) (fun e _ s' => R (.error e) s') p s :=
  Sem.wp_mono M callerΓ t (fun _ _ _ ⟨_, e, hR⟩ => by subst e; exact hR) (fun _ _ _ x => x) p s (h callerΓ p caller_in callerΓ_has)
end

theorem ends_C {prog : Program} {w : World} {t : Sem Fin} {s : Shared} {R : Result → Shared → Prop} (hz : s.asleep)
    (h : wpC (model prog w) callerA t (fun fin s' => ∃ f, fin = .done f ∧ (R (.ok f) s' ∧ leftWithCleanup s'.gens = false)) (fun e s' => R (.error e) s' ∧ leftWithCleanup s'.gens = false) s) :
    ∃ n r s' s'', runN (denote table) prog w n s ⟨t, .builtin "claim.caller" {}, default, []⟩ = .halted (outcomeOf r) s' ∧
      schedN (denote table) prog w n (.single s ⟨t, .builtin "claim.caller" {}, default, []⟩) = .halted (outcomeOf r) s' ∧ s'.forget = s''.forget ∧ R r s'' :=
  let ⟨n, r, s₁, s₂, hs, hn, hf, hR⟩ := wp_halts_full (M := model prog w) (R := R) hz (caller_done (R := fun r s' => R r s' ∧ leftWithCleanup s'.gens = false) h default)
  ⟨n, r, s₂, s₁, hn, hs, hf, hR⟩

/-- one laid call, from the claim's caller -/
theorem from_C {c : ClaimW} {tree : List Value → Sem Fin} {w : World} {s : Shared} {free : Addr → Prop} {gens : Prop} {kept : Heap → Prop} (hz : s.asleep) (hg : s.gens = #[])
    (H : ∀ args, c.pre args = true → WData.layableAll args = true → ∀ ord : List DictEntry → List DictEntry, (∀ l, (ord l).Perm l) →
      ∃ vs s₁, layAllW c.records (classAt s.heap) w.params ord args s = some (vs, s₁) ∧
        wpC (model c.prog w) callerA (tree vs) (fun fin s' => ∃ f, fin = .done f ∧ (c.Ends s args vs s₁ (.ok f) s' ∧ s'.os = s.os ∧ AllBare s'.gens ∧ kept s'.heap))
          (fun e s' => c.Ends s args vs s₁ (.error e) s' ∧ s'.os = s.os ∧ AllBare s'.gens ∧ kept s'.heap) s₁) :
    c.CallFrom (fun vs => ⟨tree vs, .builtin "claim.caller" {}, default, []⟩) w free gens kept s := fun args hp hl ord ho => by
  obtain ⟨vs, s₁, laid, walk⟩ := H args hp hl ord ho
  have rest := layAllW_rest _ _ _ laid
  have walk' : wpC (model c.prog w) callerA (tree vs)
      (fun fin s' => ∃ f, fin = .done f ∧ ((c.Ends s args vs s₁ (.ok f) s' ∧ s'.os = s.os ∧ kept s'.heap) ∧ leftWithCleanup s'.gens = false))
      (fun e s' => (c.Ends s args vs s₁ (.error e) s' ∧ s'.os = s.os ∧ kept s'.heap) ∧ leftWithCleanup s'.gens = false) s₁ :=
    wpC_mono walk (fun _ _ ⟨f, e, x, y, z, k⟩ => ⟨f, e, ⟨x, y, k⟩, leftWithCleanup_false_of_bare z⟩) fun _ _ ⟨x, y, z, k⟩ => ⟨⟨x, y, k⟩, leftWithCleanup_false_of_bare z⟩
  obtain ⟨n, r, s', s'', hrun, hsched, hf, ends, hos, hk⟩ := ends_C (R := fun r s' => c.Ends s args vs s₁ r s' ∧ s'.os = s.os ∧ kept s'.heap) (Shared.asleep_of_life rest.2.2.2 hz) walk'
  obtain ⟨eh, _, _, eo, _⟩ := Shared.forget_eq hf
  have ends := ends.congr eh
  have hk : kept s'.heap := by rw [eh]; exact hk
  have hos : s'.os = s.os := by rw [eo]; exact hos
  refine ⟨vs, s₁, laid, n, _, s', hsched, ?_, fun _ i x hx => (by rw [hg] at hx; simp at hx), hk, ?_, Shared.rest_eq hos⟩
  · rcases ends with ⟨v, rfl, a, b, d, e, f⟩ | ⟨x, ob, cls, rfl, a, b, d, e, f⟩
    · exact .inl ⟨v, rfl, a, b, d, fun b o y _ => e b o y, f⟩
    · exact .inr ⟨x, ob, cls, rfl, a, b, d, e, fun b o y _ => f b o y⟩
  · rw [(runN_life _ _ _ hrun).trans rest.2.2.2]

/-- the walk of a law whose calls are judged under the claim's caller -/
noncomputable abbrev WalkC (q : Program) (loose : List Str) (XP : (Str → Option Value) → Heap → Prop) (YP : World → Heap → Prop) (r : RowW) (d : DefRec) (kwd : List (Str × Expr)) (run : Value → List Value → Sem Value) : Prop :=
  ∀ (w : World) (s₀ s₁ : Shared) (mg mb : Str → Option Value), Ground q loose r.records XP w s₀ mg mb s₁.heap → YP w s₁.heap → ∀ (a : Addr) (o : Obj) (pm cd doc dV kV : Value), s₁.heap.get? a = some o →
    o.data = .func { docDef d.name d.params d.body d.scope pm cd doc with defaults := dV, kwdefaults := kV } → s₁.heap.CodeRec cd d.name → Dflts mg s₁.heap d.params kwd dV kV → mg d.name = some (.ref a) → s₁.gens = #[] →
    ∀ (args : List WData) (vals : List Value) (as : List Addr), r.claim.pre args = true → WData.layableAll args = true → ReadsAllW r.records (classAt s₀.heap) s₁.heap vals args as → WellAll w.params s₁.heap vals args → (∀ a ∈ as, (a == sysModules) = false) →
      wpC (model r.prog w) callerA (run (.ref a) vals) (fun v s' => GoodWG r.claim (classAt s₀.heap) (ExcName.means s₀.heap) args s₁ (.ok (.ret v)) s')
        (fun e s' => GoodWG r.claim (classAt s₀.heap) (ExcName.means s₀.heap) args s₁ (.error e) s') s₁

/-- the top's run from what the boot leaves -/
theorem left_of_top {p q : Program} {loose : List Str} {Xt : Shared → Bool} {α : Type} {Yf : Shared → α} {Ya : World → α} {N : Nat} (e : opening p = plainProg p.main.scope.names) (hN : Nat.ble 600 N = true) (f : ∀ s, fenceModules? p s = some s)
    (h : ∀ (w : World) (os : OsState), (topFrom treeTable p w N ⟨boot_heap w.params, Array.mk [], boot_drawn, boot_toks, os⟩).map (fun s => (openSeen q loose (importedModules p.main.body) Xt true s, Yf s)) = some (openGood q loose, Ya w)) :
    LeftO p q loose Xt Yf Ya N := fun w => by
  obtain ⟨⟨hh, gs, d, k, os⟩, e1, e2⟩ := Option.map_eq_some_iff.mp (boot_open e hN f w)
  obtain ⟨rfl, rfl, rfl, rfl⟩ : hh = boot_heap w.params ∧ gs = Array.mk [] ∧ d = boot_drawn ∧ k = boot_toks := by simpa using e2
  unfold openEnds
  rw [e1]
  exact h w os

theorem head_C {r : OpenRow} {q : Program} {loose : List Str} {Xt : Shared → Bool} {XP : (Str → Option Value) → Heap → Prop} {α : Type} {Yf : Shared → α} {Ya : World → α} {YP : World → Heap → Prop} {d : DefRec} {kwd : List (Str × Expr)} {N : Nat}
    (left : LeftO r.prog q loose Xt Yf Ya N) (hY : ∀ w s, Yf s = Ya w → YP w s.heap) (hYk : ∀ w h h', YP w h → (∀ b o, h.get? b = some o → h'.get? b = some o) → YP w h')
    (hX : ∀ s, Xt s = true → XP (s.heap.nsMap mainGlobals) s.heap) (hXk : ∀ mg h h', XP mg h → (∀ b o, h.get? b = some o → h'.get? b = some o) → XP mg h')
    (hdef : defOf q r.name = some (d, kwd)) (hp : r.prog.theDef r.name = some (d.params, d.body, d.scope)) (hk : kwWritten? d.params.kwonlyargs d.params.kw_defaults = some kwd) (hRf : ∀ s, Xt s = true → RecFacts r.records s.heap) (hwr : (!r.writes || r.records.isEmpty) = true)
    (k1 : r.wellSaid = true) (ok : (chainsOk q && opensWell r.prog && (frees r.toRowW && r.within.isEmpty)) = true) (hb : r.prog.bare) (hw : r.toRowW.promised)
    (call : WalkC q loose XP YP r.toRowW d kwd fun f vs => PySem.call f vs) : r.Holds := by
  obtain ⟨ok₁, ok₂⟩ := Bool.and_eq_true_iff.mp ok
  obtain ⟨hch, o1⟩ := Bool.and_eq_true_iff.mp ok₁
  obtain ⟨hfr, hin⟩ := Bool.and_eq_true_iff.mp ok₂
  obtain ⟨hsame, hu, ha, hap, hm⟩ := frees_parts hfr
  have hwi : r.toRowW.claim.within = [] := List.isEmpty_iff.mp hin
  have hXR : ∀ s, Xt s = true → (fun mg h => XP mg h ∧ RecFacts r.records h) (s.heap.nsMap mainGlobals) s.heap := fun s e => ⟨hX s e, hRf s e⟩
  refine ⟨k1, hw, ⟨hb, o1, by show r.toRowW.makers.map _ = []; rw [hm]; rfl⟩, hw.witness, fun w => ⟨(left.behind hX hch w).1, fun s' hs' => ?_⟩⟩
  obtain ⟨s₀, f0, g00, s, ran, hz, gens0, hns, GR, y⟩ := (left.behind (XP := fun mg h => XP mg h ∧ RecFacts r.records h) hXR hch w).2 s' hs'
  have G0 : Ground q loose [] XP w s (s.heap.nsMap mainGlobals) (s.heap.nsMap builtinsNs) s.heap := ⟨GR.T, GR.B, GR.D, GR.TE, GR.TD, GR.W, GR.X.1, GR.cls, GR.has, GR.apart, GR.once, GR.K⟩
  refine ⟨s₀, f0, g00, s, ran, fun n hn => ?_, GR.X.2.1, GR.X.2.2.1, ?_⟩
  · obtain rfl : n = r.name := by split at hn <;> simp_all
    exact pinned_of_view hns G0 hdef hp hk
  have gens0 : s.gens = #[] := Array.eq_empty_of_size_eq_zero (beq_iff_eq.mp gens0)
  have G : Ground q loose r.records XP w s _ _ s.heap := GR.X.2.ground G0
  refine from_C (c := r.toRowW.claim) (tree := fun vs => do match ← nsGet mainNs r.name with
      | some f => do ret (← PySem.call f vs)
      | none => unsupported "claim.caller:no-such-global") hz gens0 fun args hpre hlay ord hord => ?_
  obtain ⟨⟨vs, s₁⟩, laid⟩ := Option.isSome_iff_exists.mp (layAllW_isSome (P := w.params) (ord := ord) G.has args r.toRowW.args s (pre_splitW hpre).1)
  have keeps := layAllW_keeps _ _ _ laid
  have rest := layAllW_rest _ _ _ laid
  obtain ⟨as, hrd, hwl, hold⟩ := reads_layAllW hord _ _ _ laid hlay s₁.heap (fun _ _ e => e)
  have L : Laid r.records w s s₁ args vs as := ⟨⟨ord, hord, laid⟩, hrd, hwl, hold, keeps, rest.1.trans gens0, rest.2.2.1⟩
  have G₁ := G.keeps hXk keeps
  have Y₁ := hYk _ _ _ (hY w s y) keeps
  have hid := ident_freeW hu ha hap
  obtain ⟨a, o, pm, cd, doc, dV, kV, h1, h2, h3, h4, h5⟩ := G₁.fn hdef
  have walk := call w s s₁ _ _ G₁ Y₁ a o pm cd doc dV kV h2 h3 h4 h5 (defOf_name hdef ▸ h1) L.gens args vs as hpre hlay L.reads L.well (L.low G.low)
  refine ⟨vs, s₁, laid, ?_⟩
  refine wpC_bind (wpC_of_any (wpAny_nsGet G₁.T.g ?_))
  rw [h1]
  exact wpC_bind (wpC_mono walk
    (fun v s' g => have z := g.laid (c := r.toRowW.claim) hsame hwi hid L
      wpC_of_any (wpAny_pure ⟨_, rfl, z.1, z.2.1, z.2.2, fun q => ⟨namesKept_of ran hns _ keeps g.2.1.old, noTable hwr q⟩⟩))
    fun e s' g => have z := g.laid (c := r.toRowW.claim) hsame hwi hid L
      ⟨z.1, z.2.1, z.2.2, fun q => ⟨namesKept_of ran hns _ keeps g.2.1.old, noTable hwr q⟩⟩)
end Mine
end

section
open PySem PySem.W PySem.Calls PyProof.Rows
set_option maxRecDepth 100000
set_option maxHeartbeats 8000000
namespace Mine
/-- the text without its four names of modules -/
noncomputable def vw : Program := view PySem.Challenge.rw_yh0005_01.row.prog [0, 2, 3, 5, 6, 8, 9, 10, 11, 13, 14, 15, 16, 17, 18, 19]
noncomputable abbrev xtF : Shared → Bool := fun s => xlAt vw [] s && recOk (RowW.records PySem.Challenge.rw_yh0005_01.row.toRowW) s
noncomputable abbrev loF : List Str := [Str.ofString "_Accumulator"]
theorem head_here {K : Params → Frag} {as : List Addr} (e : ∀ P, as = (K P).map (·.1)) {d : DefRec} {kwd : List (Str × Expr)}
    (hl : LeftO PySem.Challenge.rw_yh0005_01.row.prog vw loF xtF (Hook.obs (kmHook K as e [62, 69])) (Hook.val (kmHook K as e [62, 69])) 3068)
    (hdef : defOf vw PySem.Challenge.rw_yh0005_01.row.name = some (d, kwd)) (hp : PySem.Challenge.rw_yh0005_01.row.prog.theDef PySem.Challenge.rw_yh0005_01.row.name = some (d.params, d.body, d.scope)) (hk : kwWritten? d.params.kwonlyargs d.params.kw_defaults = some kwd)
    (k1 : PySem.Challenge.rw_yh0005_01.row.wellSaid = true) (hw : PySem.Challenge.rw_yh0005_01.row.toRowW.promised)
    (hc : WalkC vw loF (XL vw []) (Hook.says (kmHook K as e [62, 69])) PySem.Challenge.rw_yh0005_01.row.toRowW d kwd fun f vs => PySem.call f vs) : PySem.Challenge.rw_yh0005_01.row.Holds :=
  head_C (q := vw) (loose := loF) (Xt := xtF) (XP := XL vw []) (Yf := Hook.obs (kmHook K as e [62, 69])) (Ya := Hook.val (kmHook K as e [62, 69])) (YP := Hook.says (kmHook K as e [62, 69])) (N := 3068)
    hl (Hook.of (kmHook K as e [62, 69])) (Hook.keeps (kmHook K as e [62, 69])) (fun s e => xl_of s (Bool.and_eq_true_iff.mp e).1) XL.keeps hdef hp hk (fun s e => recFacts_of (Bool.and_eq_true_iff.mp e).2) (by rfl) k1 (by decide +kernel) ⟨rfl, rfl, rfl, rfl, rfl, by decide +kernel⟩ hw hc
local macro_rules | `(tactic| o_law) => `(tactic| refine holds_law (by rw [PySem.W.Fast.te9446332074065402090]; kernel_rfl) fun said => ?_)
local macro_rules | `(tactic| o_head ($_h:term $K $as $e)) => `(tactic| (
  refine head_here (K := $K) (as := $as) $e ?hl (by rfl) (by rfl) (by rfl) (by first | assumption | decide +kernel) ?hw ?hc
  (case hl => exact left_of_top (by kernel_rfl) (by rfl) (fun _ => rfl) (fun w os => by unfold topFrom; rw [PySem.W.Fast.te14082659384304107361, PySem.W.Fast.te14364793385576792824, PySem.W.Fast.te4187177175401517315]; kernel_rfl))))
open_top hd for PySem.Challenge.rw_yh0005_01
end Mine
end

section
open PySem PySem.W PyProof.Rows PySem.Calls
set_option maxRecDepth 100000
namespace Mine
noncomputable abbrev loo : List Str := looseW vw [Str.ofString "_Accumulator"]
noncomputable abbrev TT (mean : ExcName → Option Value) (mg mb : Str → Option Value) (h : Heap) : Prop := Top vw loo mean mg mb h

/-- what stands of the text at a heap -/
structure Cx (w : World) (mean : ExcName → Option Value) (mg mb : Str → Option Value) (h : Heap) : Prop where
  X : (hd.heap_1 w.params).In h
  T : TT mean mg mb h

theorem Cx.keeps {w : World} {mean : ExcName → Option Value} {mg mb : Str → Option Value} {h h' : Heap} (C : Cx w mean mg mb h) (hk : h.StaysIn h') : Cx w mean mg mb h' :=
  ⟨C.X.keeps hk, C.T.keeps hk⟩

section
variable {w : World} {A : Around} {s : Shared} {h₀ : Heap} {R : Result → Shared → Prop} {mean : ExcName → Option Value} {mg mb : Str → Option Value}
  {name qual : Str} {params : Arguments} {body : List Stmt} {scope : Scope} {dV kV doc pm cdv ct oc : Value} {an od : Option Addr} {osl : Array (Option Value)} {f : Addr} {args : Args} {binds : List (Str × Value)}

/-- a def's body, entered over any part of the heap -/
theorem enter (C : Cx w mean mg mb h₀) (hst : h₀.StaysIn s.heap) (hsz : h₀.objs.size ≤ s.heap.objs.size)
    (ho : (hd.heap_1 w.params).lookup f = some ⟨oc, od, .func (fnOf name qual params body scope dV kV doc pm an cdv ct), osl⟩) (hcd : codeIn (hd.heap_1 w.params) cdv qual = true)
    (hroom : A.depth < recursionLimit)
    (hbind : BindsTo s (fnOf name qual params body scope dV kV doc pm an cdv ct) args binds) (hloc : ∀ y ∈ binds, scope.names.lookup y.1 = some .local)
    (hcell : ∀ x ∈ scope.names, x.2 ≠ .cell)
    (hco : scope.isCoroutine = false) (hgen : scope.isGenerator = false) (hk : scope.kind = .function)
    (h : ∀ L h₁, L = s.heap.objs.size → Fr h₀ L h₁ (fun x => binds.reverse.lookup x) → s.heap.StaysIn h₁ →
      wpAny (model PySem.Challenge.rw_yh0005_01.row.prog w) (A.deeper (envOf qual scope L f cdv)) (execs body (envOf qual scope L f cdv)) (fun fl s' => R (.ok (.ret (match fl with | .ret v => v | _ => .none))) s')
        (fun e s' => wpAny (model PySem.Challenge.rw_yh0005_01.row.prog w) (A.deeper (envOf qual scope L f cdv)) (leaving (envOf qual scope L f cdv) e) (fun _ s'' => R (.error e) s'') (fun e' s'' => R (.error e') s'') s')
        { s with heap := h₁, toks := s.toks + binds.length }) :
    codeAny (model PySem.Challenge.rw_yh0005_01.row.prog w) A (.call (.ref f) args) R s :=
  codeAny_call_def (fd := fnOf name qual params body scope dV kV doc pm an cdv ct) (body := body) (binds := binds) hroom ((C.X.keeps hst) _ _ ho) rfl (C.T.nolimit.keeps hst) (codeRec_of (C.X.keeps hst) hcd) rfl hbind hcell hloc
    (fun h₁ hn hk₁ => h _ h₁ rfl ⟨hn, fun b o e => hk₁ b o (hst b o e), hsz⟩ hk₁) hco hgen hk
end
end Mine
end

section
open PySem PySem.W PyProof.Rows PySem.Calls
set_option maxRecDepth 100000
namespace Mine
/-- a list of a class of the text's own -/
noncomputable abbrev accObj (d : Addr) (items : Array Value) (n : Nat) : Obj := { cls := .ref 100, dict := some d, data := .seq items n }

section
variable {prog : Program} {w : World} {A : Around} {E : Value → Shared → Prop} {s : Shared} {a : Addr}

theorem check_list {M : Model} {A : Around} {E : Value → Shared → Prop} {s : Shared} {i n : String} {self : Value} {rest : List Value} {kw : List (Str × Value)} {Q : Unit → Shared → Prop}
    (hk : builtinKind i = some .slot ∨ builtinKind i = some .method) (hs : splitId i = some ("list", n)) (hi : Looks M s.heap (isInstance self (.type "list")) true) (ha : argsOk i ⟨self :: rest, kw⟩) (q : Q () s) :
    wpAny M A (checkBuiltinCall i ⟨self :: rest, kw⟩) Q E s := by
  rcases hk with hk | hk <;>
  · simp only [checkBuiltinCall, hk, hs]
    refine wpAny_bind (hi.here ?_)
    simp only [Bool.not_true, Bool.false_eq_true, if_false]
    cases hsig : Manifest.signature? i with
    | none => exact wpAny_pure q
    | some sig =>
      simp only [argsOk, hsig] at ha
      have h2 : Bind.checkArgs i sig ⟨self :: rest, kw⟩ = pure () := ha
      show wpAny M A (Bind.checkArgs i sig ⟨self :: rest, kw⟩) Q E s
      rw [h2]; exact wpAny_pure q

theorem call_list {i n : String} {b : Builtin} {self : Value} {rest : List Value} {Q : Value → Shared → Prop}
    (hk : builtinKind i = some .slot ∨ builtinKind i = some .method) (hs : splitId i = some ("list", n)) (hp : plainId i = true) (hb : entryFor table i = some b)
    (hi : Looks (model prog w) s.heap (isInstance self (.type "list")) true) (ha : argsOk i ⟨self :: rest, []⟩)
    (h : wpAny (model prog w) A.in1 (b ⟨self :: rest, []⟩) (fun fin s' => ∃ v, fin = .done (.ret v) ∧ Q v s') E s) :
    wpAny (model prog w) A (call (.builtin i) (self :: rest)) Q E s := by
  refine wpAny_call (codeAny_call_builtin hp hb (check_list hk hs hi ha (wpAny_mono h (fun fin s' h' => ?_) fun _ _ h' => h')))
  obtain ⟨v, rfl, hv⟩ := h'; exact hv

end

/-! the class's facts, looked up in the written part -/
theorem sub_list (P : Params) : (PySem.Challenge.rw_yh0005_01 = PySem.Challenge.rw_yh0005_01) → subIn (hd.heap_1 P) (.ref 100) (.type "list") = some true := by
  k_fill
  intro _
  k_is
theorem sub_deque (P : Params) : subIn (hd.heap_1 P) (.ref 100) (.type "collections.deque") = some false := by k_is
theorem find_ga (P : Params) : findIn (hd.heap_1 P) (.ref 100) "__getattribute__" = some (some (.builtin "list.__getattribute__")) := by k_is
theorem find_gattr (P : Params) : findIn (hd.heap_1 P) (.ref 100) "__getattr__" = some none := by k_is
theorem find_getitem (P : Params) : findIn (hd.heap_1 P) (.ref 100) "__getitem__" = some (some (.builtin "list.__getitem__")) := by k_is
theorem find_setitem (P : Params) : findIn (hd.heap_1 P) (.ref 100) "__setitem__" = some (some (.builtin "list.__setitem__")) := by k_is
theorem find_iter (P : Params) : findIn (hd.heap_1 P) (.ref 100) "__iter__" = some (some (.builtin "list.__iter__")) := by k_is
theorem find_append (P : Params) : findIn (hd.heap_1 P) (.ref 100) "append" = some (some (.builtin "list.append")) := by k_is
theorem find_push (P : Params) : findIn (hd.heap_1 P) (.ref 100) "push" = some (some (.ref 45)) := by k_is
theorem find_pop_from (P : Params) : findIn (hd.heap_1 P) (.ref 100) "pop_from" = some (some (.ref 53)) := by k_is
theorem find_part_count (P : Params) : findIn (hd.heap_1 P) (.ref 100) "part_count" = some (some (.ref 97)) := by k_is
theorem find_len (P : Params) : findIn (hd.heap_1 P) (.ref 100) "__len__" = some (some (.ref 67)) := by k_is
theorem find_str (P : Params) : findIn (hd.heap_1 P) (.ref 100) "__str__" = some (some (.ref 74)) := by k_is
theorem find_init (P : Params) : findIn (hd.heap_1 P) (.ref 100) "__init__" = some (some (.ref 38)) := by k_is
theorem find_new (P : Params) : findIn (hd.heap_1 P) (.ref 100) "__new__" = some (some (.builtin "list.__new__")) := by k_is
theorem find_ini (P : Params) : findIn (hd.heap_1 P) (.ref 100) "_initial_size" = some none := by k_is

section
variable {prog : Program} {w : World} {A : Around} {E : Value → Shared → Prop} {s : Shared} {a d : Addr} {items : Array Value} {n : Nat}

/-- the dict of an object -/
noncomputable abbrev iniObj (P : Params) (t u : Tok) : Obj := dictOf [⟨PyData.keyHash P "_initial_size", .str "_initial_size" t, .int 0 u⟩] 1

/-- an accumulator stands at a -/
noncomputable def AccAt (w : World) (h : Heap) (a : Addr) (items : Array Value) : Prop :=
  ∃ d n t u, h.get? a = some (accObj d items n) ∧ h.get? d = some (iniObj w.params t u)

theorem AccAt.inst {h : Heap} (H : AccAt w h a items) : ∃ d n t u, InstAt h a (accObj d items n) 100 (some (iniObj w.params t u)) :=
  let ⟨d, n, t, u, h1, h2⟩ := H; ⟨d, n, t, u, h1, rfl, rfl, h2⟩

theorem AccAt.keeps {h h' : Heap} (H : AccAt w h a items) (hk : h.StaysIn h') : AccAt w h' a items :=
  let ⟨d, n, t, u, h1, h2⟩ := H; ⟨d, n, t, u, hk _ _ h1, hk _ _ h2⟩

/-- the dict is another object -/
theorem AccAt.setItems {h h' : Heap} {items' : Array Value} (H : AccAt w h a items) (hk : (h.hide a).StaysIn h') (ha : ∀ d n, h.get? a = some (accObj d items n) → ∃ n', h'.get? a = some (accObj d items' n')) : AccAt w h' a items' := by
  obtain ⟨d, n, t, u, h1, h2⟩ := H
  obtain ⟨n', h3⟩ := ha _ _ h1
  refine ⟨d, n', t, u, h3, hk _ _ ?_⟩
  have hne : d ≠ a := by
    rintro rfl
    rw [h1] at h2
    cases h2
  rw [Heap.hide_ne _ hne]; exact h2

theorem canon_lga : (Manifest.canonical "list.__getattribute__" != "object.__getattribute__") = false := by decide +kernel

/-- a method met on an accumulator: its own, or one that it has from list -/
theorem method_acc {f : Value} {tf : String} {name : Str} {pl : Sem Bool} {x : Addr} {ox : Obj} {od : Obj} {Q : Value × List Value → Shared → Prop} (X : (hd.heap_1 w.params).In s.heap) (I : InstAt s.heap x ox 100 (some od))
    (hf : findIn (hd.heap_1 w.params) (.ref 100) name = some (some f)) (ht : typeIn (hd.heap_1 w.params) f = some (.type tf)) (htf : tf = "function" ∨ tf = "method_descriptor") (hs : lookIn name od = some none) (h : Q (f, [.ref x]) s) :
    wpAny (model prog w) A (getMethod (.ref x) name pl) Q E s := by
  unfold getMethod specialOf
  refine wpAny_bind (wpAny_bind (I.type.here ((looks_findIn X (find_ga _)).here ?_)))
  dsimp only
  rw [canon_lga, if_neg (by decide)]
  refine wpAny_bind (wpAny_bind (I.type.here ((looks_findIn X (find_gattr _)).here ?_)))
  refine wpAny_bind (wpAny_bind (I.type.here ((looks_findIn X hf).here (wpAny_bind ((looks_typeIn X ht).here ?_)))))
  rw [if_neg (by rcases htf with rfl | rfl <;> decide +kernel)]
  refine wpAny_bind (wpAny_loadPart I.at_ ?_)
  have hd := I.dict
  cases e : ox.dict with
  | none => exact wpAny_bind (wpAny_rule (wpAny_pure h))
  | some dx =>
    rw [e] at hd
    refine wpAny_bind (wpAny_bind (wpAny_loadPart hd ?_))
    rw [nsLook_of hs]
    exact wpAny_pure (wpAny_bind (wpAny_rule (wpAny_pure h)))

theorem look_ini {P : Params} {t u : Tok} {name : Str} (h : (Str.ofString "_initial_size" == name) = false) : lookIn name (iniObj P t u) = some none := by
  show (match [(⟨PyData.keyHash P "_initial_size", .str "_initial_size" t, .int 0 u⟩ : DictEntry)].find? (·.key.isStr name) with | some e => _ | none => _) = _
  rw [List.find?_cons, show Value.isStr (.str (Str.ofString "_initial_size") t) name = false from h]
  rfl

theorem isList_acc {prog : Program} (X : (hd.heap_1 w.params).In s.heap) {o : Obj} (ho : s.heap.get? a = some o) (hc : o.cls = .ref 100) : Looks (model prog w) s.heap (isInstance (.ref a) (.type "list")) true :=
  (hc ▸ (Looks.ld ho).andThen .now : Looks (model prog w) s.heap (typeOf (.ref a)) (.ref 100)).andThen (looks_subIn X (sub_list _ rfl))

theorem type_acc {M : Model} {o : Obj} (ho : s.heap.get? a = some o) (hc : o.cls = .ref 100) : Looks M s.heap (typeOf (.ref a)) (.ref 100) := hc ▸ (Looks.ld ho).andThen .now

theorem kind_append : builtinKind "list.append" = some .slot ∨ builtinKind "list.append" = some .method := .inr (by decide +kernel)
theorem split_append : splitId "list.append" = some ("list", "append") := by decide +kernel
theorem plain_append : plainId "list.append" = true := by decide +kernel
theorem entry_append : entryFor table "list.append" = some Builtin.«list.append» := entryFor_of_tree (by kernel_rfl)
theorem args_append (a b : Value) : argsOk "list.append" ⟨[a, b], []⟩ := by unfold argsOk; kernel_rfl

theorem append_acc {v : Value} {Q : Value → Shared → Prop} (X : (hd.heap_1 w.params).In s.heap) (ho : s.heap.get? a = some (accObj d items n)) (hsz : items.size < sizeLine)
    (h : Q .none { s with heap := s.heap.update a (Obj.mapSeq (·.push v)) }) : wpAny (model prog w) A (call (.builtin "list.append") [.ref a, v]) Q E s := by
  refine call_list kind_append split_append plain_append entry_append (isList_acc X ho rfl) (args_append _ _) ?_
  unfold Builtin.«list.append»
  refine wpAny_bind (m := selfAndOne "list.append" _) (wpAny_pure ?_)
  refine wpAny_bind (m := Builtin.List.listUpdate _ _) (wpAny_updateSeq ho rfl ?_ (by omega) (by simp; omega))
  exact wpAny_pure ⟨_, rfl, h⟩

theorem push_upd {h : Heap} {f : Array Value → Array Value} (ho : h.get? a = some (accObj d items n)) : ∃ n', (h.update a (Obj.mapSeq f)).get? a = some (accObj d (f items) n') :=
  ⟨_, Heap.get?_update_self _ ho rfl⟩

/-- self._initial_size -/
theorem slot_lga : Slot "list" "__getattribute__" "list.__getattribute__" := F.slot_list_getattribute
theorem kind_lga : builtinKind "list.__getattribute__" = some .slot ∨ builtinKind "list.__getattribute__" = some .method := .inl (by decide +kernel)
theorem split_lga : splitId "list.__getattribute__" = some ("list", "__getattribute__") := by decide +kernel

theorem attr_ini {expr : Bool} {t u : Tok} {x : Addr} {ox : Obj} {Q : Value → Shared → Prop} (X : (hd.heap_1 w.params).In s.heap) (I : InstAt s.heap x ox 100 (some (iniObj w.params t u)))
    (hf : findObj (hd.heap_1 w.params) 100 (some (iniObj w.params t u)) "_initial_size" = some (.value (.int 0 u)))
    (h : Q (.int 0 u) { s with toks := s.toks + 1 }) : wpAny (model prog w) A (getAttr (.ref x) "_initial_size" expr) Q E s := by
  obtain ⟨hh, g, dr, tk, os⟩ := s
  have L0 := I.type (M := model prog w)
  have L1 := looks_findIn (M := model prog w) X (find_ga _)
  have L2 := looks_findIn (M := model prog w) X (find_gattr _)
  have L3 := looks_find (M := model prog w) X I hf
  have L4 : Looks (model prog w) hh (isInstance (.ref x) (.type "list")) true := L0.andThen (looks_subIn X (sub_list _ rfl))
  unfold getAttr getAttrBy
  refine wpAny_bind (wpAny_mkText (wpAny_holding (wpAny_bind (L0.at (wpAny_bind (L1.at ?_))))))
  show wpAny _ _ (getAttrByItsOwn _ _ _ _ _ _) _ _ _
  unfold getAttrByItsOwn
  refine wpAny_bind (m := typeLookup (.ref 100) "__getattr__") (L2.at (wpAny_bind (wpAny_attempt (wpAny_holding ?_))))
  unfold callGetattribute
  rw [show (expr && onTheHeap (Value.builtin "list.__getattribute__")) = false from Bool.and_false _, if_neg (by decide)]
  unfold boundAndCalled
  rw [slot_lga.bind]
  refine wpAny_bind (wpAny_pure ?_)
  refine call_list kind_lga split_lga slot_lga.plain F.entry_list_ga L4 (F.args_list_getattribute_2 _ _) ?_
  unfold Builtin.«object.__getattribute__»
  refine wpAny_bind (m := slotArgs _ _ _) (wpAny_pure (wpAny_bind (m := PySem.Builtin.ObjectAttr.attrName _) (wpAny_pure (wpAny_bind (L0.at (wpAny_bind (L3.at ?_)))))))
  refine wpAny_pure ⟨_, rfl, ?_⟩
  show wpAny _ _ (handedOut (.int 0 u)) _ _ _
  rw [handedOut_of rfl]
  exact wpAny_pure h

theorem noseq_acc {prog : Program} (X : (hd.heap_1 w.params).In s.heap) : Looks (model prog w) s.heap (seqItemTypes.anyM fun n => isSubtype (.ref 100) (.type n)) false :=
  (looks_subIn X (sub_deque _)).andThen .now

theorem seqKey_acc {k : Value} {name : Str} {o : Obj} {Q : Value → Shared → Prop} (X : (hd.heap_1 w.params).In s.heap) (ho : s.heap.get? a = some o) (hc : o.cls = .ref 100) (h : Q k s) : wpAny (model prog w) A (sequenceKey (.ref a) k name) Q E s := by
  unfold sequenceKey
  refine wpAny_bind ((type_acc ho hc).here ?_)
  dsimp only
  refine wpAny_bind ((noseq_acc X).here ?_)
  exact wpAny_pure h

theorem special_acc {i n : String} {b : Builtin} {name : Str} {rest : List Value} {o : Obj} {Q : Option Value → Shared → Prop} (X : (hd.heap_1 w.params).In s.heap) (ho : s.heap.get? a = some o) (hc : o.cls = .ref 100)
    (hf : findIn (hd.heap_1 w.params) (.ref 100) name = some (some (.builtin i))) (hS : Slot "list" name i) (hk : builtinKind i = some .slot ∨ builtinKind i = some .method) (hs : splitId i = some ("list", n)) (hb : entryFor table i = some b)
    (ha : argsOk i ⟨.ref a :: rest, []⟩) (h : wpAny (model prog w) A.in1 (b ⟨.ref a :: rest, []⟩) (fun fin s' => ∃ v, fin = .done (.ret v) ∧ Q (some v) s') E s) :
    wpAny (model prog w) A (callSpecial? (.ref a) name rest) Q E s := by
  unfold callSpecial? specialOf
  refine wpAny_bind (wpAny_bind ((type_acc ho hc).here ((looks_findIn X hf).here ?_)))
  dsimp only
  refine wpAny_holding ?_
  rw [hS.bind]
  refine wpAny_bind (wpAny_pure (wpAny_bind ?_))
  refine wpAny_mono (call_list (rest := rest) (Q := fun v s' => Q (some v) s') hk hs hS.plain hb (isList_acc X ho hc) ha h) (fun v s' hq => wpAny_pure hq) fun _ _ e => e

theorem kind_getitem : builtinKind "list.__getitem__" = some .slot ∨ builtinKind "list.__getitem__" = some .method := by first | exact .inl (by decide +kernel) | exact .inr (by decide +kernel)
theorem split_getitem : splitId "list.__getitem__" = some ("list", "__getitem__") := by decide +kernel
theorem kind_setitem : builtinKind "list.__setitem__" = some .slot ∨ builtinKind "list.__setitem__" = some .method := by first | exact .inl (by decide +kernel) | exact .inr (by decide +kernel)
theorem split_setitem : splitId "list.__setitem__" = some ("list", "__setitem__") := by decide +kernel
theorem args_setitem (a b c : Value) : argsOk "list.__setitem__" ⟨[a, b, c], []⟩ := by unfold argsOk; kernel_rfl
theorem slot_setitem : Slot "list" "__setitem__" "list.__setitem__" :=
  .of (owner := "list") (n := "__setitem__") (by rw [typeLookup_type, builtinLookup_eq_fast]; kernel_rfl) (by decide +kernel) (by decide +kernel) (by decide +kernel)
    (by first | exact .inl (by decide +kernel) | exact .inr (by decide +kernel)) (by rw [isSubtype_type]; kernel_rfl)
theorem entry_setitem : entryFor table "list.__setitem__" = some Builtin.«list.__setitem__» := entryFor_of_tree (by kernel_rfl)

theorem sliceParts_at {sl : Addr} {i : Int} {t : Tok} {Q : Value × Value × Value → Shared → Prop} (hs : s.heap.IsSliceOf sl (.int i t) .none .none) (h : Q (rawInt i, .none, .none) s) :
    wpAny (model prog w) A (Builtin.List.listSliceParts (.ref sl)) Q E s := by
  obtain ⟨os, hos, hcs, hds⟩ := hs
  rw [listSliceParts_eq]
  refine wpAny_bind (wpAny_field hos hds (x := .none) rfl (wpAny_bind (wpAny_listPart .none ?_)))
  rw [if_neg (by exact Bool.false_ne_true)]
  refine wpAny_bind (wpAny_field hos hds (x := .int i t) rfl (wpAny_bind (wpAny_listPart (.int i t) ?_)))
  exact wpAny_bind (wpAny_field hos hds (x := .none) rfl (wpAny_bind (wpAny_listPart .none (wpAny_pure h))))

theorem slice_no_sub {sl : Addr} {i : Int} {t : Tok} {Q : Option Int → Shared → Prop} (hs : s.heap.IsSliceOf sl (.int i t) .none .none) (h : Q none s) : wpAny (model prog w) A (Builtin.List.listSubscript? (.ref sl)) Q E s := by
  obtain ⟨os, hos, hcs, hds⟩ := hs
  unfold Builtin.List.listSubscript?
  refine wpAny_bind (wpAny_specialOf (show s.TypeIs (.ref sl) "slice" from ⟨os, hos, hcs⟩) slice_no_index ?_)
  simp only [Option.isNone_none, if_true]
  exact wpAny_pure h

/-- self[i:] -/
theorem slice_acc {sl : Addr} {i : Int} {t : Tok} {Q : Value → Shared → Prop} (X : (hd.heap_1 w.params).In s.heap) (ho : s.heap.get? a = some (accObj d items n)) (hs : s.heap.IsSliceOf sl (.int i t) .none .none)
    (h : Q (.ref s.heap.objs.size) { s with heap := s.heap.push { cls := .type "list", data := .seq (slicePick items (some i) none none) } }) (hsz : items.size ≤ sizeLine) :
    wpAny (model prog w) A (getItem (.ref a) (.ref sl)) Q E s := by
  unfold getItem
  refine wpAny_holding (wpAny_bind (seqKey_acc X ho rfl (wpAny_bind ?_)))
  refine special_acc X ho rfl (find_getitem _) slot_list_getitem kind_getitem split_getitem entry_list_getitem (args_list_getitem _ _) ?_
  show wpAny _ _ (Builtin.List.listSubscript? (.ref sl) >>= _) _ _ s
  refine wpAny_bind (slice_no_sub hs ?_)
  show wpAny _ _ (typeOf (.ref sl) >>= _) _ _ s
  obtain ⟨os, hos, hcs, hds⟩ := id hs
  refine wpAny_bind (m := typeOf (.ref sl)) (wpAny_typeOf (show s.TypeIs (.ref sl) "slice" from ⟨os, hos, hcs⟩) ?_)
  rw [if_neg (by decide)]
  refine wpAny_bind (sliceParts_at hs ?_)
  refine wpAny_bind (m := Builtin.List.listItems (.ref a)) ?_
  unfold Builtin.List.listItems
  refine wpAny_bind (wpAny_seqItems ho rfl (wpAny_pure ?_))
  refine wpAny_bind (wpAny_of_eq (sliceIndices_raw (some i) none none items.size (by simp)) ?_)
  exact wpAny_bind (wpAny_newObj_type (wpAny_pure ⟨_, rfl, wpAny_pure h⟩) (Nat.le_trans (slicePick_size_le items (some i) none none) hsz))

/-- self[i:] = [] -/
theorem cut_acc {sl l : Addr} {i : Int} {t : Tok} {Q : Unit → Shared → Prop} (X : (hd.heap_1 w.params).In s.heap) (ho : s.heap.get? a = some (accObj d items n)) (hs : s.heap.IsSliceOf sl (.int i t) .none .none)
    (hl : s.heap.IsList l #[]) (h0 : 0 ≤ i)
    (h : Q () { s with heap := s.heap.update a (Obj.mapSeq fun xs => xs.extract 0 (min i items.size).toNat ++ #[] ++ xs.extract items.size xs.size) }) (hsz : items.size ≤ 1000) :
    wpAny (model prog w) A (setItem (.ref a) (.ref sl) (.ref l)) Q E s := by
  have hla : l ≠ a := by
    rintro rfl
    obtain ⟨o, e, hc, _⟩ := hl
    rw [ho] at e; cases e; cases hc
  obtain ⟨ol, hol, hcl, nl, hdl⟩ := id hl
  unfold setItem
  refine wpAny_holding (wpAny_bind (seqKey_acc X ho rfl (wpAny_bind ?_)))
  refine special_acc X ho rfl (find_setitem _) slot_setitem kind_setitem split_setitem entry_setitem (args_setitem _ _ _) ?_
  unfold Builtin.«list.__setitem__»
  refine wpAny_bind (m := Builtin.List.listBlankSlotArgs _ _ _) (wpAny_pure ?_)
  refine wpAny_bind (slice_no_sub hs ?_)
  show wpAny _ _ (typeOf (.ref sl) >>= _) _ _ s
  obtain ⟨os, hos, hcs, hds⟩ := id hs
  refine wpAny_bind (m := typeOf (.ref sl)) (wpAny_typeOf (show s.TypeIs (.ref sl) "slice" from ⟨os, hos, hcs⟩) ?_)
  rw [if_neg (by decide)]
  refine wpAny_bind (sliceParts_at hs ?_)
  dsimp only
  rw [if_neg (by simp [Builtin.List.listSameRef, hla.symm])]
  refine wpAny_bind ?_
  unfold Builtin.List.listAllItems
  refine wpAny_bind (wpAny_typeOf hl.typeIs ?_)
  rw [if_pos (by decide)]
  refine wpAny_bind (wpAny_seqItems hol hdl (wpAny_pure ?_))
  refine wpAny_bind (m := Builtin.List.listItems (.ref a)) ?_
  unfold Builtin.List.listItems
  refine wpAny_bind (wpAny_seqItems ho rfl (wpAny_pure ?_))
  refine wpAny_bind (wpAny_of_eq (sliceIndices_raw (some i) none none items.size (by simp)) ?_)
  have hb : sliceBounds (some i) none none items.size = (min i items.size, (items.size : Int), 1) := by
    simp only [sliceBounds, Option.getD_none]
    have h1 : ¬ (i < 0) := by omega
    simp only [h1, if_false, show (1 : Int) > 0 by decide, if_true]
    congr 1; omega
  rw [hb]
  dsimp only
  rw [if_pos (by decide)]
  refine wpAny_bind (wpAny_rule ?_)
  rw [if_neg (by simp [Builtin.List.listTooLong, sizeLine_eq]; omega)]
  refine wpAny_bind (m := Builtin.List.listUpdate _ _) (wpAny_updateSeq ho rfl ?_ (by rw [sizeLine_eq]; omega) (by simp [sizeLine_eq]; omega))
  refine wpAny_bind (wpAny_letGo ?_)
  have e : max (min i (items.size : Int)) (items.size : Int) = (items.size : Int) := by omega
  rw [e]
  exact wpAny_pure ⟨_, rfl, wpAny_pure h⟩

theorem inPy_acc {o : Obj} {Q : Bool → Shared → Prop} (X : (hd.heap_1 w.params).In s.heap) (ho : s.heap.get? a = some o) (hc : o.cls = .ref 100) (h : Q false s) : wpAny (model prog w) A (getitemInPython (.ref a)) Q E s := by
  unfold getitemInPython specialOf
  refine wpAny_bind (wpAny_bind ((type_acc ho hc).here ((looks_findIn X (find_getitem _)).here ?_)))
  exact wpAny_pure h

variable {h₀ : Heap} {L : Addr} {m : Str → Option Value} {news : List (Addr × Obj)}

/-- self[i:], as the walk meets it -/
theorem sliceTail_acc {value : PySem.Expr} {lo up : Option PySem.Expr} {p : Pos} {i : Int} {t : Tok} {Q : Value → Shared → Prop} (F : Fr h₀ L s.heap m) (N : News h₀ L s.heap news) (X : (hd.heap_1 w.params).In s.heap)
    (ho : s.heap.get? a = some (accObj d items n)) (hi : 0 ≤ i) (hsz : items.size ≤ 1000)
    (h : ∀ D h', Fr h₀ L h' m → News h₀ L h' ((D, listOf (items.toList.drop i.toNat).toArray 0) :: news) → s.heap.objs.size < D → s.heap.StaysIn h' → Q (.ref D) { s with heap := h' })
    (ht : ∀ r, letTemporaryGo value (.ref a) r = pure () := by intro _; rfl) :
    wpAny (model prog w) A (subscriptTail value (.Slice lo up none p) (.ref a) (.ref s.heap.objs.size)) Q E { s with heap := s.heap.push { cls := .type "slice", data := .fields #[.int i t, .none, .none] } } := by
  have keep : s.heap.StaysIn (s.heap.push { cls := .type "slice", data := .fields #[.int i t, .none, .none] }) := fun b o e => Heap.get?_push_of_some _ e
  have ho' := keep _ _ ho
  unfold subscriptTail
  have X₁ := X.keeps keep
  refine wpAny_bind (inPy_acc (s := { s with heap := _ }) X₁ ho' rfl (wpAny_bind ?_))
  show wpAny _ _ (operate [.ref s.heap.objs.size, .ref a] (getItem (.ref a) (.ref s.heap.objs.size))) _ _ _
  refine wpAny_operating (slice_acc (s := { s with heap := _ }) X₁ ho' ⟨_, Heap.get?_push_size _ rfl, rfl, rfl⟩ ?_ (by rw [sizeLine_eq]; omega))
  rw [ht]
  refine wpAny_bind (wpAny_pure (wpAny_pure ?_))
  have F₁ := F.push { cls := .type "slice", data := .fields #[.int i t, .none, .none] }
  have N₁ : News h₀ L (s.heap.push { cls := .type "slice", data := .fields #[.int i t, .none, .none] }) news := fun p hp => ⟨keep _ _ (N p hp).1, (N p hp).2⟩
  have N₂ := N₁.push F₁ (listOf (items.toList.drop i.toNat).toArray 0)
  have e := slicePick_from' items i.toNat
  rw [Int.toNat_of_nonneg hi] at e
  rw [e]
  exact h _ _ (F₁.push _) N₂ (by rw [Heap.size_push]; exact Nat.lt_succ_self _) (fun b o e => Heap.get?_push_of_some _ (keep b o e))

theorem fr_upd {h : Heap} {f : Obj → Obj} (F : Fr h₀ L h m) (h0 : h₀.get? a = none) (hL : L ≠ a) : Fr h₀ L (h.update a f) m := by
  obtain ⟨oL, es, ep, hL', r⟩ := F.ns
  refine ⟨⟨oL, es, ep, (Heap.get?_update_ne _ _ _ _ hL).trans hL', r⟩, fun b o e => ?_, F.above⟩
  rw [Heap.get?_update_ne _ _ _ _ (fun q : b = a => by rw [q, h0] at e; cases e)]
  exact F.keep b o e
theorem news_off {h : Heap} {f : Obj → Obj} (N : News h₀ L h news) (hn : ∀ p ∈ news, p.1 ≠ a) : News h₀ L (h.update a f) news :=
  fun p hp => ⟨(Heap.get?_update_ne _ _ _ _ (hn p hp)).trans (N p hp).1, (N p hp).2⟩
theorem news_keeps {h h' : Heap} (N : News h₀ L h news) (hk : h.StaysIn h') : News h₀ L h' news := fun p hp => ⟨hk _ _ (N p hp).1, (N p hp).2⟩
end
end Mine
end

section
open PySem PySem.W PyProof.Rows PySem.Calls PySem.Builtin
set_option maxRecDepth 100000
set_option maxHeartbeats 8000000
namespace Mine
section
variable {prog : Program} {w : World} {A : Around} {h : Heap} {g : Array GenState} {d : Drawn} {t : Nat} {os : OsState} {R : Result → Shared → Prop}
theorem fillMake (P : Params) : PySem.Challenge.rw_yh0005_01 = PySem.Challenge.rw_yh0005_01 → hd.heap_1 P = hd.heap_1 P := by
  k_fill
  intro _
  rfl
theorem lk_made (X : (hd.heap_1 w.params).In h) : Looks (model prog w) h (Bind.madeBy (.ref 100)) (some "list.__new__") := Looks.of_peek X (by kernel_rfl)
theorem lk_base (X : (hd.heap_1 w.params).In h) : Looks (model prog w) h (Bind.staticBase (.ref 100)) (.ref 100) := Looks.of_peek X (by kernel_rfl)
theorem lk_mro (X : (hd.heap_1 w.params).In h) : Looks (model prog w) h (mroOf (.ref 100)) [.ref 100, .type "list", .type "object"] := Looks.of_peek X (by kernel_rfl)
theorem lk_call (X : (hd.heap_1 w.params).In h) : Looks (model prog w) h (specialOf (.ref 100) "__call__") (some (.builtin "type.__call__")) := Looks.of_peek X (by kernel_rfl)
theorem lk_isType (X : (hd.heap_1 w.params).In h) : Looks (model prog w) h (isType (.ref 100)) true := Looks.of_peek X (by kernel_rfl)
theorem lk_subList (X : (hd.heap_1 w.params).In h) : Looks (model prog w) h (isSubtype (.ref 100) (.type "list")) true := Looks.of_peek X (by kernel_rfl)
theorem lk_subSelf (X : (hd.heap_1 w.params).In h) : Looks (model prog w) h (isSubtype (.ref 100) (.ref 100)) true := Looks.of_peek X (by kernel_rfl)
theorem lk_hasDel (X : (hd.heap_1 w.params).In h) : Looks (model prog w) h (classHasDel 100) false := Looks.of_peek X (by kernel_rfl)
theorem lk_newCheck (X : (hd.heap_1 w.params).In h) : Looks (model prog w) h (checkBuiltinCall "list.__new__" ⟨[.ref 100], []⟩) () := Looks.of_peek X (by kernel_rfl)

theorem list_new_acc (X : (hd.heap_1 w.params).In h) (hq : R (.ok (.ret (.ref (h.objs.size + 1)))) ⟨(h.push emptyDict).push (accObj h.objs.size #[] 0), g, d, t, os⟩) :
    codeAny (model prog w) A (.call (.builtin "list.__new__") ⟨[.ref 100], []⟩) R ⟨h, g, d, t, os⟩ := by
  refine codeAny_of_tree ?_
  show wpAny _ A.in1 (do checkBuiltinCall "list.__new__" ⟨[.ref 100], []⟩; again (.builtin "list.__new__" ⟨[.ref 100], []⟩)) _ _ _
  refine wpAny_bind ((lk_newCheck X).at (wpAny_pure ⟨plainId_quiet F.plain_list_new _, codeAny_builtin_stack F.entry_list_new rfl fun p st => ?_⟩))
  rw [Around.under_plainId F.plain_list_new _]
  dsimp only
  rw [owner_list_new]
  refine wpAny_bind ((lk_isType X).at ?_)
  refine wpAny_bind ((lk_subList X).at ?_)
  refine wpAny_bind (wpAny_pure ?_)
  show wpAny _ _ (newDict >>= _) _ _ _
  refine wpAny_bind (wpAny_newObj_type ?_ (Nat.zero_le _))
  refine wpAny_bind ?_
  show wpAny _ _ (newObjAsIs _ _ _) _ _ _
  unfold newObjAsIs
  refine wpAny_bind (wpAny_alloc ?_)
  have k : h.StaysIn ((h.push emptyDict).push (accObj h.objs.size #[] 0)) := fun b o e => Heap.get?_push_of_some _ (Heap.get?_push_of_some _ e)
  refine wpAny_bind ((lk_hasDel (X.keeps k)).at ?_)
  refine wpAny_pure (wpAny_pure ?_)
  show R _ _
  rw [Heap.size_push]
  exact hq

theorem lk_initFn (X : (hd.heap_1 w.params).In h) : Looks (model prog w) h (typeLookup (.ref 100) "__init__") (some (.ref 38)) := Looks.of_peek X (by kernel_rfl)
theorem lk_initBind (X : (hd.heap_1 w.params).In h) (x : Addr) : Looks (model prog w) h (bindSpecial (.ref 38) (.ref x)) (.ref 38, [.ref x]) := Looks.of_peek X (by kernel_rfl)
theorem lk_tc (X : (hd.heap_1 w.params).In h) : Looks (model prog w) h (checkBuiltinCall "type.__call__" ⟨[.ref 100], []⟩) () := Looks.of_peek X (by kernel_rfl)

/-- the class called: a new list with its dict, then __init__ -/
theorem make_core_acc (X : (hd.heap_1 w.params).In h)
    (hq : codeAny (model prog w) (A.under (.builtin "type.__call__" ⟨[.ref 100], []⟩)) (.call (.ref 38) ⟨[.ref (h.objs.size + 1)], []⟩) (InitBack (h.objs.size + 1) R) ⟨(h.push emptyDict).push (accObj h.objs.size #[] 0), g, d, t, os⟩) :
    codeAny (model prog w) A (.call (.ref 100) ⟨[], []⟩) R ⟨h, g, d, t, os⟩ := by
  obtain ⟨oc, od, cd, sl, hC⟩ : ∃ oc od cd sl, (hd.heap_1 w.params).lookup 100 = some ⟨oc, od, .cls cd, sl⟩ := ⟨_, _, _, _, by k_is⟩
  refine codeAny_of_tree ?_
  show wpAny _ _ (callAny (.ref 100) _) _ _ _
  refine nd_load (X _ _ hC) ?_
  show wpAny _ _ (callAny.viaDunder (.ref 100) _) _ _ _
  unfold callAny.viaDunder
  refine wpAny_bind ((lk_call X).at ?_)
  dsimp only
  rw [tc_bind]
  refine wpAny_bind (wpAny_pure (wpAny_bind (wpAny_pure ?_)))
  refine wpAny_pure (a := Fin.again (.call (.builtin "type.__call__") ⟨[.ref 100], []⟩)) (And.intro rfl ?_)
  refine codeAny_call_builtin_at (Code.quiet_builtin _ (by decide +kernel)) entry_typeCall ((lk_tc X).at ?_)
  unfold Builtin.«type.__call__»
  have L1 := lk_mro (prog := prog) X
  have L2 := lk_made (prog := prog) X
  repeat (first | with_reducible refine wpAny_call ?_ | lk)
  refine list_new_acc X ?_
  have k : h.StaysIn ((h.push emptyDict).push (accObj h.objs.size #[] 0)) := fun b o e => Heap.get?_push_of_some _ (Heap.get?_push_of_some _ e)
  have hx : ((h.push emptyDict).push (accObj h.objs.size #[] 0)).get? (h.objs.size + 1) = some (accObj h.objs.size #[] 0) := by heap_get
  have t1 : Looks (model prog w) ((h.push emptyDict).push (accObj h.objs.size #[] 0)) (typeOf (.ref (h.objs.size + 1))) (.ref 100) := (Looks.ld hx).andThen .now
  have s1 := lk_subSelf (prog := prog) (X.keeps k)
  have i1 := lk_initFn (prog := prog) (X.keeps k)
  have b1 := lk_initBind (prog := prog) (X.keeps k) (h.objs.size + 1)
  unfold isInstance callSpecial? specialOf
  repeat (first | with_reducible refine wpAny_call ?_ | lk)
  refine codeAny_mono hq fun r s' z => ?_
  rcases r with e | (v | _ | _ | _) <;> first | exact z | exact z.elim | skip
  obtain ⟨rfl, z⟩ := z
  exact wpAny_pure (wpAny_pure z)
end
end Mine
end

section
open PySem PySem.W PyProof.Rows PySem.Calls PySem.Builtin
set_option maxRecDepth 100000
set_option maxHeartbeats 8000000
namespace Mine
theorem fillSup (P : Params) : PySem.Challenge.rw_yh0005_01 = PySem.Challenge.rw_yh0005_01 → hd.heap_1 P = hd.heap_1 P := by
  k_fill
  intro _
  rfl
section
variable {prog : Program} {w : World} {A : Around} {E : Value → Shared → Prop} {h : Heap} {g : Array GenState} {d : Drawn} {t : Nat} {os : OsState} {R : Result → Shared → Prop} {x so : Addr}

noncomputable abbrev superObj (x : Addr) : Obj := { cls := .type "super", dict := none, data := .fields #[.ref 100, .ref x, .ref 100], slots := #[] }
noncomputable abbrev wrapObj (i : String) (x : Addr) : Obj := { cls := .type "method-wrapper", data := .fields #[.builtin i, .ref x] }

theorem lk_opaque (X : (hd.heap_1 w.params).In h) : Looks (model prog w) h (opaqueClassAbove (.ref 100)) none := Looks.of_peek X (by kernel_rfl)
theorem lk_ownInit (X : (hd.heap_1 w.params).In h) : Looks (model prog w) h (classOwn (.type "list") "__init__") (some (.builtin "list.__init__")) := Looks.of_peek X (by kernel_rfl)
theorem lk_ownLen (X : (hd.heap_1 w.params).In h) : Looks (model prog w) h (classOwn (.type "list") "__len__") (some (.builtin "list.__len__")) := Looks.of_peek X (by kernel_rfl)
theorem lk_typInit (X : (hd.heap_1 w.params).In h) : Looks (model prog w) h (typeOf (.builtin "list.__init__")) (.type "wrapper_descriptor") := Looks.of_peek X (by kernel_rfl)
theorem lk_typLen (X : (hd.heap_1 w.params).In h) : Looks (model prog w) h (typeOf (.builtin "list.__len__")) (.type "wrapper_descriptor") := Looks.of_peek X (by kernel_rfl)
theorem lk_wget (X : (hd.heap_1 w.params).In h) : Looks (model prog w) h (typeLookup (.type "wrapper_descriptor") "__get__") (some (.builtin "wrapper_descriptor.__get__")) := Looks.of_peek X (by kernel_rfl)
theorem lk_wgetCheck1 (X : (hd.heap_1 w.params).In h) (x : Addr) : Looks (model prog w) h (checkBuiltinCall "wrapper_descriptor.__get__" ⟨[.builtin "list.__init__", .ref x, .ref 100], []⟩) () := Looks.of_peek X (by kernel_rfl)
theorem lk_wgetCheck2 (X : (hd.heap_1 w.params).In h) (x : Addr) : Looks (model prog w) h (checkBuiltinCall "wrapper_descriptor.__get__" ⟨[.builtin "list.__len__", .ref x, .ref 100], []⟩) () := Looks.of_peek X (by kernel_rfl)
theorem plain_wget : plainId "wrapper_descriptor.__get__" = true := by decide +kernel
theorem entry_wget : entryFor table "wrapper_descriptor.__get__" = some Builtin.«wrapper_descriptor.__get__» := entryFor_of_tree (by kernel_rfl)


theorem wget_of {i : String} {Q : Value → Shared → Prop} (X : (hd.heap_1 w.params).In h) {o : Obj} (hx : h.get? x = some o) (hc : o.cls = .ref 100)
    (hck : Looks (model prog w) h (checkBuiltinCall "wrapper_descriptor.__get__" ⟨[.builtin i, .ref x, .ref 100], []⟩) ()) (e1 : (".".intercalate (i.cutAt '.').dropLast) = "list")
    (hq : Q (.ref h.objs.size) ⟨h.push (wrapObj i x), g, d, t, os⟩) :
    wpAny (model prog w) A (call (.builtin "wrapper_descriptor.__get__") [.builtin i, .ref x, .ref 100]) Q E ⟨h, g, d, t, os⟩ := by
  refine wpAny_call (codeAny_call_builtin plain_wget entry_wget (hck.at ?_))
  have L1 : Looks (model prog w) h (isInstance (.ref x) (.type "list")) true := isList_acc (s := ⟨h, g, d, t, os⟩) X hx hc
  have L2 : Looks (model prog w) h (isInstance (.ref x) (.type (".".intercalate (i.cutAt '.').dropLast))) true := by rw [e1]; exact L1
  unfold Builtin.«wrapper_descriptor.__get__»
  repeat lk
  exact hq

theorem super_ga_of {i : String} {name : Str} {tk : Tok} {Q : Fin → Shared → Prop} (X : (hd.heap_1 w.params).In h) {o : Obj} (hx : h.get? x = some o) (hc : o.cls = .ref 100) (hx100 : x ≠ 100) (hso : h.get? so = some (superObj x))
    (hck : Looks (model prog w) h (checkBuiltinCall "wrapper_descriptor.__get__" ⟨[.builtin i, .ref x, .ref 100], []⟩) ()) (e1 : (".".intercalate (i.cutAt '.').dropLast) = "list")
    (hown : Looks (model prog w) h (classOwn (.type "list") name) (some (.builtin i))) (hty : Looks (model prog w) h (typeOf (.builtin i)) (.type "wrapper_descriptor")) (hn : (name == ("__class__" : Str)) = false)
    (hq : Q (.done (.ret (.ref h.objs.size))) ⟨h.push (wrapObj i x), g, d, t, os⟩) :
    wpAny (model prog w) A (Builtin.«super.__getattribute__» ⟨[.ref so, .str name tk], []⟩) Q E ⟨h, g, d, t, os⟩ := by
  have hno := lk_opaque (prog := prog) X
  have hC := lk_mro (prog := prog) X
  have hlk := lk_wget (prog := prog) X
  have hne : (Value.ref x == Value.ref 100) = false := by simp [hx100]
  have hdt : (superObj x).data = .fields #[.ref 100, .ref x, .ref 100] := rfl
  have f0 : (#[.ref 100, .ref x, .ref 100] : Array Value)[0]? = some (.ref 100) := rfl
  have f1 : (#[.ref 100, .ref x, .ref 100] : Array Value)[1]? = some (.ref x) := rfl
  have f2 : (#[.ref 100, .ref x, .ref 100] : Array Value)[2]? = some (.ref 100) := rfl
  unfold Builtin.«super.__getattribute__»
  repeat (first
    | (with_reducible refine wpAny_field hso hdt f0 ?_) | (with_reducible refine wpAny_field hso hdt f1 ?_) | (with_reducible refine wpAny_field hso hdt f2 ?_)
    | (with_reducible refine ks_wpAny_notOpaque hno ?_)
    | (with_reducible refine Looks.at hC ?_)
    | (with_reducible refine Looks.at hown ?_)
    | (with_reducible refine Looks.at hty ?_)
    | (with_reducible refine Looks.at hlk ?_)
    | (with_reducible refine wget_of X hx hc hck e1 ?_)
    | (with_reducible refine ⟨_, rfl, ?_⟩)
    | (simp only [hn, hne, Bool.or_false, Bool.false_eq_true, if_false])
    | wp_step
    | dsimp only)
  all_goals exact hq

theorem super_method_of {i : String} {name : Str} {pl : Sem Bool} {Q : Value × List Value → Shared → Prop} (X : (hd.heap_1 w.params).In h) {o : Obj} (hx : h.get? x = some o) (hc : o.cls = .ref 100) (hx100 : x ≠ 100) (hso : h.get? so = some (superObj x))
    (hck : Looks (model prog w) h (checkBuiltinCall "wrapper_descriptor.__get__" ⟨[.builtin i, .ref x, .ref 100], []⟩) ()) (e1 : (".".intercalate (i.cutAt '.').dropLast) = "list")
    (hown : Looks (model prog w) h (classOwn (.type "list") name) (some (.builtin i))) (hty : Looks (model prog w) h (typeOf (.builtin i)) (.type "wrapper_descriptor")) (hn : (name == ("__class__" : Str)) = false)
    (hq : Q (.ref h.objs.size, []) ⟨h.push (wrapObj i x), g, d, t + 1, os⟩) :
    wpAny (model prog w) A (getMethod (.ref so) name pl) Q E ⟨h, g, d, t, os⟩ := by
  have hlk := F.ks_slot_super_ga.lookup
  have hcan := F.ks_canon_super_ga
  have hT : ∀ t', (⟨h, g, d, t', os⟩ : Shared).TypeIs (.ref so) "super" := fun _ => ⟨_, hso, rfl⟩
  unfold getMethod
  refine wpAny_bind (wpAny_specialOf (hT _) hlk ?_)
  show wpAny _ _ (if (Manifest.canonical "super.__getattribute__" != "object.__getattribute__") = true then _ else _) _ _ _
  rw [if_pos hcan]
  unfold getAttr getAttrBy
  refine wpAny_bind (wpAny_bind (wpAny_mkText (wpAny_holding (wpAny_bind (wpAny_typeOf (hT _) (wpAny_bind (wpAny_of_eq hlk ?_)))))))
  show wpAny _ _ (getAttrByItsOwn (.ref so) (.str name t) (.type "super") (.builtin "super.__getattribute__") true false) _ _ _
  unfold getAttrByItsOwn hookBefore callGetattribute boundAndCalled
  refine wpAny_bind (wpAny_of_eq (show (if onTheHeap (.type "super") then typeLookup (.type "super") "__getattr__" else pure none) = pure none from rfl) ?_)
  refine wpAny_bind (wpAny_attempt (wpAny_holding ?_))
  show wpAny _ _ (bindSpecial (.builtin "super.__getattribute__") (.ref so) >>= _) _ _ _
  refine wpAny_bind (wpAny_of_eq (F.ks_slot_super_ga.bind _) ?_)
  refine wpAny_mono (Q := fun v s' => v = .ref h.objs.size ∧ s' = ⟨h.push (wrapObj i x), g, d, t + 1, os⟩) (E := fun _ _ => False)
    (wpAny_call_entry F.ks_slot_super_ga (hT _) F.ks_entry_super_ga (super_ga_of X hx hc hx100 hso hck e1 hown hty hn ⟨_, rfl, rfl, rfl⟩) (F.ks_gaArgs_super _ _)) (fun v s' hv => ?_) fun _ _ z => z.elim
  obtain ⟨rfl, rfl⟩ := hv
  exact wpAny_pure (wpAny_pure hq)

/-- the wrapper called -/
theorem call_wrap {i : String} {q : Addr} {b : Builtin} {Q : Value → Shared → Prop} (hw : h.get? q = some (wrapObj i x)) (hck : Looks (model prog w) h (checkBoundCall i ⟨[.ref x], []⟩) ()) (hb : entryFor table i = some b) (hp : plainId i = true)
    (hq : wpAny (model prog w) A.in1 (b ⟨[.ref x], []⟩) (fun fin s' => ∃ v, fin = .done (.ret v) ∧ Q v s') E ⟨h, g, d, t, os⟩) :
    wpAny (model prog w) A (call (.ref q) []) Q E ⟨h, g, d, t, os⟩ := by
  refine wpAny_call (codeAny_of_tree ?_)
  show wpAny _ _ (callAny (.ref q) _) _ _ _
  refine wpAny_bind (wpAny_load hw ?_)
  dsimp only
  show wpAny _ _ (checkBoundCall i ⟨[.ref x], []⟩ >>= _) _ _ _
  refine wpAny_bind (hck.at (wpAny_pure ⟨plainId_quiet hp _, codeAny_builtin hb ?_⟩))
  rw [Around.under_plainId hp]
  refine wpAny_mono hq (fun fin s' z => ?_) fun _ _ e => e
  obtain ⟨v, rfl, hv⟩ := z
  exact hv

theorem lk_bcInit (X : (hd.heap_1 w.params).In h) (x : Addr) : Looks (model prog w) h (checkBoundCall "list.__init__" ⟨[.ref x], []⟩) () := Looks.of_peek X (by kernel_rfl)
theorem lk_bcLen (X : (hd.heap_1 w.params).In h) (x : Addr) : Looks (model prog w) h (checkBoundCall "list.__len__" ⟨[.ref x], []⟩) () := Looks.of_peek X (by kernel_rfl)

theorem run_init {dx : Addr} {n : Nat} {Q : Value → Shared → Prop} (hx : h.get? x = some (accObj dx #[] n))
    (hq : Q .none ⟨h.update x (Obj.mapSeq fun _ => #[]), g, d, t, os⟩) : wpAny (model prog w) A (Builtin.«list.__init__» ⟨[.ref x], []⟩) (fun fin s' => ∃ v, fin = .done (.ret v) ∧ Q v s') E ⟨h, g, d, t, os⟩ := by
  unfold Builtin.«list.__init__»
  dsimp only
  refine wpAny_bind (m := Builtin.List.listItems (.ref x)) ?_
  unfold Builtin.List.listItems
  refine wpAny_bind (wpAny_seqItems hx rfl (wpAny_pure ?_))
  refine wpAny_bind (m := Builtin.List.listUpdate _ _) (wpAny_updateSeq hx rfl ?_ (Nat.zero_le _) (Nat.zero_le _))
  refine wpAny_bind (wpAny_letGo ?_)
  exact wpAny_pure ⟨_, rfl, hq⟩

theorem run_len {dx : Addr} {n : Nat} {items : Array Value} {Q : Value → Shared → Prop} (hx : h.get? x = some (accObj dx items n)) (hty : Looks (model prog w) h (isInstance (.ref x) (.type "list")) true)
    (hq : Q (.int items.size t) ⟨h, g, d, t + 1, os⟩) : wpAny (model prog w) A (Builtin.«list.__len__» ⟨[.ref x], []⟩) (fun fin s' => ∃ v, fin = .done (.ret v) ∧ Q v s') E ⟨h, g, d, t, os⟩ := by
  unfold Builtin.«list.__len__»
  repeat lk
  exact ⟨_, rfl, hq⟩
end
end Mine
end

section
open PySem PySem.W PyProof.Rows PySem.Calls PySem.Builtin
set_option maxRecDepth 100000
set_option maxHeartbeats 8000000
namespace Mine
theorem fillCount (P : Params) : PySem.Challenge.rw_yh0005_01 = PySem.Challenge.rw_yh0005_01 → hd.heap_1 P = hd.heap_1 P := by
  k_fill
  intro _
  rfl
section
variable {w : World} {A : Around} {s : Shared} {h₀ : Heap} {R : Result → Shared → Prop} {mean : ExcName → Option Value} {mg mb : Str → Option Value}
  {name qual : Str} {params : Arguments} {body : List Stmt} {scope : Scope} {dV kV doc pm cdv ct oc : Value} {an od : Option Addr} {osl : Array (Option Value)} {f : Addr} {args : Args} {binds : List (Str × Value)}

/-- a method that closes over its class, entered -/
theorem enterAt (C : Cx w mean mg mb h₀) (hst : h₀.StaysIn s.heap) (hsz : h₀.objs.size ≤ s.heap.objs.size)
    (ho : (hd.heap_1 w.params).lookup f = some ⟨oc, od, .func (ksFn name qual params body scope dV kV doc pm an cdv ct 25), osl⟩) (hcd : codeIn (hd.heap_1 w.params) cdv qual = true)
    (hroom : A.depth < recursionLimit)
    (hbind : BindsTo s (ksFn name qual params body scope dV kV doc pm an cdv ct 25) args binds) (hloc : ∀ y ∈ binds, scope.names.lookup y.1 = some .local)
    (hcell : ∀ x ∈ scope.names, x.2 ≠ .cell)
    (hco : scope.isCoroutine = false) (hgen : scope.isGenerator = false) (hk : scope.kind = .function)
    (h : ∀ L h₁, L = s.heap.objs.size → Fr h₀ L h₁ (fun x => binds.reverse.lookup x) → s.heap.StaysIn h₁ →
      _root_.PySem.wpAt (model PySem.Challenge.rw_yh0005_01.row.prog w) (A.deeper (ksEnv qual scope L f cdv 25)) (.func body (ksEnv qual scope L f cdv 25)) (execs body (ksEnv qual scope L f cdv 25)) (fun fl s' => R (.ok (.ret (match fl with | .ret v => v | _ => .none))) s')
        (fun e s' => wpAny (model PySem.Challenge.rw_yh0005_01.row.prog w) (A.deeper (ksEnv qual scope L f cdv 25)) (leaving (ksEnv qual scope L f cdv 25) e) (fun _ s'' => R (.error e) s'') (fun e' s'' => R (.error e') s'') s')
        { s with heap := h₁, toks := s.toks + binds.length }) :
    codeAny (model PySem.Challenge.rw_yh0005_01.row.prog w) A (.call (.ref f) args) R s :=
  ks_codeAny_call_defAt (fd := ksFn name qual params body scope dV kV doc pm an cdv ct 25) (body := body) (binds := binds) hroom ((C.X.keeps hst) _ _ ho) rfl (C.T.nolimit.keeps hst) (codeRec_of (C.X.keeps hst) hcd) rfl hbind hcell hloc
    (fun h₁ hn hk₁ => h _ h₁ rfl ⟨hn, fun b o e => hk₁ b o (hst b o e), hsz⟩ hk₁) hco hgen hk
end

theorem callWith_wrap {M : Model} {A : Around} {E : Value → Shared → Prop} {s : Shared} {env : Env} {pos : Pos} {q x : Addr} {i : String} {Q : Value → Shared → Prop} (hw : s.heap.get? q = some (wrapObj i x))
    (h : wpAny M A (call (.ref q) []) Q E s) : wpAny M A (callWith pos (.ref q) [] (backTo pos (starEach [] env)) []) Q E s :=
  callWith_of (P := fun h => h.get? q = some (wrapObj i x)) rfl (fun _ e => ⟨.machine, .inr (.inl rfl), (Looks.ld (part := none) e).andThen .now⟩) (evalArgs_nil3 ⟨hw, h⟩)

theorem acc_ne {w : World} {h : Heap} (X : (hd.heap_1 w.params).In h) {x : Addr} {o : Obj} (hx : h.get? x = some o) (hc : o.cls = .ref 100) : x ≠ 100 := by
  rintro rfl
  obtain ⟨od, cd, sl, hC⟩ : ∃ od cd sl, (hd.heap_1 w.params).lookup 100 = some ⟨.type "type", od, .cls cd, sl⟩ := ⟨_, _, _, by k_is⟩
  rw [X _ _ hC] at hx
  cases hx
  cases hc

theorem count_spec (w : World) {A : Around} {s : Shared} {R : Result → Shared → Prop} {mean : ExcName → Option Value} {mg mb : Str → Option Value} {a : Addr} {items : Array Value}
    (C : Cx w mean mg mb s.heap) (hroom : A.depth ≤ 500) (H : AccAt w s.heap a items)
    (h : ∀ h' tk t, s.heap.StaysIn h' → R (.ok (.ret (.int items.size t))) { s with heap := h', toks := tk }) :
    codeAny (model PySem.Challenge.rw_yh0005_01.row.prog w) A (.call (.ref 97) ⟨[.ref a], []⟩) R s := by
  have X' := C.X
  obtain ⟨d, n, t1, t2, ho, hdo⟩ := id H
  refine' enterAt (binds := [(Str.ofString "self", .ref a)]) C (fun b o e => e) (Nat.le_refl _) ?k1 ?k2 (Nat.lt_of_le_of_lt hroom (by decide)) ?k3 ?k4 ?k5 ?k6 ?k7 ?k8 ?_
  (case k1 => k_is)
  (case k2 => k_is)
  (case k3 => exact BindsTo.of_eq rfl)
  (case k4 => exact locs rfl)
  (case k5 => decide)
  (case k6 => exact rfl)
  (case k7 => exact rfl)
  (case k8 => exact rfl)
  intro L h₁ hL F' hk₁
  have N' : News s.heap L h₁ [] := News.nil
  have T' := C.T
  have I : InstAt h₁ a (accObj d items n) 100 (some (iniObj w.params t1 t2)) := ⟨hk₁ _ _ ho, rfl, rfl, hk₁ _ _ hdo⟩
  (try dsimp only)
  iterate 3 walk1
  refine ks_node F' X' N' T' (by k_is) (by rfl) (by rfl) I (by k_is) (by rfl) (by first | rfl | decide +kernel) (by k_is) (by k_is) (by k_is) (by k_is) (by decide) (by rfl) (by rfl) (by rfl) (by rfl) (by decide +kernel) (by first | boot_by_name | rfl | kernel_rfl) ?_
  intro so h2 F' N' l1
  dsimp only
  have X2 := X'.keeps F'.keep
  have hx2 : h2.get? a = some (accObj d items n) := F'.keep _ _ ho
  refine super_method_of X2 hx2 rfl (acc_ne X2 hx2 rfl) (N'.get (.head _)) (lk_wgetCheck2 X2 a) (by decide +kernel) (lk_ownLen X2) (lk_typLen X2) (by decide) ?_
  dsimp only
  have hw : (h2.push (wrapObj "list.__len__" a)).get? h2.objs.size = some (wrapObj "list.__len__" a) := Heap.get?_push_size _ rfl
  have k3 : h2.StaysIn (h2.push (wrapObj "list.__len__" a)) := fun b o e => Heap.get?_push_of_some _ e
  refine callWith_wrap (i := "list.__len__") (x := a) hw ?_
  refine call_wrap hw (lk_bcLen (X2.keeps k3) a) (F.entry_list_len) (by decide +kernel) ?_
  refine run_len (k3 _ _ hx2) (isList_acc (s := ⟨_, s.gens, s.drawn, s.toks, s.os⟩) (X2.keeps k3) (k3 _ _ hx2) rfl) ?_
  exact h _ _ _ fun b o e => k3 _ _ (F'.keep b o e)
end Mine
end

section
open PySem PySem.W PyProof.Rows PySem.Calls PySem.Builtin
set_option maxRecDepth 100000
set_option maxHeartbeats 8000000
namespace Mine
theorem fillSet (P : Params) : PySem.Challenge.rw_yh0005_01 = PySem.Challenge.rw_yh0005_01 → hd.heap_1 P = hd.heap_1 P := by
  k_fill
  intro _
  rfl
section
variable {prog : Program} {w : World} {A : Around} {E : Value → Shared → Prop} {h : Heap} {g : Array GenState} {d : Drawn} {t : Nat} {os : OsState} {R : Result → Shared → Prop} {x dx : Addr} {items : Array Value} {n : Nat}
theorem lk_sattr (X : (hd.heap_1 w.params).In h) : Looks (model prog w) h (typeLookup (.ref 100) "__setattr__") (some (.builtin "object.__setattr__")) := Looks.of_peek X (by kernel_rfl)
theorem lk_sattrBind (X : (hd.heap_1 w.params).In h) (x : Addr) : Looks (model prog w) h (bindSpecial (.builtin "object.__setattr__") (.ref x)) (.builtin "object.__setattr__", [.ref x]) := Looks.of_peek X (by kernel_rfl)
theorem lk_subObj (X : (hd.heap_1 w.params).In h) : Looks (model prog w) h (isSubtype (.ref 100) (.type "object")) true := Looks.of_peek X (by kernel_rfl)
theorem lk_iniNone (X : (hd.heap_1 w.params).In h) : Looks (model prog w) h (typeLookup (.ref 100) "_initial_size") none := Looks.of_peek X (by kernel_rfl)
theorem lk_cls (X : (hd.heap_1 w.params).In h) : ∃ cd, Looks (model prog w) h (classData 100) cd ∧ cd.hasDict = true := by
  obtain ⟨oc, od, cd, sl, hC, hd⟩ : ∃ oc od cd sl, (hd.heap_1 w.params).lookup 100 = some ⟨oc, od, .cls cd, sl⟩ ∧ cd.hasDict = true := ⟨_, _, _, _, by k_is, rfl⟩
  exact ⟨cd, (Looks.ld (part := none) (X _ _ hC)).andThen .now, hd⟩

theorem sattr_ini {v : Value} {Q : Unit → Shared → Prop} (X : (hd.heap_1 w.params).In h) (hx : h.get? x = some (accObj dx items n)) (hdx : h.get? dx = some emptyDict)
    (hq : ∀ h' t', (∀ b o, b ≠ dx → h.get? b = some o → h'.get? b = some o) → h'.get? dx = some (dictOf [⟨PyData.keyHash w.params "_initial_size", .str "_initial_size" t', v⟩] 1) → Q () ⟨h', g, d, t + 2, os⟩) :
    wpAny (model prog w) A (setAttr (.ref x) "_initial_size" v) Q E ⟨h, g, d, t, os⟩ := by
  have hT : Looks (model prog w) h (typeOf (.ref x)) (.ref 100) := type_acc (s := ⟨h, g, d, t, os⟩) hx rfl
  have hS := lk_sattr (prog := prog) X
  have hB := lk_sattrBind (prog := prog) X x
  have hO : Looks (model prog w) h (isInstance (.ref x) (.type "object")) true := hT.andThen (lk_subObj X)
  have hM := lk_mro (prog := prog) X
  have hN := lk_iniNone (prog := prog) X
  obtain ⟨cd, hC, hcd⟩ := lk_cls (prog := prog) X
  have SF := PySem.F.store_object
  unfold setAttr callSpecial? specialOf
  repeat (first | with_reducible refine wpAny_call ?_ | lk)
  refine codeAny_call_builtin SF.slot.plain SF.entry (@check_slot (model prog w) _ _ ⟨h, g, d, _, os⟩ "object.__setattr__" "object" "__setattr__" (.ref x) [.str "_initial_size" t, v] [] _ SF.kind SF.split hO (SF.args (.ref x) (.str "_initial_size" t) v) ?_)
  show wpAny _ _ (Builtin.«object.__setattr__» ⟨[.ref x, .str "_initial_size" t, v], []⟩) _ _ _
  have hR : refuseLoop (.ref x) "__setattr__" [.ref 100, .type "list", .type "object"] = pure () := by kernel_rfl
  rw [osa_eq, refuse_eq]
  repeat lk
  rw [hcd]
  refine wpAny_pure ?_
  dsimp only
  show wpAny _ _ (nsSet dx "_initial_size" v >>= _) _ _ _
  refine wpAny_bind ?_
  unfold nsSet
  refine wpAny_bind (wpAny_bind (wpAny_askSetting (wpAny_pure (wpAny_bind (wpAny_mkText (wpAny_bind (wpAny_loadPart hdx ?_)))))))
  show wpAny _ _ (updatePart dx (some (.str (Str.ofString "_initial_size") 0)) (Obj.putName (Str.ofString "_initial_size") (PyData.keyHash w.params (Str.ofString "_initial_size")) (.str (Str.ofString "_initial_size") (t + 1)) v)) _ _ _
  refine wpAny_updatePart hdx ?_
  have e : Obj.putName (Str.ofString "_initial_size") (PyData.keyHash w.params (Str.ofString "_initial_size")) (.str (Str.ofString "_initial_size") (t + 1)) v emptyDict = dictOf [⟨PyData.keyHash w.params "_initial_size", .str "_initial_size" (t + 1), v⟩] 1 := by
    rfl
  have D' := Heap.get?_update_self (Obj.putName (Str.ofString "_initial_size") (PyData.keyHash w.params (Str.ofString "_initial_size")) (.str (Str.ofString "_initial_size") (t + 1)) v) hdx (by rw [e]; rfl)
  refine wpAny_bind (wpAny_lookBehind D' (by rw [e]; exact pastItsLine_dict (by rw [List.size_toArray, sizeLine_eq]; simp)) ?_)
  refine wpAny_pure (wpAny_pure (wpAny_pure ?_))
  exact hq _ (t + 1) (fun b o hb q => (Heap.get?_update_ne _ _ _ _ hb).trans q) (D'.trans (by rw [e]))
end
end Mine
end

section
open PySem PySem.W PyProof.Rows PySem.Calls PySem.Builtin
set_option maxRecDepth 100000
set_option maxHeartbeats 8000000
namespace Mine
theorem fillMk (P : Params) : PySem.Challenge.rw_yh0005_01 = PySem.Challenge.rw_yh0005_01 → hd.heap_1 P = hd.heap_1 P := by
  k_fill
  intro _
  rfl
theorem entry_linit : entryFor table "list.__init__" = some Builtin.«list.__init__» := entryFor_of_tree (by kernel_rfl)
theorem fr_but {h₀ h h' : Heap} {L a : Addr} {m : Str → Option Value} (F : Fr h₀ L h m) (hk : ∀ b o, b ≠ a → h.get? b = some o → h'.get? b = some o) (h0 : h₀.get? a = none) (hL : L ≠ a) : Fr h₀ L h' m := by
  obtain ⟨oL, es, ep, hL', r⟩ := F.ns
  refine ⟨⟨oL, es, ep, hk _ _ hL hL', r⟩, fun b o e => hk _ _ (fun q : b = a => by rw [q, h0] at e; cases e) (F.keep b o e), F.above⟩
theorem init_spec (w : World) {A : Around} {s : Shared} {R : Result → Shared → Prop} {mean : ExcName → Option Value} {mg mb : Str → Option Value} {x dx : Addr}
    (C : Cx w mean mg mb ((s.heap.hide x).hide dx)) (hroom : A.depth ≤ 500) (hx : s.heap.get? x = some (accObj dx #[] 0)) (hdx : s.heap.get? dx = some emptyDict)
    (h : ∀ h' tk, ((s.heap.hide x).hide dx).StaysIn h' → AccAt w h' x #[] → R (.ok (.ret .none)) { s with heap := h', toks := tk }) :
    codeAny (model PySem.Challenge.rw_yh0005_01.row.prog w) A (.call (.ref 38) ⟨[.ref x], []⟩) R s := by
  have X' := C.X
  have hne : x ≠ dx := by
    rintro rfl
    rw [hx] at hdx
    cases hdx
  have st0 : ((s.heap.hide x).hide dx).StaysIn s.heap := fun b o e => Heap.of_hide (Heap.of_hide e)
  refine' enterAt (binds := [(Str.ofString "self", .ref x), (Str.ofString "initial_size", .int 0 210)]) C st0 (by rw [Heap.hide_size, Heap.hide_size]; exact Nat.le_refl _) ?k1 ?k2 (Nat.lt_of_le_of_lt hroom (by decide)) ?k3 ?k4 ?k5 ?k6 ?k7 ?k8 ?_
  (case k1 => k_is)
  (case k2 => k_is)
  (case k3 => exact binds_K (X'.keeps st0) rfl (by k_is) rfl rfl rfl)
  (case k4 => exact locs rfl)
  (case k5 => decide)
  (case k6 => exact rfl)
  (case k7 => exact rfl)
  (case k8 => exact rfl)
  intro L h₁ hL F' hk₁
  have N' : News ((s.heap.hide x).hide dx) L h₁ [(x, accObj dx #[] 0), (dx, emptyDict)] := by
    intro p hp
    rcases List.mem_cons.mp hp with rfl | hp
    · refine ⟨hk₁ _ _ hx, hL ▸ Nat.ne_of_lt (Heap.lt_size hx), ?_⟩
      rw [Heap.hide_ne _ hne]; exact Heap.hide_self _ _
    · rw [List.mem_singleton.mp hp]
      exact ⟨hk₁ _ _ hdx, hL ▸ Nat.ne_of_lt (Heap.lt_size hdx), Heap.hide_self _ _⟩
  have T' := C.T
  (try dsimp only)
  iterate 5 walk1
  have hx₁ := hk₁ _ _ hx
  have hdx₁ := hk₁ _ _ hdx
  refine sattr_ini (X'.keeps F'.keep) hx₁ hdx₁ ?_
  intro h2 t' hk₂ hd₂
  have hLdx : L ≠ dx := hL ▸ Ne.symm (Nat.ne_of_lt (Heap.lt_size hdx))
  have hLx : L ≠ x := hL ▸ Ne.symm (Nat.ne_of_lt (Heap.lt_size hx))
  have F₂ := fr_but F' hk₂ (Heap.hide_self _ _) hLdx
  have hx₂ := hk₂ _ _ hne hx₁
  have N₂ : News ((s.heap.hide x).hide dx) L h2 [(x, accObj dx #[] 0), (dx, iniObj w.params t' 210)] := by
    intro p hp
    rcases List.mem_cons.mp hp with rfl | hp
    · exact ⟨hx₂, (N' _ (.head _)).2⟩
    · rw [List.mem_singleton.mp hp]
      exact ⟨hd₂, (N' _ (.tail _ (.head _))).2⟩
  clear F' N'
  have I : InstAt h2 x (accObj dx #[] 0) 100 (some (iniObj w.params t' 210)) := ⟨hx₂, rfl, rfl, hd₂⟩
  dsimp only
  refine ks_wpAt_execs_cons ?_
  refine ks_wpAt_Expr_any ?_
  refine ks_wpAt_MethodCall ?_
  refine ks_node F₂ X' N₂ T' (by k_is) (by rfl) (by rfl) I (by k_is) (by rfl) (by first | rfl | decide +kernel) (by k_is) (by k_is) (by k_is) (by k_is) (by decide) (by rfl) (by rfl) (by rfl) (by rfl) (by decide +kernel) (by first | boot_by_name | rfl | kernel_rfl) ?_
  intro so h3 F₃ N₃ l1
  dsimp only
  have X3 := X'.keeps F₃.keep
  have hx3 : h3.get? x = some (accObj dx #[] 0) := N₃.get (.tail _ (.head _))
  refine super_method_of X3 hx3 rfl (acc_ne X3 hx3 rfl) (N₃.get (.head _)) (lk_wgetCheck1 X3 x) (by decide +kernel) (lk_ownInit X3) (lk_typInit X3) (by decide) ?_
  dsimp only
  have hw : (h3.push (wrapObj "list.__init__" x)).get? h3.objs.size = some (wrapObj "list.__init__" x) := Heap.get?_push_size _ rfl
  have k3 : h3.StaysIn (h3.push (wrapObj "list.__init__" x)) := fun b o e => Heap.get?_push_of_some _ e
  refine callWith_wrap (i := "list.__init__") (x := x) hw ?_
  refine call_wrap hw (lk_bcInit (X3.keeps k3) x) entry_linit (by decide +kernel) ?_
  refine run_init (k3 _ _ hx3) ?_
  refine wpAt_of_wpAny (wpAny_execs_nil ?_)
  have hds : dx ≠ x := Ne.symm hne
  have e1 : ((h3.push (wrapObj "list.__init__" x)).update x (Obj.mapSeq fun _ => #[])).get? x = some (accObj dx #[] 0) := (Heap.get?_update_self _ (k3 _ _ hx3) rfl).trans rfl
  have e2 : ((h3.push (wrapObj "list.__init__" x)).update x (Obj.mapSeq fun _ => #[])).get? dx = some (iniObj w.params t' 210) := (Heap.get?_update_ne _ _ _ _ hds).trans (k3 _ _ (N₃.get (.tail _ (.tail _ (.head _)))))
  refine h _ _ (fun b o e => ?_) ⟨dx, 0, t', 210, e1, e2⟩
  have hb : b ≠ x := by
    rintro rfl
    rw [Heap.hide_ne _ hne, Heap.hide_self] at e; cases e
  rw [Heap.get?_update_ne _ _ _ _ hb]
  exact k3 _ _ (F₃.keep _ _ e)

/-- _Accumulator() -/
theorem make_spec (w : World) {A : Around} {s : Shared} {R : Result → Shared → Prop} {mean : ExcName → Option Value} {mg mb : Str → Option Value}
    (C : Cx w mean mg mb s.heap) (hroom : A.depth ≤ 400)
    (h : ∀ h' tk q, s.heap.StaysIn h' → AccAt w h' q #[] → s.heap.get? q = none → R (.ok (.ret (.ref q))) { s with heap := h', toks := tk }) :
    codeAny (model PySem.Challenge.rw_yh0005_01.row.prog w) A (.call (.ref 100) ⟨[], []⟩) R s := by
  obtain ⟨hp, g, d, t, os⟩ := s
  refine make_core_acc C.X ?_
  have k : hp.StaysIn ((hp.push emptyDict).push (accObj hp.objs.size #[] 0)) := fun b o e => Heap.get?_push_of_some _ (Heap.get?_push_of_some _ e)
  have hx : ((hp.push emptyDict).push (accObj hp.objs.size #[] 0)).get? (hp.objs.size + 1) = some (accObj hp.objs.size #[] 0) := by heap_get
  have hd : ((hp.push emptyDict).push (accObj hp.objs.size #[] 0)).get? hp.objs.size = some emptyDict := by heap_get
  have kh : hp.StaysIn ((((hp.push emptyDict).push (accObj hp.objs.size #[] 0)).hide (hp.objs.size + 1)).hide hp.objs.size) := fun b o e => by
    have hb := Heap.lt_size e
    rw [Heap.hide_ne _ (Nat.ne_of_lt hb), Heap.hide_ne _ (Nat.ne_of_lt (Nat.lt_succ_of_lt hb))]
    exact k _ _ e
  refine init_spec w (C.keeps kh) ?_ hx hd ?_
  · have : (A.under (.builtin "type.__call__" ⟨[.ref 100], []⟩)).depth ≤ A.depth + 100 := by
      show A.depth + (Code.builtin "type.__call__" ⟨[.ref 100], []⟩).weight ≤ _
      have : (Code.builtin "type.__call__" ⟨[.ref 100], []⟩).weight ≤ 100 := by decide
      omega
    omega
  · intro h' tk hk HA
    refine ⟨rfl, h h' tk _ (fun b o e => hk _ _ (kh _ _ e)) HA ?_⟩
    exact Heap.get?_none_of_le (Nat.le_succ _)
end Mine
end

section
open PySem PySem.W PyProof.Rows PySem.Calls
set_option maxRecDepth 100000
set_option maxHeartbeats 8000000
namespace Mine
theorem fillIter (P : Params) : PySem.Challenge.rw_yh0005_01 = PySem.Challenge.rw_yh0005_01 → hd.heap_1 P = hd.heap_1 P := by
  k_fill
  intro _
  rfl
section
variable {prog : Program} {w : World} {A : Around} {E : Value → Shared → Prop} {h : Heap} {g : Array GenState} {d : Drawn} {t : Nat} {os : OsState} {R : Result → Shared → Prop} {s : Shared} {it a : Addr}

/-- items stand behind an address, whatever the class -/
noncomputable def SeqAt (h : Heap) (a : Addr) (items : Array Value) : Prop := ∃ o n, h.get? a = some o ∧ o.data = .seq items n

theorem SeqAt.keeps {h h' : Heap} {items : Array Value} (x : SeqAt h a items) (e : ∀ o, h.get? a = some o → h'.get? a = some o) : SeqAt h' a items :=
  let ⟨o, n, h1, h2⟩ := x; ⟨o, n, e _ h1, h2⟩

theorem next_step {i : Nat} {items : Array Value} {x : Value} {Q : Option Value → Shared → Prop} (hit : s.heap.IsListIter it a i) (hl : SeqAt s.heap a items) (hx : items[i]? = some x)
    (hQ : ∀ h', h'.IsListIter it a (i + 1) → Heap.SameBut it s.heap h' → Q (some x) { s with heap := h' }) :
    wpAny (model prog w) A (pyNext (.ref it)) Q E s := by
  obtain ⟨o, ho, hc, hd⟩ := id hit
  obtain ⟨ol, n, hol, hdl⟩ := hl
  unfold pyNext
  refine wpAny_bind (wpAny_attempt (wpAny_callSpecial?_slot (name := Str.ofString "__next__") hit.typeIs slot_listiter_next
    (wpAny_call_entry slot_listiter_next hit.typeIs entry_listiter_next ?_ (args_listiter_next _))))
  have f0 : (#[.ref a, .int i 0] : Array Value)[0]? = some (.ref a) := rfl
  have f1 : (#[.ref a, .int i 0] : Array Value)[1]? = some (.int i 0) := rfl
  unfold Builtin.«list_iterator.__next__»
  refine wpAny_bind (m := slotArgs _ _ _) (wpAny_pure (wpAny_bind (wpAny_field ho hd f0 ?_)))
  refine wpAny_bind (wpAny_field (i := 1) ho hd f1 (wpAny_bind (wpAny_seqItems hol hdl ?_)))
  dsimp only
  rw [Int.toNat_natCast, hx]
  refine wpAny_bind (wpAny_setField ho hd (by simp) (wpAny_pure ⟨x, rfl, wpAny_pure (hQ _ ⟨_, Heap.get?_update_self _ ho (Obj.isFreed_of_fields (Obj.data_mapFields hd _)), (Obj.cls_mapFields ..).trans hc, ?_⟩ (Heap.SameBut.update ..))⟩))
  rw [Obj.data_mapFields hd]
  simp [rawInt]

theorem next_stop {i : Nat} {items : Array Value} {Q : Option Value → Shared → Prop} (hh : A.handled = none) (hit : s.heap.IsListIter it a i) (hl : SeqAt s.heap a items) (hx : items[i]? = none)
    (hQ : ∀ h', Heap.ExtBut it s.heap h' → Q none { s with heap := h' }) : wpAny (model prog w) A (pyNext (.ref it)) Q E s := by
  obtain ⟨o, ho, hc, hd⟩ := id hit
  obtain ⟨ol, n, hol, hdl⟩ := hl
  unfold pyNext
  refine wpAny_bind (wpAny_attempt (wpAny_callSpecial?_slot (name := Str.ofString "__next__") hit.typeIs slot_listiter_next
    (wpAny_call_entry slot_listiter_next hit.typeIs entry_listiter_next ?_ (args_listiter_next _))))
  have f0 : (#[.ref a, .int i 0] : Array Value)[0]? = some (.ref a) := rfl
  have f1 : (#[.ref a, .int i 0] : Array Value)[1]? = some (.int i 0) := rfl
  unfold Builtin.«list_iterator.__next__»
  refine wpAny_bind (m := slotArgs _ _ _) (wpAny_pure (wpAny_bind (wpAny_field ho hd f0 ?_)))
  refine wpAny_bind (wpAny_field (i := 1) ho hd f1 (wpAny_bind (wpAny_seqItems hol hdl ?_)))
  dsimp only
  rw [Int.toNat_natCast, hx]
  refine wpAny_bind (wpAny_rule (wpAny_bind (wpAny_setField ho hd (by simp) ?_)))
  have hk : A.in1.handled = none := hh
  have e1 := isSubtype_stop
  repeat wp_step
  unfold raiseNew
  refine wpAny_bind (wpAny_handled ?_)
  rw [hk]
  refine wpAny_bind (wpAny_pure (wpAny_throw ?_))
  refine wpAny_bind (wpAny_isInstance (T := "StopIteration") (b := true) ⟨_, Heap.get?_push_size _ rfl, rfl⟩ isSubtype_stop ?_)
  exact wpAny_pure (hQ _ (((Heap.SameBut.update ..).extBut.push _).push _))

end

/-- the values vs are pairs of texts -/
noncomputable def Sheet (h : Heap) (vs : List Value) (ps : List (Str × Str)) : Prop :=
  vs.length = ps.length ∧ ∀ (j : Nat) (x y : Str), ps[j]? = some (x, y) → ∃ (T : Addr) (t u : Tok), vs[j]? = some (Value.ref T) ∧ h.IsTuple T #[Value.str x t, Value.str y u]

theorem Sheet.keeps {h h' : Heap} {vs : List Value} {ps : List (Str × Str)} (S : Sheet h vs ps) (hk : h.StaysIn h') : Sheet h' vs ps :=
  ⟨S.1, fun j x y e => let ⟨T, t, u, h1, o, h2, h3⟩ := S.2 j x y e; ⟨T, t, u, h1, o, hk _ _ h2, h3⟩⟩

/-- the addresses of what a list holds -/
noncomputable def refOf? : PySem.Value → Option Addr
  | .ref T => some T
  | _ => none
noncomputable def refsIn (vs : List Value) : List Addr := vs.filterMap refOf?

theorem mem_refsIn {vs : List Value} {j : Nat} {T : Addr} (e : vs[j]? = some (.ref T)) : T ∈ refsIn vs :=
  List.mem_filterMap.mpr ⟨.ref T, List.mem_of_getElem? e, rfl⟩

theorem Sheet.on {h h' : Heap} {vs : List Value} {ps : List (Str × Str)} (S : Sheet h vs ps) (hk : ∀ b ∈ refsIn vs, ∀ o, h.get? b = some o → h'.get? b = some o) : Sheet h' vs ps :=
  ⟨S.1, fun j x y e => let ⟨T, t, u, h1, o, h2, h3⟩ := S.2 j x y e; ⟨T, t, u, h1, o, hk _ (mem_refsIn h1) _ h2, h3⟩⟩

theorem Sheet.lt {h : Heap} {vs : List Value} {ps : List (Str × Str)} (S : Sheet h vs ps) : ∀ b ∈ refsIn vs, ∃ o, h.get? b = some o ∧ o.cls = .type "tuple" := by
  intro b hb
  obtain ⟨v, hv, e⟩ := List.mem_filterMap.mp hb
  obtain ⟨j, hj⟩ := List.getElem?_of_mem hv
  have hlt : j < ps.length := by rw [← S.1]; exact (List.getElem?_eq_some_iff.mp hj).1
  obtain ⟨T, t, u, h1, o, h2, h3, _⟩ := S.2 j ps[j].1 ps[j].2 (List.getElem?_eq_getElem hlt)
  rw [hj] at h1
  cases h1
  cases e
  exact ⟨o, h2, h3⟩

section
variable {prog : Program} {w : World} {A : Around}
/-- the walk over a sheet, two names a turn -/
theorem walksU_sheet {vs : List Value} {ps : List (Str × Str)} (hh : A.handled = none) (I a : Addr) (hne : a ≠ I) (hI : I ∉ refsIn vs) :
    WalksU prog w A I (I :: a :: refsIn vs) [I] ps.length (fun i vals => ∃ x y t u, ps[i]? = some (x, y) ∧ vals = #[.str x t, .str y u])
      (fun i h => h.IsListIter I a i ∧ SeqAt h a vs.toArray ∧ Sheet h vs ps) (fun i T h => (h.IsListIter I a (i + 1) ∧ SeqAt h a vs.toArray ∧ Sheet h vs ps) ∧ vs[i]? = some (.ref T)) where
  sub := fun b hb => by simp at hb; simp [hb]
  frame := fun i h h' st hk => ⟨st.1.at fun o e => hk I (by simp) o e, st.2.1.keeps fun o e => hk a (by simp) o e, st.2.2.on fun b hb o e => hk b (by simp [hb]) o e⟩
  item := fun i s Q E hi st hQ => by
    obtain ⟨T, t, u, h1, h2⟩ := st.2.2.2 i ps[i].1 ps[i].2 (List.getElem?_eq_getElem hi)
    refine next_step st.1 st.2.1 (x := .ref T) (by simpa using h1) fun h' hit' hs' => ?_
    have kp : ∀ b o, b ∉ [I] → s.heap.get? b = some o → h'.get? b = some o := fun b o hb e => (hs'.2 b (by simpa using hb)).trans e
    have hTI : T ∉ [I] := fun hm => hI (List.mem_singleton.mp hm ▸ mem_refsIn h1)
    obtain ⟨o, g1, g2⟩ := h2
    refine hQ T _ h' s.toks ⟨_, _, t, u, List.getElem?_eq_getElem hi, rfl⟩ ⟨o, kp _ _ hTI g1, g2⟩ ⟨⟨hit', st.2.1.keeps fun o e => kp _ _ (by simpa using hne) e, st.2.2.on fun b hb o e => kp b o (fun hm => hI (List.mem_singleton.mp hm ▸ hb)) e⟩, h1⟩ kp
  go := fun elts k pos i T s Q E mid hQ => by
    obtain ⟨o, ho, hc, hd⟩ := mid.1.1
    unfold letOwnedTupleGo
    dsimp only
    refine wpAny_bind (wpAny_load ho ?_)
    rw [hc, hd]
    exact wpAny_pure (hQ _ mid.1 fun _ _ _ e => e)
  apart := fun i T h mid hm => hI (List.mem_singleton.mp hm ▸ mem_refsIn mid.2)
  done := fun s Q E st hQ => by
    refine next_stop hh st.1 st.2.1 (by have := st.2.2.1; simp; omega) fun h' hs' => ?_
    exact hQ h' s.toks fun b o hb e => hs' b o (by simpa using hb) e
  self := fun _ _ _ _ st hQ => wpAny_pyIter_listiter st.1 hQ
end
end Mine
end

section
open PySem PySem.W PyProof.Rows PySem.Calls
set_option maxRecDepth 100000
set_option maxHeartbeats 8000000
namespace Mine
/-- all that stands above the ground, but the frame's names -/
noncomputable def allAt (h₀ : Heap) (L : Addr) (h : Heap) : List (Addr × Obj) := (List.range h.objs.size).filterMap fun b => if b = L then none else match h₀.get? b, h.get? b with
  | none, some o => some (b, o)
  | _, _ => none

theorem allAt_news (h₀ : Heap) (L : Addr) (h : Heap) : News h₀ L h (allAt h₀ L h) := by
  intro p hp
  obtain ⟨b, _, e⟩ := List.mem_filterMap.mp hp
  by_cases hb : b = L
  · rw [if_pos hb] at e; cases e
  · rw [if_neg hb] at e
    cases e0 : h₀.get? b with
    | some o => rw [e0] at e; cases e
    | none =>
      cases e1 : h.get? b with
      | none => rw [e0, e1] at e; cases e
      | some o => rw [e0, e1] at e; cases e; exact ⟨e1, hb, e0⟩

theorem allAt_mem {h₀ : Heap} {L : Addr} {h : Heap} {b : Addr} {o : Obj} (e : h.get? b = some o) (hb : b ≠ L) (h0 : h₀.get? b = none) : (b, o) ∈ allAt h₀ L h := by
  refine List.mem_filterMap.mpr ⟨b, List.mem_range.mpr (Heap.lt_size e), ?_⟩
  rw [if_neg hb, h0, e]

/-- what a walk that kept it all has kept -/
theorem kept_by {h₀ h h' : Heap} {L : Addr} {m m' : Str → Option Value} {news : List (Addr × Obj)} (F : Fr h₀ L h m) (F' : Fr h₀ L h' m') (N' : News h₀ L h' news) (hs : ∀ p ∈ allAt h₀ L h, p ∈ news) :
    ∀ b o, b ≠ L → h.get? b = some o → h'.get? b = some o := fun b o hb e => by
  cases h0 : h₀.get? b with
  | some o' =>
    have := F.keep _ _ h0
    rw [e] at this
    cases this
    exact F'.keep _ _ h0
  | none => exact (N' _ (hs _ (allAt_mem e hb h0))).1

theorem kept_same {h₀ h : Heap} {L : Addr} {m : Str → Option Value} (F : Fr h₀ L h m) : ∀ {h' : Heap} {m' : Str → Option Value}, Fr h₀ L h' m' → News h₀ L h' (allAt h₀ L h) → ∀ b o, b ≠ L → h.get? b = some o → h'.get? b = some o :=
  fun F' N' => kept_by F F' N' fun _ hp => hp

theorem keptL_trans {h h' h'' : Heap} {L : Addr} (a : ∀ b o, b ≠ L → h.get? b = some o → h'.get? b = some o) (c : ∀ b o, b ≠ L → h'.get? b = some o → h''.get? b = some o) : ∀ b o, b ≠ L → h.get? b = some o → h''.get? b = some o :=
  fun b o hb e => c b o hb (a b o hb e)

theorem acc_neL {w : World} {h₀ h : Heap} {L a : Addr} {m : Str → Option Value} {items : Array Value} (F : Fr h₀ L h m) (H : AccAt w h a items) : a ≠ L := by
  rintro rfl
  obtain ⟨d, n, t, u, h1, _⟩ := H
  obtain ⟨o, es, ep, h2, h3, _⟩ := F.ns
  rw [h1] at h2; cases h2; cases h3

theorem AccAt.keepL {w : World} {h₀ h h' : Heap} {L a : Addr} {m : Str → Option Value} {items : Array Value} (H : AccAt w h a items) (F : Fr h₀ L h m) (hm : m (Str.ofString "_initial_size") = none)
    (hk : ∀ b o, b ≠ L → h.get? b = some o → h'.get? b = some o) : AccAt w h' a items := by
  have ha := acc_neL F H
  obtain ⟨d, n, t, u, h1, h2⟩ := H
  refine ⟨d, n, t, u, hk _ _ ha h1, hk _ _ ?_ h2⟩
  rintro rfl
  obtain ⟨o, es, ep, h3, h4, h5, h6⟩ := F.ns
  rw [h2] at h3
  cases h3
  cases h4
  have := h6 (Str.ofString "_initial_size")
  rw [hm] at this
  exact absurd this (by
    show ¬ (nsFind #[⟨PyData.keyHash w.params "_initial_size", .str "_initial_size" t, .int 0 u⟩] (Str.ofString "_initial_size") = none)
    simp [nsFind, findBy, Value.isStr])

theorem list_neL {h₀ h : Heap} {L a : Addr} {m : Str → Option Value} {items : Array Value} (F : Fr h₀ L h m) (H : h.IsList a items) : a ≠ L := by
  rintro rfl
  obtain ⟨o, h1, _, n, h1'⟩ := H
  obtain ⟨o', es, ep, h2, h3, _⟩ := F.ns
  rw [h1] at h2; cases h2; rw [h1'] at h3; cases h3

theorem Sheet.keepL {h₀ h h' : Heap} {L : Addr} {m : Str → Option Value} {vs : List Value} {ps : List (Str × Str)} (S : Sheet h vs ps) (F : Fr h₀ L h m) (hk : ∀ b o, b ≠ L → h.get? b = some o → h'.get? b = some o) : Sheet h' vs ps :=
  S.on fun b hb o e => hk b o (by
    rintro rfl
    obtain ⟨j, hj⟩ : ∃ j, vs[j]? = some (PySem.Value.ref b) := by
      obtain ⟨v, hv, e'⟩ := List.mem_filterMap.mp hb
      obtain ⟨j, hj⟩ := List.getElem?_of_mem hv
      cases v <;> cases e'
      exact ⟨j, hj⟩
    have hlt : j < ps.length := by rw [← S.1]; exact (List.getElem?_eq_some_iff.mp hj).1
    obtain ⟨T, t, u, h1, o1, h2, h3, n, h4⟩ := S.2 j ps[j].1 ps[j].2 (List.getElem?_eq_getElem hlt)
    rw [hj] at h1
    cases h1
    obtain ⟨o', es, ep, h5, h6, _⟩ := F.ns
    rw [h2] at h5; cases h5; rw [h4] at h6; cases h6) e

/-- another accumulator, while one was changed -/
theorem AccAt.keep1 {w : World} {h h' : Heap} {a b : Addr} {items its : Array Value} (H : AccAt w h b items) (Ha : AccAt w h a its) (hab : b ≠ a) (hk : (h.hide a).StaysIn h') : AccAt w h' b items := by
  obtain ⟨d, n, t, u, h1, h2⟩ := H
  obtain ⟨d', n', t', u', h3, _⟩ := Ha
  refine ⟨d, n, t, u, hk _ _ (by rw [Heap.hide_ne _ hab]; exact h1), hk _ _ ?_⟩
  have hne : d ≠ a := by
    rintro rfl
    rw [h3] at h2; cases h2
  rw [Heap.hide_ne _ hne]; exact h2

theorem Sheet.keep1 {w : World} {h h' : Heap} {a : Addr} {its : Array Value} {vs : List Value} {ps : List (Str × Str)} (S : Sheet h vs ps) (Ha : AccAt w h a its) (hk : (h.hide a).StaysIn h') : Sheet h' vs ps :=
  S.on fun b hb o e => hk b o (by
    have hne : b ≠ a := by
      rintro rfl
      obtain ⟨o', e', hc⟩ := S.lt b hb
      obtain ⟨d', n', t', u', h3, _⟩ := Ha
      rw [h3] at e'
      cases e'
      cases hc
    rw [Heap.hide_ne _ hne]; exact e)

/-- an object with fields: an iterator, say -/
noncomputable def FldAt (h : Heap) (I : Addr) : Prop := ∃ o fs, h.get? I = some o ∧ o.data = .fields fs

theorem AccAt.keepI {w : World} {h h' : Heap} {I a : Addr} {items : Array Value} (H : AccAt w h a items) (hI : FldAt h I) (hk : ∀ b o, b ≠ I → h.get? b = some o → h'.get? b = some o) : AccAt w h' a items := by
  obtain ⟨d, n, t, u, h1, h2⟩ := H
  obtain ⟨o, fs, e, hd⟩ := hI
  refine ⟨d, n, t, u, hk _ _ ?_ h1, hk _ _ ?_ h2⟩
  · rintro rfl; rw [e] at h1; cases h1; cases hd
  · rintro rfl; rw [e] at h2; cases h2; cases hd

theorem Sheet.keepI {h h' : Heap} {I : Addr} {vs : List Value} {ps : List (Str × Str)} (S : Sheet h vs ps) (hI : FldAt h I) (hk : ∀ b o, b ≠ I → h.get? b = some o → h'.get? b = some o) : Sheet h' vs ps :=
  ⟨S.1, fun j x y e => by
    obtain ⟨T, t, u, h1, o, h2, h3, n, h4⟩ := S.2 j x y e
    obtain ⟨oI, fs, e', hd⟩ := hI
    refine ⟨T, t, u, h1, o, hk _ _ ?_ h2, h3, n, h4⟩
    rintro rfl
    rw [e'] at h2; cases h2; rw [h4] at hd; cases hd⟩

/-- the ground under a hidden object -/
theorem Cx.off {w : World} {mean : ExcName → Option Value} {mg mb : Str → Option Value} {h₀ h : Heap} {a : Addr} (C : Cx w mean mg mb h₀) (hk : h₀.StaysIn h) (h0 : h₀.get? a = none) : Cx w mean mg mb (h.hide a) :=
  C.keeps fun b o e => by rw [Heap.hide_ne _ (fun q => by rw [q, h0] at e; cases e)]; exact hk _ _ e
end Mine
end

section
open PySem PySem.W PyProof.Rows PySem.Calls
set_option maxRecDepth 100000
set_option maxHeartbeats 8000000
namespace Mine
theorem fillReadA (P : Params) : PySem.Challenge.rw_yh0005_01 = PySem.Challenge.rw_yh0005_01 → hd.heap_1 P = hd.heap_1 P := by
  k_fill
  intro _
  rfl



theorem fin_read {R : Result → Shared → Prop} {s : Shared} {V : Value → Heap → Prop} {fs : List Addr} {g' h' : Heap} {L : Addr} {m : Str → Option Value} {v : Value} {tk : Tok}
    (h : ∀ h' tk g' v, KtsTurn fs s.heap g' → g'.StaysIn h' → V v h' → R (.ok (.ret v)) { s with heap := h', toks := tk }) (F : Fr g' L h' m) (T : KtsTurn fs s.heap g') (hv : V v h') :
    R (.ok (.ret v)) { s with heap := h', toks := tk } := h h' tk g' v T F.keep hv

/-- a text -/
noncomputable def IsText (x : Str) (v : Value) (_ : Heap) : Prop := ∃ t, v = .str x t
/-- the pair of the host and a port -/
noncomputable def IsPair (p : Int) (v : Value) (h : Heap) : Prop := ∃ T t u, v = .ref T ∧ h.IsTuple T #[.str (Str.ofString "h") t, .int p u]

theorem read_code (w : World) {A : Around} {s : Shared} {R : Result → Shared → Prop} {base : Heap} {outer : List Env} {mean : ExcName → Option Value} {mg mb : Str → Option Value} {resp : Str} {t : Tok}
    (C : Cx w mean mg mb base) (B' : Below A base outer s.heap) (D' : KtsDicts (outer.filterMap (·.frame)) s.heap) (hh : A.handled = none) (hroom : A.depth ≤ 500) (hlen : resp.length ≤ 100)
    (hc : (Txt.slice resp none (some 3) != Str.ofString "229") = true)
    (h : ∀ h' tk g' v, KtsTurn (outer.filterMap (·.frame)) s.heap g' → g'.StaysIn h' → (IsText (Str.ofString "another code")) v h' → R (.ok (.ret v)) { s with heap := h', toks := tk }) :
    codeAny (model PySem.Challenge.rw_yh0005_01.row.prog w) A (.call (.ref 162) ⟨[.str resp t], []⟩) R s := by
  have XB := C.X
  have TB := C.T
  have C₁ := C.keeps B'.stays
  have X' := C₁.X
  refine' enter C₁ (fun _ _ e => e) (Nat.le_refl _) ?k1 ?k2 (Nat.lt_of_le_of_lt hroom (by decide)) ?k3 ?k4 ?k5 ?k6 ?k7 ?k8 ?_
  (case k1 => k_is)
  (case k2 => k_is)
  (case k3 => exact BindsTo.of_eq rfl)
  (case k4 => exact locs rfl)
  (case k5 => decide)
  (case k6 => exact rfl)
  (case k7 => exact rfl)
  (case k8 => exact rfl)
  intro L h₁ hL F' hk₁
  have N' : News s.heap L h₁ [] := News.nil
  have T' := C₁.T
  (try dsimp only)
  (try k_fold)
  k_steps
  refine wpAny_call ?_
  (refine' code_defS ?k1 ?k2 ?k3 ?k4 ?k5 ?XB ?TB ?D ?T0 ?kA ?k6 ?k7 ?k8 ?k9 ?kB ?_ ?cK ?c2 ?c3 ?c4 ?c5; (case kA => exact Around.frames_deeper B'.stack); (case k2 => assumption); (case k1 => exact B'); (case XB => assumption); (case TB => assumption); (case D => assumption); (case T0 => exact KtsTurn.refl); (case k3 => assumption); (case k4 => assumption); (case k5 => assumption); (case k6 => k_is); (case k7 => k_is); (case k8 => exact Nat.lt_of_le_of_lt (Nat.succ_le_succ hroom) (by decide)); (case k9 => exact BindsTo.of_eq rfl); (case kB => exact locs rfl); (case cK => exact rfl); (case c2 => exact rfl); (case c3 => exact rfl); (case c4 => exact rfl); (case c5 => decide))
  intro g' L' h' FG' F' N' B' X' T' D'
  (try dsimp only)
  (try k_lift B')
  (try k_fold)
  k_steps
  all_goals (try dsimp only)
  all_goals first
    | exact fin_read (s := s) h (by assumption) (by first | assumption | exact KtsTurn.refl) ⟨_, rfl⟩

theorem read_s0 (w : World) {A : Around} {s : Shared} {R : Result → Shared → Prop} {base : Heap} {outer : List Env} {mean : ExcName → Option Value} {mg mb : Str → Option Value} {resp : Str} {t : Tok}
    (C : Cx w mean mg mb base) (B' : Below A base outer s.heap) (D' : KtsDicts (outer.filterMap (·.frame)) s.heap) (hh : A.handled = none) (hroom : A.depth ≤ 500) (hlen : resp.length ≤ 100)
    (hc : (Txt.slice resp none (some 3) != Str.ofString "229") = false) (hf : Txt.find resp (Str.ofString "(") < 0)
    (h : ∀ h' tk g' v, KtsTurn (outer.filterMap (·.frame)) s.heap g' → g'.StaysIn h' → (IsText (Str.ofString "another shape")) v h' → R (.ok (.ret v)) { s with heap := h', toks := tk }) :
    codeAny (model PySem.Challenge.rw_yh0005_01.row.prog w) A (.call (.ref 162) ⟨[.str resp t], []⟩) R s := by
  have XB := C.X
  have TB := C.T
  have C₁ := C.keeps B'.stays
  have X' := C₁.X
  refine' enter C₁ (fun _ _ e => e) (Nat.le_refl _) ?k1 ?k2 (Nat.lt_of_le_of_lt hroom (by decide)) ?k3 ?k4 ?k5 ?k6 ?k7 ?k8 ?_
  (case k1 => k_is)
  (case k2 => k_is)
  (case k3 => exact BindsTo.of_eq rfl)
  (case k4 => exact locs rfl)
  (case k5 => decide)
  (case k6 => exact rfl)
  (case k7 => exact rfl)
  (case k8 => exact rfl)
  intro L h₁ hL F' hk₁
  have N' : News s.heap L h₁ [] := News.nil
  have T' := C₁.T
  (try dsimp only)
  (try k_fold)
  k_steps
  refine wpAny_call ?_
  (refine' code_defS ?k1 ?k2 ?k3 ?k4 ?k5 ?XB ?TB ?D ?T0 ?kA ?k6 ?k7 ?k8 ?k9 ?kB ?_ ?cK ?c2 ?c3 ?c4 ?c5; (case kA => exact Around.frames_deeper B'.stack); (case k2 => assumption); (case k1 => exact B'); (case XB => assumption); (case TB => assumption); (case D => assumption); (case T0 => exact KtsTurn.refl); (case k3 => assumption); (case k4 => assumption); (case k5 => assumption); (case k6 => k_is); (case k7 => k_is); (case k8 => exact Nat.lt_of_le_of_lt (Nat.succ_le_succ hroom) (by decide)); (case k9 => exact BindsTo.of_eq rfl); (case kB => exact locs rfl); (case cK => exact rfl); (case c2 => exact rfl); (case c3 => exact rfl); (case c4 => exact rfl); (case c5 => decide))
  intro g' L' h' FG' F' N' B' X' T' D'
  (try dsimp only)
  (try k_lift B')
  (try k_fold)
  k_steps
  all_goals (try dsimp only)
  all_goals first
    | exact fin_read (s := s) h (by assumption) (by first | assumption | exact KtsTurn.refl) ⟨_, rfl⟩

theorem read_s1 (w : World) {A : Around} {s : Shared} {R : Result → Shared → Prop} {base : Heap} {outer : List Env} {mean : ExcName → Option Value} {mg mb : Str → Option Value} {resp : Str} {t : Tok}
    (C : Cx w mean mg mb base) (B' : Below A base outer s.heap) (D' : KtsDicts (outer.filterMap (·.frame)) s.heap) (hh : A.handled = none) (hroom : A.depth ≤ 500) (hlen : resp.length ≤ 100)
    (hc : (Txt.slice resp none (some 3) != Str.ofString "229") = false) (hf : Txt.find resp (Str.ofString "(") = 4) (hg : Txt.find3 resp (Str.ofString ")") (Txt.find resp (Str.ofString "(") + 1) < 0)
    (h : ∀ h' tk g' v, KtsTurn (outer.filterMap (·.frame)) s.heap g' → g'.StaysIn h' → (IsText (Str.ofString "another shape")) v h' → R (.ok (.ret v)) { s with heap := h', toks := tk }) :
    codeAny (model PySem.Challenge.rw_yh0005_01.row.prog w) A (.call (.ref 162) ⟨[.str resp t], []⟩) R s := by
  have XB := C.X
  have TB := C.T
  have C₁ := C.keeps B'.stays
  have X' := C₁.X
  refine' enter C₁ (fun _ _ e => e) (Nat.le_refl _) ?k1 ?k2 (Nat.lt_of_le_of_lt hroom (by decide)) ?k3 ?k4 ?k5 ?k6 ?k7 ?k8 ?_
  (case k1 => k_is)
  (case k2 => k_is)
  (case k3 => exact BindsTo.of_eq rfl)
  (case k4 => exact locs rfl)
  (case k5 => decide)
  (case k6 => exact rfl)
  (case k7 => exact rfl)
  (case k8 => exact rfl)
  intro L h₁ hL F' hk₁
  have N' : News s.heap L h₁ [] := News.nil
  have T' := C₁.T
  (try dsimp only)
  (try k_fold)
  k_steps
  refine wpAny_call ?_
  (refine' code_defS ?k1 ?k2 ?k3 ?k4 ?k5 ?XB ?TB ?D ?T0 ?kA ?k6 ?k7 ?k8 ?k9 ?kB ?_ ?cK ?c2 ?c3 ?c4 ?c5; (case kA => exact Around.frames_deeper B'.stack); (case k2 => assumption); (case k1 => exact B'); (case XB => assumption); (case TB => assumption); (case D => assumption); (case T0 => exact KtsTurn.refl); (case k3 => assumption); (case k4 => assumption); (case k5 => assumption); (case k6 => k_is); (case k7 => k_is); (case k8 => exact Nat.lt_of_le_of_lt (Nat.succ_le_succ hroom) (by decide)); (case k9 => exact BindsTo.of_eq rfl); (case kB => exact locs rfl); (case cK => exact rfl); (case c2 => exact rfl); (case c3 => exact rfl); (case c4 => exact rfl); (case c5 => decide))
  intro g' L' h' FG' F' N' B' X' T' D'
  (try dsimp only)
  (try k_lift B')
  (try k_fold)
  k_steps
  all_goals (try dsimp only)
  all_goals first
    | exact fin_read (s := s) h (by assumption) (by first | assumption | exact KtsTurn.refl) ⟨_, rfl⟩

theorem read_s3 (w : World) {A : Around} {s : Shared} {R : Result → Shared → Prop} {base : Heap} {outer : List Env} {mean : ExcName → Option Value} {mg mb : Str → Option Value} {resp : Str} {t : Tok}
    (C : Cx w mean mg mb base) (B' : Below A base outer s.heap) (D' : KtsDicts (outer.filterMap (·.frame)) s.heap) (hh : A.handled = none) (hroom : A.depth ≤ 500) (hlen : resp.length ≤ 100)
    (hc : (Txt.slice resp none (some 3) != Str.ofString "229") = false) {r : Int} (hf : Txt.find resp (Str.ofString "(") = 4) (hg : Txt.find3 resp (Str.ofString ")") (Txt.find resp (Str.ofString "(") + 1) = r) (hr : 6 ≤ r) (hr2 : r < resp.length) (hi : (Txt.item resp (Txt.find resp (Str.ofString "(") + 1) != Txt.item resp (Txt.find3 resp (Str.ofString ")") (Txt.find resp (Str.ofString "(") + 1) - 1)) = true)
    (h : ∀ h' tk g' v, KtsTurn (outer.filterMap (·.frame)) s.heap g' → g'.StaysIn h' → (IsText (Str.ofString "another shape")) v h' → R (.ok (.ret v)) { s with heap := h', toks := tk }) :
    codeAny (model PySem.Challenge.rw_yh0005_01.row.prog w) A (.call (.ref 162) ⟨[.str resp t], []⟩) R s := by
  have XB := C.X
  have TB := C.T
  have C₁ := C.keeps B'.stays
  have X' := C₁.X
  refine' enter C₁ (fun _ _ e => e) (Nat.le_refl _) ?k1 ?k2 (Nat.lt_of_le_of_lt hroom (by decide)) ?k3 ?k4 ?k5 ?k6 ?k7 ?k8 ?_
  (case k1 => k_is)
  (case k2 => k_is)
  (case k3 => exact BindsTo.of_eq rfl)
  (case k4 => exact locs rfl)
  (case k5 => decide)
  (case k6 => exact rfl)
  (case k7 => exact rfl)
  (case k8 => exact rfl)
  intro L h₁ hL F' hk₁
  have N' : News s.heap L h₁ [] := News.nil
  have T' := C₁.T
  (try dsimp only)
  (try k_fold)
  k_steps
  refine wpAny_call ?_
  (refine' code_defS ?k1 ?k2 ?k3 ?k4 ?k5 ?XB ?TB ?D ?T0 ?kA ?k6 ?k7 ?k8 ?k9 ?kB ?_ ?cK ?c2 ?c3 ?c4 ?c5; (case kA => exact Around.frames_deeper B'.stack); (case k2 => assumption); (case k1 => exact B'); (case XB => assumption); (case TB => assumption); (case D => assumption); (case T0 => exact KtsTurn.refl); (case k3 => assumption); (case k4 => assumption); (case k5 => assumption); (case k6 => k_is); (case k7 => k_is); (case k8 => exact Nat.lt_of_le_of_lt (Nat.succ_le_succ hroom) (by decide)); (case k9 => exact BindsTo.of_eq rfl); (case kB => exact locs rfl); (case cK => exact rfl); (case c2 => exact rfl); (case c3 => exact rfl); (case c4 => exact rfl); (case c5 => decide))
  intro g' L' h' FG' F' N' B' X' T' D'
  (try dsimp only)
  (try k_lift B')
  (try k_fold)
  k_steps
  all_goals (try dsimp only)
  all_goals first
    | exact fin_read (s := s) h (by assumption) (by first | assumption | exact KtsTurn.refl) ⟨_, rfl⟩
end Mine
end

section
open PySem PySem.W PyProof.Rows PySem.Calls
set_option maxRecDepth 100000
set_option maxHeartbeats 4000000
namespace Mine
/-- the ground under a frame with others below it: it turns with each exception that is caught -/
structure Gd (A : Around) (base s₀ : Heap) (outer : List Env) (g : Heap) : Prop where
  T : KtsTurn (outer.filterMap (·.frame)) s₀ g
  B : Below A base outer g
  D : KtsDicts (outer.filterMap (·.frame)) g

theorem KtsTurn.isList {fs : List Addr} {g g' : Heap} {l : Addr} {items : Array Value} (T : KtsTurn fs g g') (h : g.IsList l items) : g'.IsList l items := by
  obtain ⟨o, ho, hc, n, hd⟩ := h
  obtain ⟨sl, hs⟩ := T.up ho
  exact ⟨_, hs, hc, n, hd⟩
theorem KtsTurn.isTuple {fs : List Addr} {g g' : Heap} {l : Addr} {items : Array Value} (T : KtsTurn fs g g') (h : g.IsTuple l items) : g'.IsTuple l items := by
  obtain ⟨o, ho, hc, n, hd⟩ := h
  obtain ⟨sl, hs⟩ := T.up ho
  exact ⟨_, hs, hc, n, hd⟩

section
variable {A : Around} {base s₀ g h h' g' : Heap} {outer : List Env} {L a : Addr} {m : Str → Option Value} {env : Env}

theorem fmem {b : Addr} (hf : env.frame = some L) (hm : b ∈ (env :: outer).filterMap (·.frame)) : b = L ∨ b ∈ outer.filterMap (·.frame) := by
  obtain ⟨e, he, hf'⟩ := List.mem_filterMap.mp hm
  rcases List.mem_cons.mp he with rfl | he
  · rw [hf] at hf'
    exact .inl (Option.some.inj hf').symm
  · exact .inr (List.mem_filterMap.mpr ⟨e, he, hf'⟩)

theorem Gd.below (G : Gd A base s₀ outer g) (F : Fr g L h m) (hf : env.frame = some L) (hk : env.scope.kind = .function) : Below (A.deeper env) base (env :: outer) h := by
  have hnew : base.get? L = none := by
    cases hq : base.get? L with
    | none => rfl
    | some o => exact absurd (Nat.lt_of_lt_of_le (Heap.lt_size (G.B.stays L o hq)) F.above) (Nat.lt_irrefl _)
  refine ⟨Around.frames_deeper G.B.stack, fun b o e => F.keep b o (G.B.stays b o e), ?_⟩
  exact .cons (by rw [hk]; decide) hf F.ns hnew (G.B.frames.of_keeps fun b o e _ => ⟨o, F.keep b o e, rfl⟩)
theorem Gd.dicts (G : Gd A base s₀ outer g) (F : Fr g L h m) (hf : env.frame = some L) : KtsDicts ((env :: outer).filterMap (·.frame)) h := fun b hb => by
  rcases fmem hf hb with rfl | hb
  · obtain ⟨o, es, ep, ho, hd, _⟩ := F.ns
    exact ⟨o, es, ep, ho, hd⟩
  · obtain ⟨o, es, n, ho, hd⟩ := G.D b hb
    exact ⟨o, es, n, F.keep _ _ ho, hd⟩
theorem Gd.cx {w : World} {mean : ExcName → Option Value} {mg mb : Str → Option Value} (G : Gd A base s₀ outer g) (C : Cx w mean mg mb base) : Cx w mean mg mb g := C.keeps G.B.stays

/-- after a call that caught exceptions -/
theorem Gd.after (G : Gd A base s₀ outer g) (F : Fr g L h m) (hf : env.frame = some L) (T' : KtsTurn ((env :: outer).filterMap (·.frame)) h g') (S' : g'.StaysIn h') :
    ∃ g₁, Gd A base s₀ outer g₁ ∧ Fr g₁ L h' m ∧ (∀ b, g.get? b = none → g₁.get? b = none) ∧ (∀ b o, b ≠ L → g.get? b = none → h.get? b = some o → h'.get? b = some o) ∧ (∀ b, h.get? b = none → g'.get? b = none) := by
  have nL₀ : g.get? L = none := kts_self F
  obtain ⟨oL, es, ep, hLg, hLd, hLk, hLf⟩ := id F.ns
  obtain ⟨sl, hs⟩ := T'.up hLg
  obtain ⟨T₁, S₁⟩ := kts_turn_at (h := h') (fs := outer.filterMap (·.frame)) (g := g)
    (fun b hb => by
      obtain ⟨_, o, ho', _⟩ := G.B.frames.mem hb
      exact ⟨o, ho'⟩)
    (fun b o e nmem => S' b o (T'.other b o (F.keep b o e) (fun q => by
      rcases fmem hf q with z | z
      · rw [z, nL₀] at e
        cases e
      · exact nmem z)))
    (fun b o e hm => by
      obtain ⟨sl', hs'⟩ := T'.up (F.keep b o e)
      exact ⟨sl', S' _ _ hs'⟩)
  refine ⟨ktsHeap h' (outer.filterMap (·.frame)) g, ⟨G.T.trans T₁, ⟨G.B.stack, fun b o e => T₁.other b o (G.B.stays b o e) (fun hm => by
    rw [(G.B.frames.mem hm).1] at e
    cases e), G.B.frames.of_keeps fun b o e _ => by
    obtain ⟨sl', hs'⟩ := T₁.up e
    exact ⟨_, hs', rfl⟩⟩, G.D.turn T₁⟩, ⟨⟨_, es, ep, S' _ _ hs, hLd, hLk, hLf⟩, S₁, by rw [T₁.size]; exact F.above⟩, fun b e => T₁.none_ b e, fun b o hb e e' => S' b o (T'.other b o e' fun q => ?_), fun b e => T'.none_ b e⟩
  rcases fmem hf q with z | z
  · exact hb z
  · obtain ⟨o', _, _, ho', _⟩ := G.D b z
    rw [ho'] at e; cases e
end
end Mine
end

section
open PySem PySem.W PyProof.Rows PySem.Calls PySem.NumText
set_option maxRecDepth 100000
set_option maxHeartbeats 4000000
namespace Mine
theorem seven {n : Nat} (h1 : 1 ≤ n) (h2 : n ≤ 7) : n = 1 ∨ n = 2 ∨ n = 3 ∨ n = 4 ∨ n = 5 ∨ n = 6 ∨ n = 7 :=
  (by decide : ∀ m : Fin 8, 1 ≤ m.val → m.val = 1 ∨ m.val = 2 ∨ m.val = 3 ∨ m.val = 4 ∨ m.val = 5 ∨ m.val = 6 ∨ m.val = 7) ⟨n, Nat.lt_succ_of_le h2⟩ h1
theorem to7 {n : Nat} (h : n ≤ 5) : n ≤ 7 := Nat.le_trans h (by decide)
theorem le_8 {n : Nat} : (6 : Int) ≤ (n : Int) + 8 := by omega
theorem le_9 {n : Nat} : (6 : Int) ≤ (n : Int) + 9 := by omega
theorem le_10 {n : Nat} : (6 : Int) ≤ (n : Int) + 10 := by omega
theorem size_100 {d : List Nat} (h : d.length ≤ 7) : d.toArray.size ≤ 100 := by rw [List.size_toArray]; exact Nat.le_trans h (by decide)
theorem size_640 {d : List Nat} (h : d.length ≤ 7) : d.toArray.size ≤ 640 := by rw [List.size_toArray]; exact Nat.le_trans h (by decide)
open PySem.Builtin.Str in
theorem subAt_one (x : PySem.Str) (c i : Nat) (h : i < x.length) : subAt x ⟨#[c]⟩ i = decide (x.cps[i]? = some c) := by
  unfold subAt
  have h' : i < x.cps.size := h
  have e : x.cps.extract i (i + 1) = #[x.cps[i]] := by
    apply Array.ext
    · simp; omega
    · intro j h1 h2
      simp at h2
      subst h2
      simp
  show (x.cps.extract i (i + 1) == #[c]) = _
  rw [e, Array.getElem?_eq_getElem h']
  by_cases hc : x.cps[i] = c <;> simp [hc]

open PySem.Builtin.Str in
theorem occ_mask {x m : PySem.Str} {c : Nat} (hl : m.length = x.length) (h : ∀ i, i < x.length → (x.cps[i]? = some c ↔ m.cps[i]? = some c)) (lo hi lim : Nat) (hhi : hi ≤ x.length) :
    occurrences x ⟨#[c]⟩ lo hi lim = occurrences m ⟨#[c]⟩ lo hi lim := by
  rw [PySem.StrLaws.occ_eq, PySem.StrLaws.occ_eq]
  have e : PySem.StrLaws.occBody x ⟨#[c]⟩ hi lim = PySem.StrLaws.occBody m ⟨#[c]⟩ hi lim := by
    funext i st
    unfold PySem.StrLaws.occBody
    by_cases hi' : i < x.length
    · rw [subAt_one x c i hi', subAt_one m c i (hl ▸ hi')]
      simp only [h i hi']
    · have : ¬ (i + (⟨#[c]⟩ : PySem.Str).length ≤ hi) := by
        show ¬ (i + 1 ≤ hi)
        omega
      simp [this]
  rw [e]

/-- the reply: a code, an opening bracket, three marks, signs, a mark, a closing bracket -/
noncomputable def form (s : Nat) (d : List Nat) : PySem.Str := ⟨([50, 50, 57, 32, 40, s, s, s] ++ d ++ [s, 41]).toArray⟩
noncomputable def maskOf (s n : Nat) : PySem.Str := form s (List.replicate n 48)

theorem form_len (s : Nat) (d : List Nat) : (form s d).length = d.length + 10 := by
  show (([50, 50, 57, 32, 40, s, s, s] ++ d ++ [s, 41]).toArray).size = _
  simp
theorem form_short {s : Nat} {d : List Nat} (h : d.length ≤ 7) : (form s d).length ≤ 100 := by rw [form_len]; exact Nat.le_trans (Nat.add_le_add_right h 10) (by decide)
theorem form_end {s : Nat} {d : List Nat} : (d.length : Int) + 9 < ((form s d).length : Int) := by rw [form_len]; omega

theorem form_mask {s : Nat} {d : List Nat} {c : Nat} (h48 : c ≠ 48) (hd : ∀ x ∈ d, x ≠ c) : ∀ i, i < (form s d).length → ((form s d).cps[i]? = some c ↔ (maskOf s d.length).cps[i]? = some c) := by
  intro i hi
  unfold maskOf form
  simp only [List.getElem?_toArray]
  by_cases h1 : i < 8
  · rw [List.append_assoc, List.append_assoc, List.getElem?_append_left (by simpa using h1), List.getElem?_append_left (by simpa using h1)]
  · by_cases h2 : i < 8 + d.length
    · have e1 : i - 8 < d.length := by omega
      have hl : ([50, 50, 57, 32, 40, s, s, s] : List Nat).length ≤ i := by simp; omega
      rw [List.append_assoc, List.append_assoc, List.getElem?_append_right hl, List.getElem?_append_right hl]
      show (d ++ [s, 41])[i - 8]? = some c ↔ (List.replicate d.length 48 ++ [s, 41])[i - 8]? = some c
      rw [List.getElem?_append_left e1, List.getElem?_append_left (by simpa using e1), List.getElem?_eq_getElem e1, List.getElem?_replicate, if_pos e1]
      constructor
      · intro e; injection e with e; exact absurd e (hd _ (List.getElem_mem e1))
      · intro e; injection e with e; exact absurd e.symm h48
    · have e1 : ([50, 50, 57, 32, 40, s, s, s] ++ d : List Nat).length ≤ i := by simp; omega
      have e2 : ([50, 50, 57, 32, 40, s, s, s] ++ List.replicate d.length 48 : List Nat).length ≤ i := by simp; omega
      rw [List.getElem?_append_right e1, List.getElem?_append_right e2]
      simp

theorem form_cut (s : Nat) (d : List Nat) : (form s d).length = (maskOf s d.length).length := by
  unfold maskOf; rw [form_len, form_len, List.length_replicate]

section
variable {s : Nat} {d : List Nat}
theorem form_find (hd : ∀ x ∈ d, x ≠ 40) (hs : s = 124 ∨ s = 33) (h1 : 1 ≤ d.length) (h2 : d.length ≤ 7) : Txt.find (form s d) (Str.ofString "(") = 4 := by
  have e : PySem.Builtin.Str.occurrences (form s d) ⟨#[40]⟩ 0 (form s d).length 1 = PySem.Builtin.Str.occurrences (maskOf s d.length) ⟨#[40]⟩ 0 (maskOf s d.length).length 1 := by
    rw [occ_mask (form_cut s d).symm (form_mask (by decide) hd) _ _ _ (Nat.le_refl _), form_cut]
  show (match PySem.Builtin.Str.occurrences (form s d) ⟨#[40]⟩ 0 (form s d).length 1 with | i :: _ => (i : Int) | [] => -1) = 4
  rw [e]
  have := seven h1 h2
  rcases hs with rfl | rfl <;> rcases this with h | h | h | h | h | h | h <;> rw [h] <;> decide +kernel

theorem form_find3 (hd : ∀ x ∈ d, x ≠ 41) (hs : s = 124 ∨ s = 33) (h1 : 1 ≤ d.length) (h2 : d.length ≤ 7) : Txt.find3 (form s d) (Str.ofString ")") 5 = d.length + 9 := by
  have e : PySem.Builtin.Str.occurrences (form s d) ⟨#[41]⟩ (fromIndex (form s d).length 5) (form s d).length 1 = PySem.Builtin.Str.occurrences (maskOf s d.length) ⟨#[41]⟩ (fromIndex (maskOf s d.length).length 5) (maskOf s d.length).length 1 := by
    rw [occ_mask (form_cut s d).symm (form_mask (by decide) hd) _ _ _ (Nat.le_refl _), form_cut]
  show (match PySem.Builtin.Str.occurrences (form s d) ⟨#[41]⟩ (fromIndex (form s d).length 5) (form s d).length 1 with | i :: _ => (i : Int) | [] => -1) = _
  rw [e]
  have := seven h1 h2
  rcases hs with rfl | rfl <;> rcases this with h | h | h | h | h | h | h <;> rw [h] <;> decide +kernel
end

theorem form_code {s : Nat} : ∀ (d : List Nat) (_ : 1 ≤ d.length) (_ : d.length ≤ 7), (Txt.slice (form s d) none (some 3) != Str.ofString "229") = false
  | [a], _, _ => by kernel_rfl
  | [a, b], _, _ => by kernel_rfl
  | [a, b, c], _, _ => by kernel_rfl
  | [a, b, c, d], _, _ => by kernel_rfl
  | [a, b, c, d, e], _, _ => by kernel_rfl
  | [a, b, c, d, e, f], _, _ => by kernel_rfl
  | [a, b, c, d, e, f, g], _, _ => by kernel_rfl
  | [], h, _ => absurd h (by simp)
  | _ :: _ :: _ :: _ :: _ :: _ :: _ :: _ :: _, _, h => absurd h (by simp)

theorem form_first {s : Nat} : ∀ (d : List Nat) (_ : 1 ≤ d.length) (_ : d.length ≤ 7), Txt.item (form s d) 5 = ⟨#[s]⟩
  | [a], _, _ => by kernel_rfl
  | [a, b], _, _ => by kernel_rfl
  | [a, b, c], _, _ => by kernel_rfl
  | [a, b, c, d], _, _ => by kernel_rfl
  | [a, b, c, d, e], _, _ => by kernel_rfl
  | [a, b, c, d, e, f], _, _ => by kernel_rfl
  | [a, b, c, d, e, f, g], _, _ => by kernel_rfl
  | [], h, _ => absurd h (by simp)
  | _ :: _ :: _ :: _ :: _ :: _ :: _ :: _ :: _, _, h => absurd h (by simp)

theorem form_last {s : Nat} : ∀ (d : List Nat) (_ : 1 ≤ d.length) (_ : d.length ≤ 7), Txt.item (form s d) ((d.length : Int) + 9 - 1) = ⟨#[s]⟩
  | [a], _, _ => by kernel_rfl
  | [a, b], _, _ => by kernel_rfl
  | [a, b, c], _, _ => by kernel_rfl
  | [a, b, c, d], _, _ => by kernel_rfl
  | [a, b, c, d, e], _, _ => by kernel_rfl
  | [a, b, c, d, e, f], _, _ => by kernel_rfl
  | [a, b, c, d, e, f, g], _, _ => by kernel_rfl
  | [], h, _ => absurd h (by simp)
  | _ :: _ :: _ :: _ :: _ :: _ :: _ :: _ :: _, _, h => absurd h (by simp)

/-- what stands between the brackets -/
noncomputable def inner (s : Nat) (d : List Nat) : PySem.Str := ⟨([s, s, s] ++ d ++ [s]).toArray⟩
theorem slice_of {x : PySem.Str} {l u : Option Int} {idx : List Nat} (h : PySem.Builtin.Str.strSliceIndices l u 1 x.length = idx) (hne : (idx.length == x.length) = false) : Txt.slice x l u = ⟨(idx.filterMap (x.cps[·]?)).toArray⟩ := by
  unfold Txt.slice
  rw [h, hne]
  rfl
theorem form_inner {s : Nat} : ∀ (d : List Nat) (_ : 1 ≤ d.length) (_ : d.length ≤ 7), Txt.slice (form s d) (some 5) (some ((d.length : Int) + 9)) = inner s d
  | [a], _, _ => slice_of (idx := [5, 6, 7, 8, 9]) (show PySem.Builtin.Str.strSliceIndices (some 5) (some 10) 1 11 = _ by decide +kernel) (by kernel_rfl)
  | [a, b], _, _ => slice_of (idx := [5, 6, 7, 8, 9, 10]) (show PySem.Builtin.Str.strSliceIndices (some 5) (some 11) 1 12 = _ by decide +kernel) (by kernel_rfl)
  | [a, b, c], _, _ => slice_of (idx := [5, 6, 7, 8, 9, 10, 11]) (show PySem.Builtin.Str.strSliceIndices (some 5) (some 12) 1 13 = _ by decide +kernel) (by kernel_rfl)
  | [a, b, c, d], _, _ => slice_of (idx := [5, 6, 7, 8, 9, 10, 11, 12]) (show PySem.Builtin.Str.strSliceIndices (some 5) (some 13) 1 14 = _ by decide +kernel) (by kernel_rfl)
  | [a, b, c, d, e], _, _ => slice_of (idx := [5, 6, 7, 8, 9, 10, 11, 12, 13]) (show PySem.Builtin.Str.strSliceIndices (some 5) (some 14) 1 15 = _ by decide +kernel) (by kernel_rfl)
  | [a, b, c, d, e, f], _, _ => slice_of (idx := [5, 6, 7, 8, 9, 10, 11, 12, 13, 14]) (show PySem.Builtin.Str.strSliceIndices (some 5) (some 15) 1 16 = _ by decide +kernel) (by kernel_rfl)
  | [a, b, c, d, e, f, g], _, _ => slice_of (idx := [5, 6, 7, 8, 9, 10, 11, 12, 13, 14, 15]) (show PySem.Builtin.Str.strSliceIndices (some 5) (some 16) 1 17 = _ by decide +kernel) (by kernel_rfl)
  | [], h, _ => absurd h (by simp)
  | _ :: _ :: _ :: _ :: _ :: _ :: _ :: _ :: _, _, h => absurd h (by simp)

theorem inner_mask {s : Nat} {d : List Nat} (h48 : s ≠ 48) (hd : ∀ x ∈ d, x ≠ s) : ∀ i, i < (inner s d).length → ((inner s d).cps[i]? = some s ↔ (inner s (List.replicate d.length 48)).cps[i]? = some s) := by
  intro i hi
  unfold inner
  simp only [List.getElem?_toArray]
  by_cases h1 : i < 3
  · rw [List.append_assoc, List.append_assoc, List.getElem?_append_left (by simpa using h1), List.getElem?_append_left (by simpa using h1)]
  · by_cases h2 : i < 3 + d.length
    · have e1 : i - 3 < d.length := by omega
      have hl : ([s, s, s] : List Nat).length ≤ i := by simp; omega
      rw [List.append_assoc, List.append_assoc, List.getElem?_append_right hl, List.getElem?_append_right hl]
      show (d ++ [s])[i - 3]? = some s ↔ (List.replicate d.length 48 ++ [s])[i - 3]? = some s
      rw [List.getElem?_append_left e1, List.getElem?_append_left (by simpa using e1), List.getElem?_eq_getElem e1, List.getElem?_replicate, if_pos e1]
      constructor
      · intro e; injection e with e; exact absurd e (hd _ (List.getElem_mem e1))
      · intro e; injection e with e; exact absurd e.symm h48
    · have e1 : ([s, s, s] ++ d : List Nat).length ≤ i := by simp; omega
      have e2 : ([s, s, s] ++ List.replicate d.length 48 : List Nat).length ≤ i := by simp; omega
      rw [List.getElem?_append_right e1, List.getElem?_append_right e2]
      simp
theorem inner_len (s : Nat) (d : List Nat) : (inner s d).length = d.length + 4 := by
  show (([s, s, s] ++ d ++ [s]).toArray).size = _
  simp
theorem inner_occ {s : Nat} {d : List Nat} (hs : s = 124 ∨ s = 33) (hd : ∀ x ∈ d, x ≠ s) (h1 : 1 ≤ d.length) (h2 : d.length ≤ 7) :
    PySem.Builtin.Str.occurrences (inner s d) ⟨#[s]⟩ 0 (inner s d).length ((inner s d).length + 1) = [0, 1, 2, d.length + 3] := by
  have h48 : s ≠ 48 := by rcases hs with rfl | rfl <;> decide
  have hl : (inner s (List.replicate d.length 48)).length = (inner s d).length := by rw [inner_len, inner_len, List.length_replicate]
  have e : PySem.Builtin.Str.occurrences (inner s d) ⟨#[s]⟩ 0 (inner s d).length ((inner s d).length + 1) = PySem.Builtin.Str.occurrences (inner s (List.replicate d.length 48)) ⟨#[s]⟩ 0 (inner s (List.replicate d.length 48)).length ((inner s (List.replicate d.length 48)).length + 1) := by
    rw [occ_mask hl (inner_mask h48 hd) _ _ _ (Nat.le_refl _), hl]
  rw [e]
  have := seven h1 h2
  rcases hs with rfl | rfl <;> rcases this with h | h | h | h | h | h | h <;> rw [h] <;> decide +kernel

theorem inner_parts {s : Nat} : ∀ (d : List Nat) (_ : 1 ≤ d.length) (_ : d.length ≤ 7), PySem.Builtin.Str.partsBetween (inner s d) [0, 1, 2, d.length + 3] 1 = [⟨#[]⟩, ⟨#[]⟩, ⟨#[]⟩, ⟨d.toArray⟩, ⟨#[]⟩]
  | [a], _, _ => by kernel_rfl
  | [a, b], _, _ => by kernel_rfl
  | [a, b, c], _, _ => by kernel_rfl
  | [a, b, c, d], _, _ => by kernel_rfl
  | [a, b, c, d, e], _, _ => by kernel_rfl
  | [a, b, c, d, e, f], _, _ => by kernel_rfl
  | [a, b, c, d, e, f, g], _, _ => by kernel_rfl
  | [], h, _ => absurd h (by simp)
  | _ :: _ :: _ :: _ :: _ :: _ :: _ :: _ :: _, _, h => absurd h (by simp)

theorem inner_split {s : Nat} {d : List Nat} (hs : s = 124 ∨ s = 33) (hd : ∀ x ∈ d, x ≠ s) (h1 : 1 ≤ d.length) (h2 : d.length ≤ 7) :
    Txt.split (inner s d) ⟨#[s]⟩ = [⟨#[]⟩, ⟨#[]⟩, ⟨#[]⟩, ⟨d.toArray⟩, ⟨#[]⟩] := by
  unfold Txt.split
  have hk : PySem.Builtin.Str.strKind (⟨#[s]⟩ : PySem.Str) = 1 := by rcases hs with rfl | rfl <;> decide +kernel
  have hk1 : 1 ≤ PySem.Builtin.Str.strKind (inner s d) := by
    unfold PySem.Builtin.Str.strKind
    split
    · exact Nat.le_refl _
    · split <;> decide
  have hl1 : (⟨#[s]⟩ : PySem.Str).length = 1 := rfl
  rw [hk, hl1, inner_len]
  rw [if_neg (by simp; omega)]
  have e := inner_occ hs hd h1 h2
  rw [inner_len] at e
  rw [e, if_neg (by simp), inner_parts d h1 h2]
end Mine
end

section
open PySem PySem.W PyProof.Rows PySem.Calls
set_option maxRecDepth 100000
set_option maxHeartbeats 8000000
namespace Mine
theorem fillCol (P : Params) : PySem.Challenge.rw_yh0005_01 = PySem.Challenge.rw_yh0005_01 → hd.heap_1 P = hd.heap_1 P := by
  k_fill
  intro _
  rfl

/-- figures, set to the right of a column -/
noncomputable def colStr (fig : Str) (wide : Int) : Str := Txt.mul (Str.ofString " ") (wide - fig.length) ++ fig

theorem col_none (w : World) {A : Around} {s : Shared} {R : Result → Shared → Prop} {mean : ExcName → Option Value} {mg mb : Str → Option Value} {wide : Int} {t : Tok}
    (C : Cx w mean mg mb s.heap) (hroom : A.depth ≤ 500) (hw : 0 ≤ wide) (hw2 : wide ≤ 10)
    (h : ∀ h' tk t', s.heap.StaysIn h' → R (.ok (.ret (.str (colStr (Str.ofString "--") wide) t'))) { s with heap := h', toks := tk }) :
    codeAny (model PySem.Challenge.rw_yh0005_01.row.prog w) A (.call (.ref 176) ⟨[.none, .int wide t], []⟩) R s := by
  have X' := C.X
  refine' enter C (fun _ _ e => e) (Nat.le_refl _) ?k1 ?k2 (Nat.lt_of_le_of_lt hroom (by decide)) ?k3 ?k4 ?k5 ?k6 ?k7 ?k8 ?_
  (case k1 => k_is)
  (case k2 => k_is)
  (case k3 => exact BindsTo.of_eq rfl)
  (case k4 => exact locs rfl)
  (case k5 => decide)
  (case k6 => exact rfl)
  (case k7 => exact rfl)
  (case k8 => exact rfl)
  intro L h₁ hL F' hk₁
  have N' : News s.heap L h₁ [] := News.nil
  have T' := C.T
  (try dsimp only)
  (try k_fold)
  k_steps
  exact h _ _ _ (fun b o e => (Fr.keep (by assumption)) b o e)

theorem col_int (w : World) {A : Around} {s : Shared} {R : Result → Shared → Prop} {mean : ExcName → Option Value} {mg mb : Str → Option Value} {wide : Int} {t : Tok} {p : Int} {t2 : Tok} (hp : 0 ≤ p) (hp2 : p < 1000000)
    (C : Cx w mean mg mb s.heap) (hroom : A.depth ≤ 500) (hw : 0 ≤ wide) (hw2 : wide ≤ 10)
    (h : ∀ h' tk t', s.heap.StaysIn h' → R (.ok (.ret (.str (colStr (Str.ofString (toString p)) wide) t'))) { s with heap := h', toks := tk }) :
    codeAny (model PySem.Challenge.rw_yh0005_01.row.prog w) A (.call (.ref 176) ⟨[.int p t2, .int wide t], []⟩) R s := by
  have X' := C.X
  refine' enter C (fun _ _ e => e) (Nat.le_refl _) ?k1 ?k2 (Nat.lt_of_le_of_lt hroom (by decide)) ?k3 ?k4 ?k5 ?k6 ?k7 ?k8 ?_
  (case k1 => k_is)
  (case k2 => k_is)
  (case k3 => exact BindsTo.of_eq rfl)
  (case k4 => exact locs rfl)
  (case k5 => decide)
  (case k6 => exact rfl)
  (case k7 => exact rfl)
  (case k8 => exact rfl)
  intro L h₁ hL F' hk₁
  have N' : News s.heap L h₁ [] := News.nil
  have T' := C.T
  (try dsimp only)
  (try k_fold)
  k_steps
  exact h _ _ _ (fun b o e => (Fr.keep (by assumption)) b o e)
end Mine
end

section
open PySem PySem.W PyProof.Rows PySem.Calls
set_option maxRecDepth 100000
namespace Mine
/-- the figures of a number, one shorter -/
theorem digits_cons {m : Nat} (h : ¬ m < 10) : Nat.toDigits 10 m = Nat.toDigits 10 (m / 10) ++ [Nat.digitChar (m % 10)] := by
  have hm : m % 10 < 10 := Nat.mod_lt m (by decide)
  have t : Nat.toDigits 10 (m / 10) ++ Nat.toDigits 10 (m % 10) = Nat.toDigits 10 (10 * (m / 10) + m % 10) := Nat.toDigits_append_toDigits (by decide) (by omega) hm
  rw [Nat.div_add_mod] at t
  rw [← t, Nat.toDigits_of_lt_base hm]

noncomputable def numCps (m : Nat) : List Nat := (Nat.toDigits 10 m).map Char.toNat

theorem digitChar_nat : ∀ d : Nat, d < 10 → (Nat.digitChar d).toNat = 48 + d := by decide

theorem numCps_small {m : Nat} (h : m < 10) : numCps m = [48 + m] := by
  unfold numCps
  rw [Nat.toDigits_of_lt_base h]
  simp [digitChar_nat m h]
theorem numCps_cons {m : Nat} (h : ¬ m < 10) : numCps m = numCps (m / 10) ++ [48 + m % 10] := by
  unfold numCps
  rw [digits_cons h]
  simp [digitChar_nat (m % 10) (Nat.mod_lt m (by decide))]

theorem fig_cps (m : Nat) : (Str.ofString (toString ((m : Nat) : Int))).cps.toList = numCps m := KIN.signs_num m

theorem num_len1 {m : Nat} (h : m < 10) : (numCps m).length = 1 := by rw [numCps_small h]; rfl
theorem num_len2 {m : Nat} (h1 : 10 ≤ m) (h2 : m < 100) : (numCps m).length = 2 := by rw [numCps_cons (by omega), List.length_append, num_len1 (by omega)]; rfl
theorem num_len3 {m : Nat} (h1 : 100 ≤ m) (h2 : m < 1000) : (numCps m).length = 3 := by rw [numCps_cons (by omega), List.length_append, num_len2 (by omega) (by omega)]; rfl
theorem num_len4 {m : Nat} (h1 : 1000 ≤ m) (h2 : m < 10000) : (numCps m).length = 4 := by rw [numCps_cons (by omega), List.length_append, num_len3 (by omega) (by omega)]; rfl
theorem num_len5 {m : Nat} (h1 : 10000 ≤ m) (h2 : m < 100000) : (numCps m).length = 5 := by rw [numCps_cons (by omega), List.length_append, num_len4 (by omega) (by omega)]; rfl

theorem fig_len (m : Nat) : (Str.ofString (toString ((m : Nat) : Int))).length = (numCps m).length := by
  rw [← fig_cps, Array.length_toList]; rfl

/-- how wide a number's figures are -/
theorem fig_wide {p : Int} (h0 : 0 ≤ p) (h1 : p < 100000) : (1 ≤ (Str.ofString (toString p)).length ∧ (Str.ofString (toString p)).length ≤ 5) ∧ (p < 1000 → (Str.ofString (toString p)).length ≤ 3) ∧
    (1000 ≤ p → p < 10000 → (Str.ofString (toString p)).length = 4) ∧ (10000 ≤ p → (Str.ofString (toString p)).length = 5) := by
  obtain ⟨m, rfl⟩ := Int.eq_ofNat_of_zero_le h0
  rw [fig_len]
  have hm : m < 100000 := by omega
  by_cases a1 : m < 10
  · rw [num_len1 a1]; omega
  by_cases a2 : m < 100
  · rw [num_len2 (by omega) a2]; omega
  by_cases a3 : m < 1000
  · rw [num_len3 (by omega) a3]; omega
  by_cases a4 : m < 10000
  · rw [num_len4 (by omega) a4]; omega
  · rw [num_len5 (by omega) hm]; omega
end Mine
end

section
open PySem PySem.W PyProof.Rows PySem.Calls PySem.NumText
set_option maxRecDepth 100000
set_option maxHeartbeats 4000000
namespace Mine
/-- a text with some signs in its midst -/
noncomputable def txt (pre d suf : List Nat) : PySem.Str := ⟨(pre ++ d ++ suf).toArray⟩
theorem txt_len (pre d suf : List Nat) : (txt pre d suf).length = pre.length + d.length + suf.length := by
  show ((pre ++ d ++ suf).toArray).size = _
  simp; omega
theorem txt_mask {pre d suf : List Nat} {c : Nat} (h48 : c ≠ 48) (hd : ∀ x ∈ d, x ≠ c) : ∀ i, i < (txt pre d suf).length → ((txt pre d suf).cps[i]? = some c ↔ (txt pre (List.replicate d.length 48) suf).cps[i]? = some c) := by
  intro i hi
  unfold txt
  simp only [List.getElem?_toArray]
  by_cases h1 : i < pre.length
  · rw [List.append_assoc, List.append_assoc, List.getElem?_append_left h1, List.getElem?_append_left h1]
  · by_cases h2 : i < pre.length + d.length
    · have e1 : i - pre.length < d.length := by omega
      have hl : pre.length ≤ i := by omega
      rw [List.append_assoc, List.append_assoc, List.getElem?_append_right hl, List.getElem?_append_right hl, List.getElem?_append_left e1, List.getElem?_append_left (by simpa using e1), List.getElem?_eq_getElem e1, List.getElem?_replicate, if_pos e1]
      constructor
      · intro e; injection e with e; exact absurd e (hd _ (List.getElem_mem e1))
      · intro e; injection e with e; exact absurd e.symm h48
    · have e1 : (pre ++ d).length ≤ i := by simp; omega
      have e2 : (pre ++ List.replicate d.length 48).length ≤ i := by simp; omega
      rw [List.getElem?_append_right e1, List.getElem?_append_right e2]
      simp
theorem txt_cut (pre d suf : List Nat) : (txt pre (List.replicate d.length 48) suf).length = (txt pre d suf).length := by rw [txt_len, txt_len, List.length_replicate]
theorem txt_find {pre d suf : List Nat} {c : Nat} (h48 : c ≠ 48) (hd : ∀ x ∈ d, x ≠ c) : Txt.find (txt pre d suf) ⟨#[c]⟩ = Txt.find (txt pre (List.replicate d.length 48) suf) ⟨#[c]⟩ := by
  unfold Txt.find
  rw [occ_mask (txt_cut pre d suf) (txt_mask h48 hd) _ _ _ (Nat.le_refl _), txt_cut]
theorem txt_find3 {pre d suf : List Nat} {c : Nat} {k : Int} (h48 : c ≠ 48) (hd : ∀ x ∈ d, x ≠ c) : Txt.find3 (txt pre d suf) ⟨#[c]⟩ k = Txt.find3 (txt pre (List.replicate d.length 48) suf) ⟨#[c]⟩ k := by
  unfold Txt.find3
  rw [occ_mask (txt_cut pre d suf) (txt_mask h48 hd) _ _ _ (Nat.le_refl _), txt_cut]
theorem five {n : Nat} (h1 : 1 ≤ n) (h2 : n ≤ 5) : n = 1 ∨ n = 2 ∨ n = 3 ∨ n = 4 ∨ n = 5 :=
  (by decide : ∀ m : Fin 6, 1 ≤ m.val → m.val = 1 ∨ m.val = 2 ∨ m.val = 3 ∨ m.val = 4 ∨ m.val = 5) ⟨n, Nat.lt_succ_of_le h2⟩ h1
theorem txt_short {pre d suf : List Nat} (h : pre.length + suf.length ≤ 90) (h2 : d.length ≤ 5) : (txt pre d suf).length ≤ 100 := by rw [txt_len]; omega
theorem txt_end {pre d suf : List Nat} {k : Nat} (h : k < pre.length + suf.length) : (d.length : Int) + (k : Int) < ((txt pre d suf).length : Int) := by rw [txt_len]; omega
theorem c_code : ∀ (d : List Nat) (_ : 1 ≤ d.length) (_ : d.length ≤ 5), (Txt.slice (txt [50, 50, 55, 32, 40, 124, 124, 124] d [124, 41]) none (some 3) != Str.ofString "229") = true
  | [a], _, _ => by kernel_rfl
  | [a, b], _, _ => by kernel_rfl
  | [a, b, c], _, _ => by kernel_rfl
  | [a, b, c, d], _, _ => by kernel_rfl
  | [a, b, c, d, e], _, _ => by kernel_rfl
  | [], h, _ => absurd h (by simp)
  | _ :: _ :: _ :: _ :: _ :: _ :: _, _, h => absurd h (by simp)
theorem c_s0 : ∀ (d : List Nat) (_ : 1 ≤ d.length) (_ : d.length ≤ 5), (Txt.slice (txt [50, 50, 57, 32, 50] d [50, 41]) none (some 3) != Str.ofString "229") = false
  | [a], _, _ => by kernel_rfl
  | [a, b], _, _ => by kernel_rfl
  | [a, b, c], _, _ => by kernel_rfl
  | [a, b, c, d], _, _ => by kernel_rfl
  | [a, b, c, d, e], _, _ => by kernel_rfl
  | [], h, _ => absurd h (by simp)
  | _ :: _ :: _ :: _ :: _ :: _ :: _, _, h => absurd h (by simp)
theorem f_s0 {d : List Nat} (hd : ∀ x ∈ d, 48 ≤ x ∧ x ≤ 57) (h1 : 1 ≤ d.length) (h2 : d.length ≤ 5) : Txt.find (txt [50, 50, 57, 32, 50] d [50, 41]) (Str.ofString "(") < 0 := by
  show Txt.find (txt [50, 50, 57, 32, 50] d [50, 41]) ⟨#[40]⟩ < 0
  rw [txt_find (by decide) (fun x hx => by have := hd x hx; omega)]
  rcases five h1 h2 with h | h | h | h | h <;> rw [h] <;> decide +kernel
theorem c_s1 : ∀ (d : List Nat) (_ : 1 ≤ d.length) (_ : d.length ≤ 5), (Txt.slice (txt [50, 50, 57, 32, 40, 124, 124, 124] d [124, 93]) none (some 3) != Str.ofString "229") = false
  | [a], _, _ => by kernel_rfl
  | [a, b], _, _ => by kernel_rfl
  | [a, b, c], _, _ => by kernel_rfl
  | [a, b, c, d], _, _ => by kernel_rfl
  | [a, b, c, d, e], _, _ => by kernel_rfl
  | [], h, _ => absurd h (by simp)
  | _ :: _ :: _ :: _ :: _ :: _ :: _, _, h => absurd h (by simp)
theorem f_s1 {d : List Nat} (hd : ∀ x ∈ d, 48 ≤ x ∧ x ≤ 57) (h1 : 1 ≤ d.length) (h2 : d.length ≤ 5) : Txt.find (txt [50, 50, 57, 32, 40, 124, 124, 124] d [124, 93]) (Str.ofString "(") = 4 := by
  show Txt.find (txt [50, 50, 57, 32, 40, 124, 124, 124] d [124, 93]) ⟨#[40]⟩ = 4
  rw [txt_find (by decide) (fun x hx => by have := hd x hx; omega)]
  rcases five h1 h2 with h | h | h | h | h <;> rw [h] <;> decide +kernel
theorem g_s1 {d : List Nat} (hd : ∀ x ∈ d, 48 ≤ x ∧ x ≤ 57) (h1 : 1 ≤ d.length) (h2 : d.length ≤ 5) : Txt.find3 (txt [50, 50, 57, 32, 40, 124, 124, 124] d [124, 93]) (Str.ofString ")") 5 < 0 := by
  show Txt.find3 (txt [50, 50, 57, 32, 40, 124, 124, 124] d [124, 93]) ⟨#[41]⟩ 5 < 0
  rw [txt_find3 (by decide) (fun x hx => by have := hd x hx; omega)]
  rcases five h1 h2 with h | h | h | h | h <;> rw [h] <;> decide +kernel
theorem c_s3 : ∀ (d : List Nat) (_ : 1 ≤ d.length) (_ : d.length ≤ 5), (Txt.slice (txt [50, 50, 57, 32, 40, 124, 124, 124] d [124, 33, 41]) none (some 3) != Str.ofString "229") = false
  | [a], _, _ => by kernel_rfl
  | [a, b], _, _ => by kernel_rfl
  | [a, b, c], _, _ => by kernel_rfl
  | [a, b, c, d], _, _ => by kernel_rfl
  | [a, b, c, d, e], _, _ => by kernel_rfl
  | [], h, _ => absurd h (by simp)
  | _ :: _ :: _ :: _ :: _ :: _ :: _, _, h => absurd h (by simp)
theorem f_s3 {d : List Nat} (hd : ∀ x ∈ d, 48 ≤ x ∧ x ≤ 57) (h1 : 1 ≤ d.length) (h2 : d.length ≤ 5) : Txt.find (txt [50, 50, 57, 32, 40, 124, 124, 124] d [124, 33, 41]) (Str.ofString "(") = 4 := by
  show Txt.find (txt [50, 50, 57, 32, 40, 124, 124, 124] d [124, 33, 41]) ⟨#[40]⟩ = 4
  rw [txt_find (by decide) (fun x hx => by have := hd x hx; omega)]
  rcases five h1 h2 with h | h | h | h | h <;> rw [h] <;> decide +kernel
theorem g_s3 {d : List Nat} (hd : ∀ x ∈ d, 48 ≤ x ∧ x ≤ 57) (h1 : 1 ≤ d.length) (h2 : d.length ≤ 5) : Txt.find3 (txt [50, 50, 57, 32, 40, 124, 124, 124] d [124, 33, 41]) (Str.ofString ")") 5 = d.length + 10 := by
  show Txt.find3 (txt [50, 50, 57, 32, 40, 124, 124, 124] d [124, 33, 41]) ⟨#[41]⟩ 5 = d.length + 10
  rw [txt_find3 (by decide) (fun x hx => by have := hd x hx; omega)]
  rcases five h1 h2 with h | h | h | h | h <;> rw [h] <;> decide +kernel
theorem i_s3 : ∀ (d : List Nat) (_ : 1 ≤ d.length) (_ : d.length ≤ 5), (Txt.item (txt [50, 50, 57, 32, 40, 124, 124, 124] d [124, 33, 41]) 5 != Txt.item (txt [50, 50, 57, 32, 40, 124, 124, 124] d [124, 33, 41]) ((d.length : Int) + 10 - 1)) = true
  | [a], _, _ => by kernel_rfl
  | [a, b], _, _ => by kernel_rfl
  | [a, b, c], _, _ => by kernel_rfl
  | [a, b, c, d], _, _ => by kernel_rfl
  | [a, b, c, d, e], _, _ => by kernel_rfl
  | [], h, _ => absurd h (by simp)
  | _ :: _ :: _ :: _ :: _ :: _ :: _, _, h => absurd h (by simp)
theorem c_s2 : ∀ (d : List Nat) (_ : 1 ≤ d.length) (_ : d.length ≤ 5), (Txt.slice (txt [50, 50, 57, 32, 40, 124, 124] d [124, 41]) none (some 3) != Str.ofString "229") = false
  | [a], _, _ => by kernel_rfl
  | [a, b], _, _ => by kernel_rfl
  | [a, b, c], _, _ => by kernel_rfl
  | [a, b, c, d], _, _ => by kernel_rfl
  | [a, b, c, d, e], _, _ => by kernel_rfl
  | [], h, _ => absurd h (by simp)
  | _ :: _ :: _ :: _ :: _ :: _ :: _, _, h => absurd h (by simp)
theorem f_s2 {d : List Nat} (hd : ∀ x ∈ d, 48 ≤ x ∧ x ≤ 57) (h1 : 1 ≤ d.length) (h2 : d.length ≤ 5) : Txt.find (txt [50, 50, 57, 32, 40, 124, 124] d [124, 41]) (Str.ofString "(") = 4 := by
  show Txt.find (txt [50, 50, 57, 32, 40, 124, 124] d [124, 41]) ⟨#[40]⟩ = 4
  rw [txt_find (by decide) (fun x hx => by have := hd x hx; omega)]
  rcases five h1 h2 with h | h | h | h | h <;> rw [h] <;> decide +kernel
theorem g_s2 {d : List Nat} (hd : ∀ x ∈ d, 48 ≤ x ∧ x ≤ 57) (h1 : 1 ≤ d.length) (h2 : d.length ≤ 5) : Txt.find3 (txt [50, 50, 57, 32, 40, 124, 124] d [124, 41]) (Str.ofString ")") 5 = d.length + 8 := by
  show Txt.find3 (txt [50, 50, 57, 32, 40, 124, 124] d [124, 41]) ⟨#[41]⟩ 5 = d.length + 8
  rw [txt_find3 (by decide) (fun x hx => by have := hd x hx; omega)]
  rcases five h1 h2 with h | h | h | h | h <;> rw [h] <;> decide +kernel
theorem i_s2 : ∀ (d : List Nat) (_ : 1 ≤ d.length) (_ : d.length ≤ 5), (Txt.item (txt [50, 50, 57, 32, 40, 124, 124] d [124, 41]) 5 != Txt.item (txt [50, 50, 57, 32, 40, 124, 124] d [124, 41]) ((d.length : Int) + 8 - 1)) = false
  | [a], _, _ => by kernel_rfl
  | [a, b], _, _ => by kernel_rfl
  | [a, b, c], _, _ => by kernel_rfl
  | [a, b, c, d], _, _ => by kernel_rfl
  | [a, b, c, d, e], _, _ => by kernel_rfl
  | [], h, _ => absurd h (by simp)
  | _ :: _ :: _ :: _ :: _ :: _ :: _, _, h => absurd h (by simp)
theorem m_s2 : ∀ (d : List Nat) (_ : 1 ≤ d.length) (_ : d.length ≤ 5), Txt.item (txt [50, 50, 57, 32, 40, 124, 124] d [124, 41]) 5 = ⟨#[124]⟩
  | [a], _, _ => by kernel_rfl
  | [a, b], _, _ => by kernel_rfl
  | [a, b, c], _, _ => by kernel_rfl
  | [a, b, c, d], _, _ => by kernel_rfl
  | [a, b, c, d, e], _, _ => by kernel_rfl
  | [], h, _ => absurd h (by simp)
  | _ :: _ :: _ :: _ :: _ :: _ :: _, _, h => absurd h (by simp)
theorem n_s2 : ∀ (d : List Nat) (_ : 1 ≤ d.length) (_ : d.length ≤ 5), Txt.slice (txt [50, 50, 57, 32, 40, 124, 124] d [124, 41]) (some 5) (some ((d.length : Int) + 8)) = txt [124, 124] d [124]
  | [a], _, _ => slice_of (idx := [5, 6, 7, 8]) (show PySem.Builtin.Str.strSliceIndices (some 5) (some 9) 1 10 = _ by decide +kernel) (by kernel_rfl)
  | [a, b], _, _ => slice_of (idx := [5, 6, 7, 8, 9]) (show PySem.Builtin.Str.strSliceIndices (some 5) (some 10) 1 11 = _ by decide +kernel) (by kernel_rfl)
  | [a, b, c], _, _ => slice_of (idx := [5, 6, 7, 8, 9, 10]) (show PySem.Builtin.Str.strSliceIndices (some 5) (some 11) 1 12 = _ by decide +kernel) (by kernel_rfl)
  | [a, b, c, d], _, _ => slice_of (idx := [5, 6, 7, 8, 9, 10, 11]) (show PySem.Builtin.Str.strSliceIndices (some 5) (some 12) 1 13 = _ by decide +kernel) (by kernel_rfl)
  | [a, b, c, d, e], _, _ => slice_of (idx := [5, 6, 7, 8, 9, 10, 11, 12]) (show PySem.Builtin.Str.strSliceIndices (some 5) (some 13) 1 14 = _ by decide +kernel) (by kernel_rfl)
  | [], h, _ => absurd h (by simp)
  | _ :: _ :: _ :: _ :: _ :: _ :: _, _, h => absurd h (by simp)
theorem s_s2 {d : List Nat} (hd : ∀ x ∈ d, 48 ≤ x ∧ x ≤ 57) (h1 : 1 ≤ d.length) (h2 : d.length ≤ 5) : (Txt.split (txt [124, 124] d [124]) ⟨#[124]⟩).length = 4 := by
  unfold Txt.split
  have hk : PySem.Builtin.Str.strKind (⟨#[124]⟩ : PySem.Str) = 1 := by decide +kernel
  have hk1 : 1 ≤ PySem.Builtin.Str.strKind (txt [124, 124] d [124]) := by
    unfold PySem.Builtin.Str.strKind
    split
    · exact Nat.le_refl _
    · split <;> decide
  have hl1 : (⟨#[124]⟩ : PySem.Str).length = 1 := rfl
  have e : PySem.Builtin.Str.occurrences (txt [124, 124] d [124]) ⟨#[124]⟩ 0 (txt [124, 124] d [124]).length ((txt [124, 124] d [124]).length + 1) = [0, 1, d.length + 2] := by
    rw [occ_mask (txt_cut _ d _) (txt_mask (by decide) (fun x hx => by have := hd x hx; omega)) _ _ _ (Nat.le_refl _), ← txt_cut]
    rcases five h1 h2 with h | h | h | h | h <;> rw [h] <;> decide +kernel
  rw [hk, hl1, e]
  have hlen := txt_len [124, 124] d [124]
  rw [if_neg (by simp only [hlen]; simp; omega), if_neg (by simp)]
  rfl
end Mine
end

section
open PySem PySem.W PyProof.Rows PySem.Calls
set_option maxRecDepth 100000
set_option maxHeartbeats 8000000
namespace Mine
theorem fillReadB (P : Params) : PySem.Challenge.rw_yh0005_01 = PySem.Challenge.rw_yh0005_01 → hd.heap_1 P = hd.heap_1 P := by
  k_fill
  intro _
  rfl



theorem fin_pair {R : Result → Shared → Prop} {s : Shared} {fs : List Addr} {h' : Heap} {L D : Addr} {m : Str → Option Value} {tk t u : Tok} {p : Int} {n : Nat} {rest : List (Addr × Obj)}
    (h : ∀ h' tk g' v, KtsTurn fs s.heap g' → g'.StaysIn h' → IsPair p v h' → R (.ok (.ret v)) { s with heap := h', toks := tk }) (F : Fr s.heap L h' m)
    (N : News s.heap L h' ((D, { cls := .type "tuple", data := .seq #[.str (Str.ofString "h") t, .int p u] n }) :: rest)) :
    R (.ok (.ret (.ref D))) { s with heap := h', toks := tk } := h h' tk s.heap _ KtsTurn.refl F.keep ⟨D, t, u, rfl, _, N.get (.head _), rfl, _, rfl⟩

theorem no_len {l : List (Str × Tok)} {xs : List Str} (h3 : xs.length ≠ 5) (h1 : l.map (fun x => x.fst) = xs) (h2 : (l.length : Int) = 5) : False := by
  subst h1
  rw [List.length_map] at h3
  omega
theorem no_len2 {l : List (Str × Tok)} {xs : List Str} {a b c y e : Str} (hs : xs = [a, b, c, y, e]) (h1 : l.map (fun x => x.fst) = xs) (h2 : (l.length : Int) ≠ 5) : False := by
  have := congrArg List.length (h1.trans hs)
  rw [List.length_map] at this
  simp at this
  omega
theorem call_y {prog : Program} {w : World} {A : Around} {E : Value → Shared → Prop} {s : Shared} {Q : Value → Shared → Prop} {l : List (Str × Tok)} {xs : List Str} {a b c y y' e : Str} {t : Tok} {p : Int} (hs : xs = [a, b, c, y, e])
    (hp : PySem.intText? y = some p) (hy : y.length ≤ 640) (h1 : l.map (fun x => x.fst) = xs) (h2 : (l.map (fun x => x.fst))[Int.toNat 3]? = some y')
    (h : Q (.int p s.toks) { s with toks := s.toks + 1 }) : wpAny (model prog w) A (call (.type "int") [.str y' t]) Q E s := by
  rw [h1, hs] at h2
  cases h2
  exact KIN.call_text hp hy h

theorem read_s2 (w : World) {A : Around} {s : Shared} {R : Result → Shared → Prop} {base : Heap} {outer : List Env} {mean : ExcName → Option Value} {mg mb : Str → Option Value} {resp : Str} {t : Tok}
    (C : Cx w mean mg mb base) (B' : Below A base outer s.heap) (D' : KtsDicts (outer.filterMap (·.frame)) s.heap) (hh : A.handled = none) (hroom : A.depth ≤ 500) (hlen : resp.length ≤ 100)
    (hc : (Txt.slice resp none (some 3) != Str.ofString "229") = false) {r : Int} (hf : Txt.find resp (Str.ofString "(") = 4) (hg : Txt.find3 resp (Str.ofString ")") (Txt.find resp (Str.ofString "(") + 1) = r) (hr : 6 ≤ r) (hr2 : r < resp.length) (hi : (Txt.item resp (Txt.find resp (Str.ofString "(") + 1) != Txt.item resp (Txt.find3 resp (Str.ofString ")") (Txt.find resp (Str.ofString "(") + 1) - 1)) = false) (hs : (Txt.split (Txt.slice resp (some (Txt.find resp (Str.ofString "(") + 1)) (some (Txt.find3 resp (Str.ofString ")") (Txt.find resp (Str.ofString "(") + 1)))) (Txt.item resp (Txt.find resp (Str.ofString "(") + 1))).length ≠ 5)
    (h : ∀ h' tk g' v, KtsTurn (outer.filterMap (·.frame)) s.heap g' → g'.StaysIn h' → (IsText (Str.ofString "another shape")) v h' → R (.ok (.ret v)) { s with heap := h', toks := tk }) :
    codeAny (model PySem.Challenge.rw_yh0005_01.row.prog w) A (.call (.ref 162) ⟨[.str resp t], []⟩) R s := by
  have XB := C.X
  have TB := C.T
  have C₁ := C.keeps B'.stays
  have X' := C₁.X
  refine' enter C₁ (fun _ _ e => e) (Nat.le_refl _) ?k1 ?k2 (Nat.lt_of_le_of_lt hroom (by decide)) ?k3 ?k4 ?k5 ?k6 ?k7 ?k8 ?_
  (case k1 => k_is)
  (case k2 => k_is)
  (case k3 => exact BindsTo.of_eq rfl)
  (case k4 => exact locs rfl)
  (case k5 => decide)
  (case k6 => exact rfl)
  (case k7 => exact rfl)
  (case k8 => exact rfl)
  intro L h₁ hL F' hk₁
  have N' : News s.heap L h₁ [] := News.nil
  have T' := C₁.T
  (try dsimp only)
  (try k_fold)
  k_steps
  refine wpAny_call ?_
  (refine' code_defS ?k1 ?k2 ?k3 ?k4 ?k5 ?XB ?TB ?D ?T0 ?kA ?k6 ?k7 ?k8 ?k9 ?kB ?_ ?cK ?c2 ?c3 ?c4 ?c5; (case kA => exact Around.frames_deeper B'.stack); (case k2 => assumption); (case k1 => exact B'); (case XB => assumption); (case TB => assumption); (case D => assumption); (case T0 => exact KtsTurn.refl); (case k3 => assumption); (case k4 => assumption); (case k5 => assumption); (case k6 => k_is); (case k7 => k_is); (case k8 => exact Nat.lt_of_le_of_lt (Nat.succ_le_succ hroom) (by decide)); (case k9 => exact BindsTo.of_eq rfl); (case kB => exact locs rfl); (case cK => exact rfl); (case c2 => exact rfl); (case c3 => exact rfl); (case c4 => exact rfl); (case c5 => decide))
  intro g' L' h' FG' F' N' B' X' T' D'
  (try dsimp only)
  (try k_lift B')
  (try k_fold)
  k_steps
  all_goals (try dsimp only)
  all_goals first
    | exact fin_read (s := s) h (by assumption) (by first | assumption | exact KtsTurn.refl) ⟨_, rfl⟩
    | exact (no_len hs (by assumption) (by assumption)).elim

theorem read_good (w : World) {A : Around} {s : Shared} {R : Result → Shared → Prop} {base : Heap} {outer : List Env} {mean : ExcName → Option Value} {mg mb : Str → Option Value} {resp : Str} {t : Tok}
    (C : Cx w mean mg mb base) (B' : Below A base outer s.heap) (D' : KtsDicts (outer.filterMap (·.frame)) s.heap) (hh : A.handled = none) (hroom : A.depth ≤ 500) (hlen : resp.length ≤ 100)
    (hc : (Txt.slice resp none (some 3) != Str.ofString "229") = false) {r : Int} (hf : Txt.find resp (Str.ofString "(") = 4) (hg : Txt.find3 resp (Str.ofString ")") (Txt.find resp (Str.ofString "(") + 1) = r) (hr : 6 ≤ r) (hr2 : r < resp.length) (hi : (Txt.item resp (Txt.find resp (Str.ofString "(") + 1) != Txt.item resp (Txt.find3 resp (Str.ofString ")") (Txt.find resp (Str.ofString "(") + 1) - 1)) = false) {a b c y e : Str} (hs : Txt.split (Txt.slice resp (some (Txt.find resp (Str.ofString "(") + 1)) (some (Txt.find3 resp (Str.ofString ")") (Txt.find resp (Str.ofString "(") + 1)))) (Txt.item resp (Txt.find resp (Str.ofString "(") + 1)) = [a, b, c, y, e]) {p : Int} (hp : PySem.intText? y = some p) (hy : y.length ≤ 640)
    (h : ∀ h' tk g' v, KtsTurn (outer.filterMap (·.frame)) s.heap g' → g'.StaysIn h' → (IsPair p) v h' → R (.ok (.ret v)) { s with heap := h', toks := tk }) :
    codeAny (model PySem.Challenge.rw_yh0005_01.row.prog w) A (.call (.ref 162) ⟨[.str resp t], []⟩) R s := by
  have XB := C.X
  have TB := C.T
  have C₁ := C.keeps B'.stays
  have X' := C₁.X
  refine' enter C₁ (fun _ _ e => e) (Nat.le_refl _) ?k1 ?k2 (Nat.lt_of_le_of_lt hroom (by decide)) ?k3 ?k4 ?k5 ?k6 ?k7 ?k8 ?_
  (case k1 => k_is)
  (case k2 => k_is)
  (case k3 => exact BindsTo.of_eq rfl)
  (case k4 => exact locs rfl)
  (case k5 => decide)
  (case k6 => exact rfl)
  (case k7 => exact rfl)
  (case k8 => exact rfl)
  intro L h₁ hL F' hk₁
  have N' : News s.heap L h₁ [] := News.nil
  have T' := C₁.T
  (try dsimp only)
  (try k_fold)
  k_steps
  refine wpAny_call ?_
  (refine' code_defS ?k1 ?k2 ?k3 ?k4 ?k5 ?XB ?TB ?D ?T0 ?kA ?k6 ?k7 ?k8 ?k9 ?kB ?_ ?cK ?c2 ?c3 ?c4 ?c5; (case kA => exact Around.frames_deeper B'.stack); (case k2 => assumption); (case k1 => exact B'); (case XB => assumption); (case TB => assumption); (case D => assumption); (case T0 => exact KtsTurn.refl); (case k3 => assumption); (case k4 => assumption); (case k5 => assumption); (case k6 => k_is); (case k7 => k_is); (case k8 => exact Nat.lt_of_le_of_lt (Nat.succ_le_succ hroom) (by decide)); (case k9 => exact BindsTo.of_eq rfl); (case kB => exact locs rfl); (case cK => exact rfl); (case c2 => exact rfl); (case c3 => exact rfl); (case c4 => exact rfl); (case c5 => decide))
  intro g' L' h' FG' F' N' B' X' T' D'
  (try dsimp only)
  (try k_lift B')
  (try k_fold)
  k_steps
  all_goals (try dsimp only)
  · exact (no_len2 hs (by assumption) (by assumption)).elim
  refine call_y hs hp hy (by assumption) (by assumption) ?_
  k_steps
  all_goals (try dsimp only)
  exact fin_pair (s := s) h (by assumption) (by assumption)
end Mine
end

section
open PySem PySem.W PyProof.Rows PySem.Calls
set_option maxRecDepth 100000
set_option maxHeartbeats 8000000
namespace Mine
section
variable {prog : Program} {w : World} {A : Around} {s : Shared} {env : Env}

/-- a loop over anything that is walked, with any invariant of the state -/
noncomputable def LoopA (prog : Program) (w : World) (A : Around) (env : Env) (target : Expr) (body : List Stmt) (Q : Flow → Shared → Prop) (E : Value → Shared → Prop) (it : Value) (s₂ : Shared) : Prop :=
  ∃ (I : Addr) (fp wr : List Addr) (n : Nat) (P : Nat → Value → Prop) (St : Nat → Heap → Prop) (J : Nat → Shared → Prop), it = .ref I ∧ Walks prog w A I fp wr n P St ∧ St 0 s₂.heap ∧ J 0 s₂ ∧
    (∀ i s h' tk, St i s.heap → J i s → (∀ b o, b ∉ wr → s.heap.get? b = some o → h'.get? b = some o) → J i { s with heap := h', toks := tk }) ∧
    (∀ i v s' (Q' : Unit → Shared → Prop), St i s'.heap → Q' () s' → wpAny (model prog w) A (letOwnedTupleGo target (.ref I) v) Q' E s') ∧
    (∀ i s v, i < n → P i v → J i s → St (i + 1) s.heap → wpAny (model prog w) A (assign target env v) (fun _ s₂ => wpAny (model prog w) A (execs body env) (fun f s₃ => match f with
        | .next | .cont => J (i + 1) s₃ ∧ St (i + 1) s₃.heap
        | .brk => False
        | .ret v => Q (.ret v) s₃) E s₂) E s) ∧
    (∀ s, J n s → Q .next s)

theorem for_any {target iter : Expr} {body : List Stmt} {pos : Pos} {Q : Flow → Shared → Prop} {E : Value → Shared → Prop}
    (h : wpAny (model prog w) A (eval iter env) (fun xv s₁ => wpAny (model prog w) A (pyIter xv) (fun it s₂ => LoopA prog w A env target body Q E it s₂) E s₁) E s)
    (hs : ∀ x, foldedSetIterable iter env x = pure x := by intro _; rfl)
    (hE : PassesOwn (model prog w) A env E := by passes_own) :
    wpAny (model prog w) A (exec (.For target iter body [] pos) env) Q E s := by
  refine wpAny_For (wpAny_mono h (fun xv s₁ h₁ => wpAny_mono h₁ (fun it s₂ h₂ => ?_) fun _ _ e => e) fun _ _ e => e) hs
  obtain ⟨I, fp, wr, n, P, St, J, rfl, W, hst, hJ, stable, hgo, turn, done⟩ := h₂
  refine codeAny_forLoop_any (R := fun r s' => match r with | .ok f => Q f s' | .error e => cameBackBy (model prog w) A env E e s')
    (fun k s' => ∃ i, i ≤ n ∧ k = n + 1 - i ∧ St i s'.heap ∧ J i s') ?_ (n + 1) ⟨0, Nat.zero_le _, rfl, hst, hJ⟩
  rintro k s' ⟨i, hi, rfl, st, j⟩
  by_cases hlt : i < n
  · refine W.item i s' _ _ hlt st fun v h₁ tk₁ hP st₁ hk₁ => ?_
    have j₁ := stable i s' h₁ tk₁ st j hk₁
    refine wpAny_passesOwn hE (hgo (i + 1) v _ _ st₁ ?_)
    refine wpAny_mono (wpAny_passesOwn hE (turn i _ v hlt hP j₁ st₁)) (fun _ s₂ h₂ => wpAny_mono (wpAny_passesOwn hE h₂) (fun f s₃ h₃ => ?_) fun _ _ e => e) fun _ _ e => e
    cases f with
    | ret v => exact h₃
    | brk => exact h₃.elim
    | cont => exact ⟨n + 1 - (i + 1), by omega, i + 1, hlt, rfl, h₃.2, h₃.1⟩
    | next => exact ⟨n + 1 - (i + 1), by omega, i + 1, hlt, rfl, h₃.2, h₃.1⟩
  · have hin : i = n := by omega
    subst hin
    refine W.done s' _ _ st fun h₁ tk₁ hk₁ => wpAny_execs_nil ?_
    exact done _ (stable _ s' h₁ tk₁ st j hk₁)

/-- for x in range(..): -/
theorem range_loop {x : Str} {px : Pos} {body : List Stmt} {Q : Flow → Shared → Prop} {E : Value → Shared → Prop} {r : Addr} {n : Nat} {a b c : Int} {t u v : Tok} (J : Nat → Shared → Prop) (hsz : Builtin.Range.rangeSize a b c = n) (hsmall : Builtin.Range.small a b c = true)
    (hh : A.handled = none) (hr : IsRange s.heap r a b c t u v) (hJ : ∀ h' tk, s.heap.StaysIn h' → J 0 { s with heap := h', toks := tk })
    (stable : ∀ i s' h' tk, IsRangeIter s'.heap s.heap.objs.size (a + (i : Nat) * c) ((n : Int) - (i : Nat)) c → J i s' → (∀ b o, b ≠ s.heap.objs.size → s'.heap.get? b = some o → h'.get? b = some o) → J i { s' with heap := h', toks := tk })
    (turn : ∀ i s' t, i < n → J i s' → IsRangeIter s'.heap s.heap.objs.size (a + ((i + 1 : Nat) : Int) * c) ((n : Int) - ((i + 1 : Nat) : Int)) c →
      wpAny (model prog w) A (assign (.Name x px) env (.int (a + (i : Int) * c) t)) (fun _ s₂ => wpAny (model prog w) A (execs body env) (fun f s₃ => match f with
        | .next | .cont => J (i + 1) s₃ ∧ IsRangeIter s₃.heap s.heap.objs.size (a + ((i + 1 : Nat) : Int) * c) ((n : Int) - ((i + 1 : Nat) : Int)) c
        | .brk => False
        | .ret v => Q (.ret v) s₃) E s₂) E s')
    (done : ∀ s', J n s' → Q .next s') :
    wpAny (model prog w) A (pyIter (.ref r)) (fun it s₂ => LoopA prog w A env (.Name x px) body Q E it s₂) E s := by
  refine wpAny_pyIter_range hr hsmall ?_
  rw [hsz]
  have k1 : s.heap.StaysIn (s.heap.push { cls := .type "range_iterator", data := .fields #[rawInt a, rawInt n, rawInt c] }) := fun b o e => Heap.get?_push_of_some _ e
  have h0 : IsRangeIter (s.heap.push { cls := .type "range_iterator", data := .fields #[rawInt a, rawInt n, rawInt c] }) s.heap.objs.size (a + ((0 : Nat) : Int) * c) ((n : Int) - ((0 : Nat) : Int)) c := by
    simpa using Heap.get?_push_size (h := s.heap) (o := { cls := .type "range_iterator", data := .fields #[rawInt a, rawInt n, rawInt c] }) rfl
  refine ⟨_, _, _, n, _, _, J, rfl, Walks.range hh s.heap.objs.size a c n, h0, hJ _ _ k1, ?_, ?_, ?_, done⟩
  · intro i s' h' tk st j hk
    exact stable i s' h' tk st j fun b o hb e => hk b o (by simpa using hb) e
  · intro i v s' Q' _ hq
    exact wpAny_of_eq (a := ()) rfl hq
  · rintro i s' v hi ⟨t, rfl⟩ j st
    exact turn i s' t hi j st

theorem up_size (n : Nat) : Builtin.Range.rangeSize 0 (n : Int) 1 = n := by
  unfold Builtin.Range.rangeSize
  rw [if_pos (by decide)]
  split
  · rw [Int.ediv_one]; omega
  · omega
theorem fits {i : Int} (h : -2000 ≤ i) (h' : i ≤ 2000) : Builtin.Range.rangeFitsLong i = true := by
  unfold Builtin.Range.rangeFitsLong
  rw [Bool.and_eq_true]
  exact ⟨decide_eq_true (by omega), decide_eq_true (by omega)⟩
theorem up_small {n : Nat} (h : n ≤ 1000) : Builtin.Range.small 0 (n : Int) 1 = true := by
  unfold Builtin.Range.small
  rw [up_size, fits (i := 0) (by decide) (by decide), fits (i := (n : Int)) (by omega) (by omega), fits (i := 1) (by decide) (by decide), if_pos (by decide), fits (i := (n : Int) + (1 - 1)) (by omega) (by omega)]
  simp
theorem down_size (n : Nat) : Builtin.Range.rangeSize ((n : Int) - 1) (-1) (-1) = n := by
  unfold Builtin.Range.rangeSize
  rw [if_neg (by decide)]
  split
  · rw [show (-(-1) : Int) = 1 from rfl, Int.ediv_one]; omega
  · omega
theorem down_small {n : Nat} (h : n ≤ 1000) : Builtin.Range.small ((n : Int) - 1) (-1) (-1) = true := by
  unfold Builtin.Range.small
  rw [down_size, fits (i := (n : Int) - 1) (by omega) (by omega), fits (i := -1) (by decide) (by decide), fits (i := (n : Int)) (by omega) (by omega), if_neg (by decide), fits (i := -1 + (-1 + 1)) (by decide) (by decide)]
  simp
end
end Mine
end

section
open PySem PySem.W PyProof.Rows PySem.Calls
open PySem.Sem (wp)
set_option maxRecDepth 100000
set_option maxHeartbeats 4000000
namespace Mine
section
variable {M : Model} {A : Around} {E : Value → Shared → Prop} {s : Shared} {env : Env}

theorem wpC_execs_cons {st : Stmt} {rest : List Stmt} {Q : Flow → Shared → Prop}
    (h : wpC M A (exec st env) (fun f s' => match f with | .next => wpC M A (execs rest env) Q E s' | f => Q f s') E s) :
    wpC M A (execs (st :: rest) env) Q E s := fun Γ p hΓ hC => by
  rw [execs_cons, Sem.wp_bind']
  refine Sem.wp_mono M Γ _ (fun f p' s' h' => ?_) (fun _ _ _ h' => h') _ _ (h Γ p hΓ hC)
  cases f <;> first | exact h' Γ p' hΓ hC | exact h'

theorem wpC_If {test : Expr} {body orelse : List Stmt} {pos : Pos} {Q : Flow → Shared → Prop}
    (h : wpC M A (isTrue test env (eval test env)) (fun b s₂ => if b then wpC M A (execs body env) Q E s₂ else wpC M A (execs orelse env) Q E s₂) E s) :
    wpC M A (exec (.If test body orelse pos) env) Q E s := fun Γ p hΓ hC => by
  simp only [exec_If, Sem.wp_bind', Sem.wp_cmd_standAt]
  refine Sem.wp_mono M Γ _ (fun b p₂ s₂ h₂ => ?_) (fun _ _ _ h' => h') _ _ (h Γ _ hΓ hC)
  cases b <;> exact h₂ Γ p₂ hΓ hC

theorem wpC_isTrue_Not {x : Expr} {pos : Pos} {whole : Sem Value} {Q : Bool → Shared → Prop} (h : wpC M A (isTrue x env (eval x env)) (fun b s₁ => Q (!b) s₁) E s) :
    wpC M A (isTrue (.UnaryOp .Not x pos) env whole) Q E s := by
  rw [arm_isTrue_UnaryOp]
  exact wpC_bind (wpC_mono h (fun b s₁ h₁ => wpC_of_any (wpAny_pure h₁)) fun _ _ x => x)

theorem wpC_isTrue_value {e : Expr} {whole : Sem Value} {Q : Bool → Shared → Prop} (h : wpC M A whole (fun v s₁ => wpAny M A (truthy v) Q E s₁) E s)
    (he : isTrue e env whole = (do let v ← whole; standAt e.pos; holding [v] (truthy v)) := by rfl) : wpC M A (isTrue e env whole) Q E s := by
  rw [he]
  exact wpC_bind (wpC_mono h (fun v s₁ h₁ => wpC_of_any (wpAny_bind (wpAny_standAt (wpAny_holding h₁)))) fun _ _ x => x)

theorem wpC_isTrue_Compare1 {l : Expr} {op : CmpOp} {r : Expr} {pos : Pos} {whole : Sem Value} {Q : Bool → Shared → Prop}
    (h : wpC M A (eval l env) (fun a s₁ => wpAny M A (eval r env) (fun b s₂ => wpAny M A (compareOp op a b)
      (fun c s₃ => wpAny M A (truthy c) Q E s₃) E s₂) E s₁) E s)
    (hm : behindInMarks op r = false := by with_unfolding_all rfl) : wpC M A (isTrue (.Compare l [op] [r] pos) env whole) Q E s := fun Γ p hΓ hC => by
  simp only [isTrue_Compare1, markedBehindIn_of_false hm, Sem.wp_bind', Sem.wp_holding, Sem.wp_cmd_standAt, Sem.wp_operate]
  exact Sem.wp_mono M Γ _ (fun a p₁ s₁ h₁ => Sem.wp_mono M Γ _ (fun b _ s₂ h₂ => Sem.wp_mono M Γ _ (fun c p₃ s₃ h₃ => h₃ Γ p₃ hΓ)
    (fun _ _ _ h' => h') _ _ (h₂ Γ _ hΓ)) (fun _ _ _ h' => h') _ _ (h₁ Γ p₁ hΓ)) (fun _ _ _ h' => h') _ _ (h Γ p hΓ hC)

theorem wpC_Assign_Name {x : Str} {pos' : Pos} {value : Expr} {pos : Pos} {Q : Flow → Shared → Prop}
    (h : wpC M A (eval value env) (fun v s₁ => wpAny M A (storeName env x v) (fun _ => Q .next) E s₁) E s)
    (hs : swapsWith value (some (.Name x pos')) pos.line env = pure false := by rfl) :
    wpC M A (exec (.Assign [.Name x pos'] value pos) env) Q E s := fun Γ p hΓ hC => by
  simp only [exec_Assign_Name env x pos' value pos hs, Sem.wp_bind', Sem.wp_cmd_standAt, Sem.wp_bindName, Sem.wp_pure']
  exact Sem.wp_mono M Γ _ (fun v _ s₁ h₁ => h₁ Γ _ hΓ) (fun _ _ _ h' => h') _ _ (h Γ _ hΓ hC)

theorem wpC_Call {func : Expr} {args : List Expr} {pos : Pos} {Q : Value → Shared → Prop}
    (h : wpAny M A (eval func env) (fun f s₁ => wpC M A (callWith pos f [] (backTo pos (starEach args env)) []) Q E s₁) E s)
    (he : eval (.Call func args [] pos) env = (do callWith pos (← eval func env) [] (backTo pos (starEach args env)) (backToKw pos (keywordEach [] env))) := by rfl) :
    wpC M A (eval (.Call func args [] pos) env) Q E s := by
  rw [he]; exact wpC_bind (wpC_of_any h)

theorem wpC_callWith {P : Heap → Prop} {f : Value} {first : List Value} {pos : Pos} {args : List (Bool × Sem Value)} {keywords : List (Option Str × Sem Value)} {Q : Value → Shared → Prop} (hplain : (args.any (·.1) || keywords.any (·.1.isNone)) = false)
    (hk : ∀ h, P h → ∃ k, (k = Keeper.frame ∨ k = Keeper.machine ∨ k = Keeper.boundFrame) ∧ Looks M h (keeperOf f) k)
    (h : wpAny M A (evalArgs f true args keywords) (fun a s₁ => P s₁.heap ∧ wpC M A (call f (first ++ a.pos) a.kw) Q E s₁) E s) : wpC M A (callWith pos f first args keywords) Q E s := by
  unfold callWith
  refine wpC_bind (wpC_of_any (wpAny_holding (wpAny_mono h (fun a s₁ h₁ => ?_) fun _ _ x => x)))
  refine wpC_bind (wpC_of_any (wpAny_standAt ?_))
  obtain ⟨k, hk', L⟩ := hk _ h₁.1
  simp only [hplain]
  refine wpC_bind (wpC_of_any (L.here ?_))
  have tail : ∀ {t : Sem Value}, wpC M A t Q E s₁ → wpC M A (t >>= fun r => holding [r] point >>= fun _ => pure r) Q E s₁ :=
    fun ht => wpC_bind (wpC_mono ht (fun r s₂ hr => wpC_of_any (wpAny_bind (wpAny_holding (wpAny_point (wpAny_pure hr))))) fun _ _ x => x)
  have marked (mk : Value) : wpC M A (callMarked mk f (first ++ a.pos) a.kw) Q E s₁ := by unfold callMarked; exact wpC_keep h₁.2
  rcases hk' with rfl | rfl | rfl <;> dsimp only <;> first | exact tail h₁.2 | (split <;> first | exact tail h₁.2 | exact tail (marked _))

theorem wpC_callWith_K {K : Frag} {h₀ : Heap} {f : Value} {first : List Value} {pos : Pos} {e : Expr} {rest : List Expr} {Q : Value → Shared → Prop} (_X : K.In h₀) (hk : keepIn K f = true) (h : wpAny M A (spliced (backTo pos (starEach (e :: rest) env))) (fun vs s₁ => K.In s₁.heap ∧ wpC M A (call f (first ++ vs)) Q E s₁) E s)
    (he : starEach (e :: rest) env = (false, eval e env) :: starEach rest env := by rfl) (hplain : (backTo pos (starEach rest env)).any (·.1) = false := by rfl) :
    wpC M A (callWith pos f first (backTo pos (starEach (e :: rest) env)) []) Q E s := by
  rw [he] at h ⊢
  exact wpC_callWith (by show ((false || (backTo pos (starEach rest env)).any (·.1)) || false) = false; rw [hplain]; rfl) (keeps_K hk) (evalArgs_plain h)

theorem wpC_callWith_type {T : String} {first : List Value} {pos : Pos} {e : Expr} {rest : List Expr} {Q : Value → Shared → Prop} (h : wpAny M A (spliced (backTo pos (starEach (e :: rest) env))) (fun vs s₁ => True ∧ wpC M A (call (.type T) (first ++ vs)) Q E s₁) E s)
    (he : starEach (e :: rest) env = (false, eval e env) :: starEach rest env := by rfl) (hplain : (backTo pos (starEach rest env)).any (·.1) = false := by rfl) :
    wpC M A (callWith pos (.type T) first (backTo pos (starEach (e :: rest) env)) []) Q E s := by
  rw [he] at h ⊢
  exact wpC_callWith (P := fun _ => True) (by show ((false || (backTo pos (starEach rest env)).any (·.1)) || false) = false; rw [hplain]; rfl) (fun _ _ => ⟨.machine, .inr (.inl rfl), Looks.of_pure rfl⟩) (evalArgs_plain h)

theorem wpC_runOwn {c : Code} {h : Option Value} {Q : Flow → Shared → Prop}
    (hc : codeC M (A.mark h) c (fun r s' => match r with | .ok f => Q f s' | .error e => cameBackBy M A env E e s') s) (hnb : h ≠ some byPass := by intro x; cases x) :
    wpC M A (runOwn c env h) Q E s := by
  unfold runOwn
  exact wpC_onRaise (wpC_run hc hnb)

theorem wpC_For {target iter : Expr} {body orelse : List Stmt} {pos : Pos} {Q : Flow → Shared → Prop}
    (h : wpAny M A (eval iter env) (fun x s₁ => wpAny M A (pyIter x) (fun it s₂ =>
      codeC M A (.forLoop target it body orelse env) (fun r s' => match r with | .ok f => Q f s' | .error e => cameBackBy M A env E e s') s₂) E s₁) E s)
    (hs : ∀ x, foldedSetIterable iter env x = pure x := by intro _; rfl) :
    wpC M A (exec (.For target iter body orelse pos) env) Q E s := by
  rw [exec_For]
  refine wpC_bind (wpC_of_any (wpAny_standAt ?_))
  refine wpC_bind (wpC_of_any (wpAny_mono h (fun x s₁ h₁ => ?_) fun _ _ h' => h'))
  refine wpC_bind (wpC_of_eq (hs x) ?_)
  refine wpC_bind (wpC_of_any (wpAny_standAt ?_))
  refine wpC_bind (wpC_of_any (wpAny_holding (wpAny_mono h₁ (fun it s₂ h₂ => ?_) fun _ _ h' => h')))
  exact wpC_runOwn h₂

theorem wpC_noted {α : Type} {m : Sem α} {Q : α → Shared → Prop} (h : wpC M A m Q (notedBy M A env E) s) : wpC M A (m.onRaise fun x => do noteFrame x env; theTreesLotGoes x) Q E s :=
  wpC_onRaise (wpC_mono h (fun _ _ q => q) fun _ _ hx => wpAny_bind (wpAny_mono hx (fun _ _ e => wpAny_theTreesLotGoes e) fun _ _ e => e))

theorem wpC_tryStmt_except {body orelse : Sem Flow} {h₀ : ExceptHandler} {hs : List ExceptHandler} {Q : Flow → Shared → Prop}
    (h : wpC M A body (fun f s₁ => match f with | .next => wpAny M A orelse Q E s₁ | f => Q f s₁)
      (fun e s₁ => wpAny M A (noteFrame e env) (fun _ s₂ => wpAny M A (setFlight e none) (fun _ s₃ => wpAny M A (handleBy e env (h₀ :: hs)) Q E s₃) E s₂) E s₁) s) :
    wpC M A (tryStmt false body (h₀ :: hs) orelse [] env) Q E s := by
  unfold tryStmt
  simp only [List.isEmpty_nil, if_true, List.isEmpty_cons, Bool.false_and, Bool.false_eq_true, if_false]
  refine wpC_bind (wpC_attempt (wpC_mono h (fun f s₁ h₁ => wpC_of_any ?_) fun e s₁ h₁ => wpC_of_any ?_))
  · cases f <;> first | exact h₁ | exact wpAny_pure h₁
  · exact wpAny_bind (wpAny_mono h₁ (fun _ _ h₂ => wpAny_bind h₂) fun _ _ x => x)
end

section
variable {prog : Program} {w : World} {A : Around} {E : Value → Shared → Prop} {s : Shared} {env : Env} {R : Result → Shared → Prop}

theorem wpC_Try_except {body orelse : List Stmt} {h₀ : ExceptHandler} {hs : List ExceptHandler} {pos : Pos} {Q : Flow → Shared → Prop}
    (h : wpC (model prog w) A (execs body env) (fun f s₁ => match f with | .next => wpAny (model prog w) A (execs orelse env) Q E s₁ | f => Q f s₁)
      (fun e s₁ => wpAny (model prog w) A (noteFrame e env) (fun _ s₂ => wpAny (model prog w) A (setFlight e none) (fun _ s₃ => wpAny (model prog w) A (handleBy e env (h₀ :: hs)) Q E s₃) E s₂) E s₁) s) :
    wpC (model prog w) A (exec (.Try body (h₀ :: hs) orelse [] pos) env) Q E s := by
  rw [arm_exec_Try]
  exact wpC_bind (wpC_of_any (wpAny_standAt (wpC_tryStmt_except h)))

theorem codeC_func {body : List Stmt}
    (h : wpC (model prog w) (A.deeper env) (execs body env) (fun f s' => R (.ok (.ret (match f with | .ret v => v | _ => .none))) s')
      (fun e s' => wpAny (model prog w) (A.deeper env) (leaving env e) (fun _ s'' => R (.error e) s'') (fun e' s'' => R (.error e') s'') s') s) :
    codeC (model prog w) A (.func body env) R s := by
  refine codeC_of_tree ?_
  show wpC _ (A.deeper env) (do point; match ← (execs body env).onRaise (leaving env) with | .ret v => ret v | _ => ret .none) _ _ s
  refine wpC_bind (wpC_of_any (wpAny_point (wpC_bind (wpC_onRaise (wpC_mono h (fun f s' h' => wpC_of_any ?_) fun _ _ h' => h')))))
  cases f <;> exact wpAny_pure h'

theorem codeC_call_function {a : Addr} {args : Args} {o : Obj} {fd : FuncData} {body : List Stmt} (hroom : A.depth < recursionLimit)
    (ho : s.heap.get? a = some o)
    (hd' : o.data = .func fd) (hco : fd.scope.isCoroutine = false) (hgen : fd.scope.isGenerator = false) (hbody : fd.body = .stmts body) (hcd : s.heap.CodeRec fd.code fd.qualname)
    (h : wpAny (model prog w) A.in1 (bindArgs fd args) (fun binds s₁ =>
      wpAny (model prog w) A.in1 (newFunctionEnv fd.scope fd.globals fd.closure binds (fd.qualname ++ ".<locals>.") (some a) fd.code none fd.builtins)
        (fun env s₂ => s₂.heap.NoLimit ∧ codeC (model prog w) A (.func body env) R s₂) (fun e s' => R (.error e) s') s₁) (fun e s' => R (.error e) s') s) :
    codeC (model prog w) A (.call (.ref a) args) R s := by
  refine codeC_of_tree ?_
  show wpC _ A.in1 (callAny (.ref a) args) _ _ s
  simp only [callAny]
  refine wpC_bind (wpC_of_any (wpAny_load ho ?_))
  obtain ⟨c, oc, vs, tq, hc, hoc, hdc, hq⟩ := hcd
  simp only [hd', callFunction, hco, hgen, hbody, hc]
  rw [hc] at h
  refine wpC_of_any (wpAny_bind (m := field (.ref c) 1) (wpAny_field hoc hdc hq (wpAny_bind (wpAny_pure ?_))))
  exact wpAny_bind (wpAny_mono h (fun binds s₁ h₁ => wpAny_bind (wpAny_mono h₁ (fun env s₂ h₂ => wpAny_bind (wpAny_enterFrame h₂.1 hroom
    (wpAny_pure (And.intro rfl h₂.2)))) fun _ _ h' => h')) fun _ _ h' => h')

theorem codeC_call_def {a : Addr} {o : Obj} {fd : FuncData} {body : List Stmt} {args : Args} {binds : List (Str × Value)}
    (hroom : A.depth < recursionLimit) (ho : s.heap.get? a = some o) (hdata : o.data = .func fd) (hlim : s.heap.NoLimit) (hcd : s.heap.CodeRec fd.code fd.qualname)
    (hbody : fd.body = .stmts body) (hbind : BindsTo s fd args binds)
    (hcell : ∀ x ∈ fd.scope.names, x.2 ≠ .cell) (hloc : ∀ x ∈ binds, fd.scope.names.lookup x.1 = some .local)
    (h : ∀ h₀, h₀.Ns s.heap.objs.size (fun x => binds.reverse.lookup x) → (∀ b o, s.heap.get? b = some o → h₀.get? b = some o) →
      wpC (model prog w) (A.deeper (callEnv fd s.heap.objs.size a)) (execs body (callEnv fd s.heap.objs.size a)) (fun f s' => R (.ok (.ret (match f with | .ret v => v | _ => .none))) s')
        (fun e s' => wpAny (model prog w) (A.deeper (callEnv fd s.heap.objs.size a)) (leaving (callEnv fd s.heap.objs.size a) e) (fun _ s'' => R (.error e) s'') (fun e' s'' => R (.error e') s'') s')
        { s with heap := h₀, toks := s.toks + binds.length })
    (hco : fd.scope.isCoroutine = false := by rfl) (hgen : fd.scope.isGenerator = false := by rfl) (hk : fd.scope.kind = .function := by rfl) :
    codeC (model prog w) A (.call (.ref a) args) R s := by
  refine codeC_call_function hroom ho hdata hco hgen hbody hcd (hbind _ _ _ _ ?_)
  refine wpAny_newFunctionEnv hcell hloc (fun h₀ hns₀ hsb₀ => ⟨hlim.fresh _ hsb₀, codeC_func (h h₀ hns₀ fun b o e => ?_)⟩) hk
  exact hsb₀.extBut b o (Nat.ne_of_lt (Heap.lt_size e)) (Heap.get?_push_of_some _ e)

theorem codeC_forLoop_any {target : Expr} {it : Value} {body orelse : List Stmt} (I : Nat → Shared → Prop)
    (turn : ∀ n s, I n s → wpAny (model prog w) A (pyNext it) (fun r s₁ => match r with
      | none => wpAny (model prog w) A (execs orelse env) (fun f s₃ => R (.ok f) s₃) (notedBy (model prog w) A env fun e s' => R (.error e) s') s₁
      | some v => wpAny (model prog w) A (letOwnedTupleGo target it v) (fun _ s₁' =>
          wpAny (model prog w) A (assign target env v) (fun _ s₂ => wpC (model prog w) A (execs body env) (fun f s₃ => match f with
            | .next | .cont => ∃ m, m < n ∧ I m s₃
            | .brk => R (.ok .next) s₃
            | .ret v => R (.ok (.ret v)) s₃) (notedBy (model prog w) A env fun e s' => R (.error e) s') s₂) (notedBy (model prog w) A env fun e s' => R (.error e) s') s₁') (notedBy (model prog w) A env fun e s' => R (.error e) s') s₁) (notedBy (model prog w) A env fun e s' => R (.error e) s') s)
    (n : Nat) (h : I n s) : codeC (model prog w) A (.forLoop target it body orelse env) R s := by
  refine codeC_loop' rfl I (fun n s hI => ?_) n h
  show wpC _ A ((forTurn target it body orelse env).onRaise (fun x => do noteFrame x env; theTreesLotGoes x)) _ _ s
  refine wpC_noted ?_
  simp only [forTurn]
  refine wpC_bind (wpC_of_any (wpAny_standAt ?_))
  refine wpC_bind (wpC_of_any (wpAny_onRaise (wpAny_mono (turn n s hI) (fun r s₁ h₁ => ?_) fun _ _ h' => wpAny_standAt h')))
  cases r with
  | none => exact wpC_of_any (wpAny_pure (.inr ⟨rfl, codeC_of_any (codeAny_block h₁)⟩))
  | some v =>
    refine wpC_bind (wpC_of_any (wpAny_mono h₁ (fun _ s₁' h₁' => ?_) fun _ _ h' => h'))
    refine wpC_bind (wpC_of_any (wpAny_mono h₁' (fun _ s₂ h₂ => wpC_bind (wpC_mono h₂ (fun f s₃ h₃ => ?_) fun _ _ h' => h')) fun _ _ h' => h'))
    cases f with
    | next => exact wpC_of_any (wpAny_pure (.inl ⟨rfl, h₃⟩))
    | cont => exact wpC_of_any (wpAny_pure (.inl ⟨rfl, h₃⟩))
    | brk => exact wpC_of_any (wpAny_pure h₃)
    | ret v => exact wpC_of_any (wpAny_pure h₃)

theorem wpC_passesOwn {α : Type} {M : Model} {t : Sem α} {Q : α → Shared → Prop}
    (hE : PassesOwn M A env E) (h : wpC M A t Q E s) : wpC M A t Q (notedBy M A env (cameBackBy M A env E)) s :=
  wpC_mono h (fun _ _ x => x) hE

/-- a loop over anything that is walked, under the claim's caller -/
noncomputable def LoopC (prog : Program) (w : World) (A : Around) (env : Env) (target : Expr) (body : List Stmt) (Q : Flow → Shared → Prop) (E : Value → Shared → Prop) (it : Value) (s₂ : Shared) : Prop :=
  ∃ (I : Addr) (fp wr : List Addr) (n : Nat) (P : Nat → Value → Prop) (St : Nat → Heap → Prop) (J : Nat → Shared → Prop), it = .ref I ∧ Walks prog w A I fp wr n P St ∧ St 0 s₂.heap ∧ J 0 s₂ ∧
    (∀ i s h' tk, St i s.heap → J i s → (∀ b o, b ∉ wr → s.heap.get? b = some o → h'.get? b = some o) → J i { s with heap := h', toks := tk }) ∧
    (∀ i v s' (Q' : Unit → Shared → Prop), St i s'.heap → Q' () s' → wpAny (model prog w) A (letOwnedTupleGo target (.ref I) v) Q' E s') ∧
    (∀ i s v, i < n → P i v → J i s → St (i + 1) s.heap → wpAny (model prog w) A (assign target env v) (fun _ s₂ => wpC (model prog w) A (execs body env) (fun f s₃ => match f with
        | .next | .cont => J (i + 1) s₃ ∧ St (i + 1) s₃.heap
        | .brk => False
        | .ret v => Q (.ret v) s₃) E s₂) E s) ∧
    (∀ s, J n s → Q .next s)

theorem for_C {target iter : Expr} {body : List Stmt} {pos : Pos} {Q : Flow → Shared → Prop} {E : Value → Shared → Prop}
    (h : wpAny (model prog w) A (eval iter env) (fun xv s₁ => wpAny (model prog w) A (pyIter xv) (fun it s₂ => LoopC prog w A env target body Q E it s₂) E s₁) E s)
    (hs : ∀ x, foldedSetIterable iter env x = pure x := by intro _; rfl)
    (hE : PassesOwn (model prog w) A env E := by passes_own) :
    wpC (model prog w) A (exec (.For target iter body [] pos) env) Q E s := by
  refine wpC_For (wpAny_mono h (fun xv s₁ h₁ => wpAny_mono h₁ (fun it s₂ h₂ => ?_) fun _ _ e => e) fun _ _ e => e) hs
  obtain ⟨I, fp, wr, n, P, St, J, rfl, W, hst, hJ, stable, hgo, turn, done⟩ := h₂
  refine codeC_forLoop_any (R := fun r s' => match r with | .ok f => Q f s' | .error e => cameBackBy (model prog w) A env E e s')
    (fun k s' => ∃ i, i ≤ n ∧ k = n + 1 - i ∧ St i s'.heap ∧ J i s') ?_ (n + 1) ⟨0, Nat.zero_le _, rfl, hst, hJ⟩
  rintro k s' ⟨i, hi, rfl, st, j⟩
  by_cases hlt : i < n
  · refine W.item i s' _ _ hlt st fun v h₁ tk₁ hP st₁ hk₁ => ?_
    have j₁ := stable i s' h₁ tk₁ st j hk₁
    refine wpAny_passesOwn hE (hgo (i + 1) v _ _ st₁ ?_)
    refine wpAny_mono (wpAny_passesOwn hE (turn i _ v hlt hP j₁ st₁)) (fun _ s₂ h₂ => wpC_mono (wpC_passesOwn hE h₂) (fun f s₃ h₃ => ?_) fun _ _ e => e) fun _ _ e => e
    cases f with
    | ret v => exact h₃
    | brk => exact h₃.elim
    | cont => exact ⟨n + 1 - (i + 1), by omega, i + 1, hlt, rfl, h₃.2, h₃.1⟩
    | next => exact ⟨n + 1 - (i + 1), by omega, i + 1, hlt, rfl, h₃.2, h₃.1⟩
  · have hin : i = n := by omega
    subst hin
    refine W.done s' _ _ st fun h₁ tk₁ hk₁ => wpAny_execs_nil ?_
    exact done _ (stable _ s' h₁ tk₁ st j hk₁)
end
end Mine
end

section
open PySem PySem.W PyProof.Rows PySem.Calls PySem.NumText
open PySem.Sem (wp)
set_option maxRecDepth 100000
set_option maxHeartbeats 4000000
namespace Mine
section
variable {prog : Program} {w : World} {A : Around} {E : Value → Shared → Prop} {s : Shared}

theorem text_fails {x : PySem.Str} {v : Value} {text : List Nat} {t : Tok} {Q : Value → Shared → Prop} (hv : v = .str x t) (hh : A.handled = none)
    (hs : (text.takeWhile (· != 0)).length ≤ 640) (hr : (int_private% "readNumeral") 0 10 (text.takeWhile (· != 0)) = (int_private% "Numeral.invalid"))
    (hx : (reprText x).length ≤ 300)
    (h : ∀ h' tk e vs, Heap.MadeExc s.heap h' e "ValueError" vs → E (.ref e) { s with heap := h', toks := tk }) :
    wpC (model prog w) A ((int_private% "intFromText") v text 10) Q E s := by
  subst hv
  obtain ⟨hp, g, d, tk, os⟩ := s
  refine wpC_ite_true hs ?_
  refine wpC_bind (wpC_of_any (wpAny_pure ?_))
  dsimp only
  rw [hr]
  dsimp only
  refine wpC_bind (wpC_of_eq (a := none) rfl ?_)
  refine wpC_ite_false (by simp) ?_
  refine wpC_bind (wpC_of_any (wpAny_rule ?_))
  refine wpC_bind (wpC_of_eq (a := none) rfl ?_)
  dsimp only
  refine wpC_bind (wpC_of_any (wpAny_pyRepr_str ?_ (by rw [sizeLine_eq]; omega)))
  have hm : (((Str.ofString (toString "invalid literal for int() with base " ++ toString 10 ++ toString ": ") : Str) ++ (⟨(reprText x).cps.extract 0 200⟩ : Str)) : Str).length ≤ sizeLine := by
    rw [sizeLine_eq]
    show ((Str.ofString (toString "invalid literal for int() with base " ++ toString 10 ++ toString ": ")).cps ++ (reprText x).cps.extract 0 200).size ≤ _
    rw [Array.size_append, Array.size_extract]
    have : (Str.ofString (toString "invalid literal for int() with base " ++ toString 10 ++ toString ": ")).cps.size ≤ 60 := by decide +kernel
    omega
  refine wpC_bind (wpC_of_any (wpAny_mkStr ?_ hm))
  refine wpC_bind (wpC_of_any (wpAny_newExc_plain plainExc_ValueError (fun h' e hx => ?_)))
  refine wpC_bind (wpC_mark ?_)
  exact wpC_of_any (wpAny_raiseNew_none hh (h _ _ _ _ hx))

theorem typecall_int {x : Value} {Q : Fin → Shared → Prop} (h : wpC (model prog w) A (call (.builtin "int.__new__") [.type "int", x]) (fun _ _ => False) E s) : wpC (model prog w) A (Builtin.«type.__call__» ⟨[.type "int", x], []⟩) Q E s := by
  unfold Builtin.«type.__call__»
  dsimp only
  obtain ⟨c, tl, hmro⟩ := F.called_int.mro
  rw [if_neg (by decide), F.called_int.canCreate]
  rw [if_neg (by decide)]
  refine wpC_bind (wpC_of_eq (F.typeCall_int_1 x) ?_)
  refine wpC_bind (wpC_of_eq hmro ?_)
  rw [if_neg (by intro h; cases h)]
  refine wpC_bind (wpC_of_eq F.called_int.made ?_)
  dsimp only
  refine wpC_bind (wpC_of_any (wpAny_pure ?_))
  exact wpC_bind (wpC_holding (wpC_mono h (fun _ _ x => x.elim) fun _ _ x => x))

theorem intnew_fails {x : PySem.Str} {u : Tok} {Q : Fin → Shared → Prop} (h : wpC (model prog w) A ((int_private% "intFromText") (.str x u) (numTextOf x) 10) (fun _ _ => False) E s) : wpC (model prog w) A (Builtin.«int.__new__» ⟨[.type "int", .str x u], []⟩) Q E s := by
  obtain ⟨hp, g, d, tk, os⟩ := s
  have f1 := F.conv_sub_int
  have f2 := F.madeHere_int
  have f3 := KIN.str_int
  have f4 := KIN.str_idx
  have f5 := KIN.str_trunc
  have f6 : typeOf (.str x u) = pure (.type "str") := rfl
  unfold Builtin.«int.__new__»
  dsimp only
  refine wpC_bind (wpC_of_any ?_)
  repeat (any_goals (first | assumption | wp_step))
  refine wpC_ite_false (by decide) ?_
  refine wpC_bind (wpC_of_eq f1 ?_)
  refine wpC_ite_false (by decide) ?_
  refine wpC_bind (wpC_of_eq f2 ?_)
  refine wpC_ite_false (by simp) ?_
  refine wpC_ite_false (by simp) ?_
  refine wpC_bind (wpC_of_eq (a := PUnit.unit) rfl ?_)
  dsimp only [List.head?, List.getElem?_cons_succ, List.getElem?_nil, Option.map]
  refine wpC_bind (wpC_mono (Q := fun _ _ => False) (E := E) ?_ (fun _ _ x => x.elim) fun _ _ x => x)
  refine wpC_bind (wpC_of_any ?_)
  repeat (any_goals (first | assumption | wp_step))

/-- int of a text that tells no number -/
theorem int_fails {x : PySem.Str} {t : Tok} {Q : Value → Shared → Prop} (hh : A.handled = none) (hl : x.length ≤ 100) (hn : PySem.intText? x = none) (hz : ((numSeenOf x).length == (numTextOf x).length) = true) (hx : (reprText x).length ≤ 300)
    (h : ∀ h' tk e vs, Heap.MadeExc s.heap h' e "ValueError" vs → E (.ref e) { s with heap := h', toks := tk }) :
    wpC (model prog w) A (call (.type "int") [.str x t]) Q E s := by
  have hs : (numSeenOf x).length ≤ 640 := Nat.le_trans (seen_length x) (by omega)
  have hr : (int_private% "readNumeral") 0 10 (numSeenOf x) = (int_private% "Numeral.invalid") := by
    rcases read0 x hs with ⟨m, h1, h2, h3⟩ | ⟨h1, h2⟩
    · rw [hn] at h1; cases h1
    · rcases h2 with h2 | ⟨i, h2, h3⟩
      · exact h2
      · exact absurd hz h3
  refine wpC_call (codeC_of_tree ?_)
  show wpC _ _ (callAny (.type "int") _) _ _ _
  refine wpC_of_any (wpAny_pure ⟨Code.quiet_builtin _ (by decide +kernel), ?_⟩)
  refine codeC_builtin F.entry_type_call ?_
  rw [Around.under_plain (weight_type_call_type "int" [.str x t] []) (units_type_call_type "int" [.str x t] [])]
  refine typecall_int (wpC_call (codeC_call_builtin (plainId_quiet F.called_int.plain _) (F.newCall_int_1 (.str x t)) (codeC_builtin F.entry_int_new ?_)))
  refine intnew_fails (wpC_mono (Q := fun _ _ => False) (E := fun e s' => E e s') (text_fails rfl ?_ hs hr hx h) (fun _ _ x => x.elim) fun _ _ x => x)
  rw [Around.under_plainId F.called_int.plain]
  exact hh
end
end Mine
end

section
open PySem PySem.W PyProof.Rows PySem.Calls PySem.NumText
set_option maxRecDepth 100000
set_option maxHeartbeats 8000000
namespace Mine
theorem fillReadC (P : Params) : PySem.Challenge.rw_yh0005_01 = PySem.Challenge.rw_yh0005_01 → hd.heap_1 P = hd.heap_1 P := by
  k_fill
  intro _
  rfl

section
variable {w : World} {A : Around} {s : Shared} {h₀ : Heap} {R : Result → Shared → Prop} {mean : ExcName → Option Value} {mg mb : Str → Option Value}
  {name qual : Str} {params : Arguments} {body : List Stmt} {scope : Scope} {dV kV doc pm cdv ct oc : Value} {an od : Option Addr} {osl : Array (Option Value)} {f : Addr} {args : Args} {binds : List (Str × Value)}

/-- a def's body, entered from a frame with others below it, under the claim's caller -/
theorem enterDeep {A₀ : Around} {base : Heap} {outer : List Env} {L a : Addr} {m : Str → Option Value} {cn : Str} {cs : Scope} {ccd : Value} {news : List (Addr × Obj)}
    (B : Below A₀ base outer h₀) (F : Fr h₀ L s.heap m) (N : News h₀ L s.heap news) (C : Cx w mean mg mb h₀) (D : KtsDicts (outer.filterMap (·.frame)) h₀) (hA : A.frames = some (envOf cn cs L a ccd :: outer))
    (ho : (hd.heap_1 w.params).lookup f = some ⟨oc, od, .func (fnOf name qual params body scope dV kV doc pm an cdv ct), osl⟩) (hcd : codeIn (hd.heap_1 w.params) cdv qual = true) (hroom : A.depth < recursionLimit)
    (hbind : BindsTo s (fnOf name qual params body scope dV kV doc pm an cdv ct) args binds) (hloc : ∀ y ∈ binds, scope.names.lookup y.1 = some .local)
    (hcell : ∀ x ∈ scope.names, x.2 ≠ .cell) (hck : cs.kind = .function)
    (hco : scope.isCoroutine = false) (hgen : scope.isGenerator = false) (hk : scope.kind = .function)
    (h : ∀ g L' h₁, Fr h₀ L g m → Fr g L' h₁ (fun y => binds.reverse.lookup y) → News g L' h₁ news → Below A base (envOf cn cs L a ccd :: outer) g → Cx w mean mg mb g → KtsDicts ((envOf cn cs L a ccd :: outer).filterMap (·.frame)) g →
      wpC (model PySem.Challenge.rw_yh0005_01.row.prog w) (A.deeper (envOf qual scope L' f cdv)) (execs body (envOf qual scope L' f cdv)) (fun fl s' => R (.ok (.ret (match fl with | .ret v => v | _ => .none))) s')
        (fun e s' => wpAny (model PySem.Challenge.rw_yh0005_01.row.prog w) (A.deeper (envOf qual scope L' f cdv)) (leaving (envOf qual scope L' f cdv) e) (fun _ s'' => R (.error e) s'') (fun e' s'' => R (.error e') s'') s')
        { s with heap := h₁, toks := s.toks + binds.length }) :
    codeC (model PySem.Challenge.rw_yh0005_01.row.prog w) A (.call (.ref f) args) R s := by
  have X := C.X.keeps F.keep
  obtain ⟨oL, es, ep, hLg, hLd, hN, hNs, st, B₂⟩ := kts_enter B F N hA hck
  refine codeC_call_def (fd := fnOf name qual params body scope dV kV doc pm an cdv ct) (body := body) (binds := binds) hroom (X _ _ ho) rfl (C.T.nolimit.keeps F.keep) (codeRec_of X hcd) rfl hbind hcell hloc (fun h₁ hns hk₁ => ?_) hco hgen hk
  exact h _ s.heap.objs.size h₁ ⟨hN _ hLg, st, F.above⟩ ⟨hns, fun b o e => hk₁ b o (of_hideAll _ e), Nat.le_of_eq (hideAll_size _ _)⟩
    (fun p hp => ⟨hk₁ _ _ (N p hp).1, Nat.ne_of_lt (Heap.lt_size (N p hp).1), hideAll_none _ (List.mem_map_of_mem hp)⟩) B₂ (C.keeps st) (fun b hb => by
      rcases kts_mem hb with rfl | hb
      · exact ⟨oL, es, ep, hLg, hLd⟩
      · obtain ⟨o, es', n', ho', hd'⟩ := D b hb
        exact ⟨o, es', n', st b o ho', hd'⟩)

/-- a def's body, entered under the claim's caller -/
theorem enterC (C : Cx w mean mg mb h₀) (hst : h₀.StaysIn s.heap) (hsz : h₀.objs.size ≤ s.heap.objs.size)
    (ho : (hd.heap_1 w.params).lookup f = some ⟨oc, od, .func (fnOf name qual params body scope dV kV doc pm an cdv ct), osl⟩) (hcd : codeIn (hd.heap_1 w.params) cdv qual = true)
    (hroom : A.depth < recursionLimit)
    (hbind : BindsTo s (fnOf name qual params body scope dV kV doc pm an cdv ct) args binds) (hloc : ∀ y ∈ binds, scope.names.lookup y.1 = some .local)
    (hcell : ∀ x ∈ scope.names, x.2 ≠ .cell)
    (hco : scope.isCoroutine = false) (hgen : scope.isGenerator = false) (hk : scope.kind = .function)
    (h : ∀ L h₁, L = s.heap.objs.size → Fr h₀ L h₁ (fun x => binds.reverse.lookup x) → s.heap.StaysIn h₁ →
      wpC (model PySem.Challenge.rw_yh0005_01.row.prog w) (A.deeper (envOf qual scope L f cdv)) (execs body (envOf qual scope L f cdv)) (fun fl s' => R (.ok (.ret (match fl with | .ret v => v | _ => .none))) s')
        (fun e s' => wpAny (model PySem.Challenge.rw_yh0005_01.row.prog w) (A.deeper (envOf qual scope L f cdv)) (leaving (envOf qual scope L f cdv) e) (fun _ s'' => R (.error e) s'') (fun e' s'' => R (.error e') s'') s')
        { s with heap := h₁, toks := s.toks + binds.length }) :
    codeC (model PySem.Challenge.rw_yh0005_01.row.prog w) A (.call (.ref f) args) R s :=
  codeC_call_def (fd := fnOf name qual params body scope dV kV doc pm an cdv ct) (body := body) (binds := binds) hroom ((C.X.keeps hst) _ _ ho) rfl (C.T.nolimit.keeps hst) (codeRec_of (C.X.keeps hst) hcd) rfl hbind hcell hloc
    (fun h₁ hn hk₁ => h _ h₁ rfl ⟨hn, fun b o e => hk₁ b o (hst b o e), hsz⟩ hk₁) hco hgen hk
end

theorem bad_y {prog : Program} {w : World} {A : Around} {E : Value → Shared → Prop} {s : Shared} {Q : Value → Shared → Prop} {l : List (Str × Tok)} {xs : List Str} {a b c y y' e : Str} {t : Tok} (hs : xs = [a, b, c, y, e]) (hh : A.handled = none)
    (hn : PySem.intText? y = none) (hz : ((numSeenOf y).length == (numTextOf y).length) = true) (hrt : (reprText y).length ≤ 300) (hy : y.length ≤ 100) (h1 : l.map (fun x => x.fst) = xs) (h2 : (l.map (fun x => x.fst))[Int.toNat 3]? = some y')
    (h : ∀ h' tk e vs, Heap.MadeExc s.heap h' e "ValueError" vs → E (.ref e) { s with heap := h', toks := tk }) : wpC (model prog w) A (call (.type "int") [.str y' t]) Q E s := by
  rw [h1, hs] at h2
  cases h2
  exact int_fails hh hy hn hz hrt h

theorem read_bad (w : World) {A : Around} {s : Shared} {R : Result → Shared → Prop} {base : Heap} {outer : List Env} {mean : ExcName → Option Value} {mg mb : Str → Option Value} {resp : Str} {t : Tok}
    (C : Cx w mean mg mb base) (B' : Below A base outer s.heap) (D' : KtsDicts (outer.filterMap (·.frame)) s.heap) (hh : A.handled = none) (hroom : A.depth ≤ 500) (hlen : resp.length ≤ 100)
    (hc : (Txt.slice resp none (some 3) != Str.ofString "229") = false) {r : Int} (hf : Txt.find resp (Str.ofString "(") = 4) (hg : Txt.find3 resp (Str.ofString ")") (Txt.find resp (Str.ofString "(") + 1) = r) (hr : 6 ≤ r) (hr2 : r < resp.length) (hi : (Txt.item resp (Txt.find resp (Str.ofString "(") + 1) != Txt.item resp (Txt.find3 resp (Str.ofString ")") (Txt.find resp (Str.ofString "(") + 1) - 1)) = false) {a b c y e : Str} (hs : Txt.split (Txt.slice resp (some (Txt.find resp (Str.ofString "(") + 1)) (some (Txt.find3 resp (Str.ofString ")") (Txt.find resp (Str.ofString "(") + 1)))) (Txt.item resp (Txt.find resp (Str.ofString "(") + 1)) = [a, b, c, y, e])
    (hn : PySem.intText? y = none) (hz : ((numSeenOf y).length == (numTextOf y).length) = true) (hrt : (reprText y).length ≤ 300) (hy : y.length ≤ 100)
    (h : ∀ h' tk g' v, KtsTurn (outer.filterMap (·.frame)) s.heap g' → g'.StaysIn h' → (IsText (Str.ofString "no number")) v h' → R (.ok (.ret v)) { s with heap := h', toks := tk }) :
    codeC (model PySem.Challenge.rw_yh0005_01.row.prog w) A (.call (.ref 162) ⟨[.str resp t], []⟩) R s := by
  have XB := C.X
  have TB := C.T
  have C₁ := C.keeps B'.stays
  have X' := C₁.X
  refine' enterC C₁ (fun _ _ e => e) (Nat.le_refl _) ?k1 ?k2 (Nat.lt_of_le_of_lt hroom (by decide)) ?k3 ?k4 ?k5 ?k6 ?k7 ?k8 ?_
  (case k1 => k_is)
  (case k2 => k_is)
  (case k3 => exact BindsTo.of_eq rfl)
  (case k4 => exact locs rfl)
  (case k5 => decide)
  (case k6 => exact rfl)
  (case k7 => exact rfl)
  (case k8 => exact rfl)
  intro L h₁ hL F' hk₁
  have N' : News s.heap L h₁ [] := News.nil
  have T' := C₁.T
  (try dsimp only)
  refine wpC_execs_cons (wpC_Try_except (wpC_execs_cons (wpC_Assign_Name (wpC_Call ?_))))
  k_steps
  refine wpC_callWith_K (X'.keeps F'.keep) (by first | k_is | kernel_rfl) ?_
  k_steps
  rename_i Dt h2 F2 N2 l2
  refine wpC_call ?_
  refine' enterDeep (A₀ := A) B' F2 N2 C₁ D' (Around.frames_deeper B'.stack) ?k1 ?k2 (Nat.lt_of_le_of_lt (Nat.succ_le_succ hroom) (by decide)) ?k3 ?k4 ?k5 ?kc ?k6 ?k7 ?k8 ?_
  (case k1 => k_is)
  (case k2 => k_is)
  (case k3 => exact BindsTo.of_eq rfl)
  (case k4 => exact locs rfl)
  (case k5 => decide)
  (case kc => exact rfl)
  (case k6 => exact rfl)
  (case k7 => exact rfl)
  (case k8 => exact rfl)
  intro g L3 h3 FG F' N' B₂ C₂ D₂
  have X' := C₂.X
  have T' := C₂.T
  (try dsimp only)
  refine wpC_execs_cons (wpC_of_any ?_)
  k_steps
  (try dsimp only)
  refine wpC_execs_cons (wpC_of_any ?_)
  k_steps
  (try dsimp only)
  refine wpC_execs_cons (wpC_of_any ?_)
  k_steps
  (try dsimp only)
  refine wpC_execs_cons (wpC_of_any ?_)
  k_steps
  (try dsimp only)
  refine wpC_execs_cons (wpC_of_any ?_)
  k_steps
  (try dsimp only)
  refine wpC_execs_cons (wpC_of_any ?_)
  k_steps
  (try dsimp only)
  refine wpC_execs_cons (wpC_of_any ?_)
  k_steps
  (try dsimp only)
  refine wpC_execs_cons (wpC_of_any ?_)
  k_steps
  · exact (no_len2 hs (by assumption) (by assumption)).elim
  (try dsimp only)
  refine wpC_execs_cons (wpC_of_any ?_)
  k_steps
  (try dsimp only)
  refine wpC_execs_cons (wpC_Assign_Name (wpC_Call ?_))
  k_steps
  refine wpC_callWith_type ?_
  k_steps
  · exact trivial
  refine bad_y (hh := by exact hh) hs hn hz hrt hy (by assumption) (by assumption) fun h4 tk4 e4 vs4 hx4 => ?_
  refine leave_raiseS B₂ (Heap.MadeExc.of hx4) (by assumption) (by assumption) fun h5 t5 R5 RK5 U5 => ?_
  clear RK5
  (try dsimp only at R5 U5 ⊢)
  k_steps
  all_goals (try dsimp only)
  exact fin_read (s := s) h (by assumption) (by first | assumption | exact KtsTurn.refl) ⟨_, rfl⟩
end Mine
end

section
open PySem PySem.W PyProof.Rows PySem.Calls
set_option maxRecDepth 100000
set_option maxHeartbeats 8000000
namespace Mine
theorem fillDrawn (P : Params) : PySem.Challenge.rw_yh0005_01 = PySem.Challenge.rw_yh0005_01 → hd.heap_1 P = hd.heap_1 P := by
  k_fill
  intro _
  rfl


theorem port_pos (x : Int) : 0 ≤ ((x.fdiv 4).fdiv 5).fmod (10 ^ (1 + (x.fdiv 4).fmod 5).toNat) := by
  apply Int.fmod_nonneg_of_pos
  exact Int.pow_pos (by decide)

theorem port_lt (x : Int) : ((x.fdiv 4).fdiv 5).fmod (10 ^ (1 + (x.fdiv 4).fmod 5).toNat) < 100000 := by
  have h1 : (x.fdiv 4).fmod 5 < 5 := Int.fmod_lt_of_pos _ (by decide)
  have h2 : ((x.fdiv 4).fdiv 5).fmod (10 ^ (1 + (x.fdiv 4).fmod 5).toNat) < 10 ^ (1 + (x.fdiv 4).fmod 5).toNat := Int.fmod_lt_of_pos _ (Int.pow_pos (by decide))
  have h3 : (1 + (x.fdiv 4).fmod 5).toNat ≤ 5 := by omega
  have h4 : (10 : Int) ^ (1 + (x.fdiv 4).fmod 5).toNat ≤ 10 ^ 5 := by
    have : (10 : Nat) ^ (1 + (x.fdiv 4).fmod 5).toNat ≤ 10 ^ 5 := Nat.pow_le_pow_right (by decide) h3
    exact_mod_cast this
  have e : (10 : Int) ^ 5 = 100000 := by decide
  omega

/-- the figures of a number -/
noncomputable def fig (p : Int) : Str := Str.ofString (toString p)

/-- what a draw may be: the reply, what is due, the port -/
inductive Shape (p : Int) (h : Heap) : Str → Value → Value → Prop
  | code (t : Tok) : Shape p h (Str.ofString "227 (|||" ++ fig p ++ Str.ofString "|)") (.str (Str.ofString "another code") t) .none
  | s0 (t : Tok) : Shape p h (Str.ofString "229 " ++ Str.ofString "2" ++ fig p ++ Str.ofString "2)") (.str (Str.ofString "another shape") t) .none
  | s1 (t : Tok) : Shape p h (Str.ofString "229 " ++ Str.ofString "(|||" ++ fig p ++ Str.ofString "|]") (.str (Str.ofString "another shape") t) .none
  | s2 (t : Tok) : Shape p h (Str.ofString "229 " ++ Str.ofString "(||" ++ fig p ++ Str.ofString "|)") (.str (Str.ofString "another shape") t) .none
  | s3 (t : Tok) : Shape p h (Str.ofString "229 " ++ Str.ofString "(|||" ++ fig p ++ Str.ofString "|!)") (.str (Str.ofString "another shape") t) .none
  | good (T : Addr) (t u k : Tok) (hT : h.IsTuple T #[.str (Str.ofString "h") t, .int p u]) : Shape p h (Str.ofString "229 (|||" ++ fig p ++ Str.ofString "|)") (.ref T) (.int p k)
  | bang (T : Addr) (t u k : Tok) (hT : h.IsTuple T #[.str (Str.ofString "h") t, .int p u]) : Shape p h (Str.ofString "229 (!!!00" ++ fig p ++ Str.ofString "!)") (.ref T) (.int p k)

theorem fin_text {R : Result → Shared → Prop} {s : Shared} {L D : Addr} {h' : Heap} {m : Str → Option Value} {p : Int} {reply : Str} {due port : Value} {t tk : Tok} {n : Nat} {rest : List (Addr × Obj)}
    (h : ∀ h' tk q reply due port t p, s.heap.StaysIn h' → h'.IsTuple q #[.str reply t, due, port] → s.heap.get? q = none → 0 ≤ p → p < 100000 → Shape p h' reply due port → R (.ok (.ret (.ref q))) { s with heap := h', toks := tk })
    (F : Fr s.heap L h' m) (N : News s.heap L h' ((D, { cls := .type "tuple", data := .seq #[.str reply t, due, port] n }) :: rest)) (hp0 : 0 ≤ p) (hp1 : p < 100000) (S : Shape p h' reply due port) :
    R (.ok (.ret (.ref D))) { s with heap := h', toks := tk } :=
  h _ _ _ _ _ _ _ _ F.keep ⟨_, N.get (.head _), rfl, _, rfl⟩ ((N _ (.head _)).2.2) hp0 hp1 S

theorem fin_good {R : Result → Shared → Prop} {s : Shared} {L D T : Addr} {h' : Heap} {m : Str → Option Value} {p : Int} {reply : Str} {port : Value} {t tk : Tok} {n : Nat} {n' : Nat} {its : Array Value} {rest : List (Addr × Obj)}
    (h : ∀ h' tk q reply due port t p, s.heap.StaysIn h' → h'.IsTuple q #[.str reply t, due, port] → s.heap.get? q = none → 0 ≤ p → p < 100000 → Shape p h' reply due port → R (.ok (.ret (.ref q))) { s with heap := h', toks := tk })
    (F : Fr s.heap L h' m) (N : News s.heap L h' ((D, { cls := .type "tuple", data := .seq #[.str reply t, .ref T, port] n }) :: (T, { cls := .type "tuple", data := .seq its n' }) :: rest)) (hp0 : 0 ≤ p) (hp1 : p < 100000)
    (S : h'.IsTuple T its → Shape p h' reply (.ref T) port) :
    R (.ok (.ret (.ref D))) { s with heap := h', toks := tk } :=
  h _ _ _ _ _ _ _ _ F.keep ⟨_, N.get (.head _), rfl, _, rfl⟩ ((N _ (.head _)).2.2) hp0 hp1 (S ⟨_, N.get (.tail _ (.head _)), rfl, _, rfl⟩)

theorem drawn_spec (w : World) {A : Around} {s : Shared} {R : Result → Shared → Prop} {mean : ExcName → Option Value} {mg mb : Str → Option Value} {x : Int} {t : Tok} 
    (C : Cx w mean mg mb s.heap) (hroom : A.depth ≤ 500) (hx : 0 ≤ x) (hx2 : x < 10000000)
    (h : ∀ h' tk q reply due port t p, s.heap.StaysIn h' → h'.IsTuple q #[.str reply t, due, port] → s.heap.get? q = none → 0 ≤ p → p < 100000 → Shape p h' reply due port → R (.ok (.ret (.ref q))) { s with heap := h', toks := tk }) :
    codeAny (model PySem.Challenge.rw_yh0005_01.row.prog w) A (.call (.ref 169) ⟨[.int x t], []⟩) R s := by
  have X' := C.X
  refine' enter C (fun _ _ e => e) (Nat.le_refl _) ?k1 ?k2 (Nat.lt_of_le_of_lt hroom (by decide)) ?k3 ?k4 ?k5 ?k6 ?k7 ?k8 ?_
  (case k1 => k_is)
  (case k2 => k_is)
  (case k3 => exact BindsTo.of_eq rfl)
  (case k4 => exact locs rfl)
  (case k5 => decide)
  (case k6 => exact rfl)
  (case k7 => exact rfl)
  (case k8 => exact rfl)
  intro L h₁ hL F' hk₁
  have N' : News s.heap L h₁ [] := News.nil
  have T' := C.T
  (try dsimp only)
  (try k_fold)
  have hp0 : 0 ≤ ((x.fdiv 4).fdiv 5).fmod (10 ^ (1 + (x.fdiv 4).fmod 5).toNat) := port_pos x
  have hp1 : ((x.fdiv 4).fdiv 5).fmod (10 ^ (1 + (x.fdiv 4).fmod 5).toNat) < 100000 := port_lt x
  k_steps
  all_goals first
    | exact fin_good (s := s) h (by assumption) (by assumption) hp0 hp1 (fun hT => by first | exact .good _ _ _ _ hT | exact .bang _ _ _ _ hT)
    | exact fin_text (s := s) h (by assumption) (by assumption) hp0 hp1 (by first | exact .code _ | exact .s0 _ | exact .s1 _ | exact .s2 _ | exact .s3 _)
end Mine
end

section
open PySem PySem.W PyProof.Rows PySem.Calls PySem.NumText
set_option maxRecDepth 100000
set_option maxHeartbeats 4000000
namespace Mine
theorem numCps_digits (m : Nat) : ∀ x ∈ numCps m, 48 ≤ x ∧ x ≤ 57 := by
  induction m using Nat.strongRecOn with
  | _ m ih =>
    by_cases h : m < 10
    · rw [numCps_small h]
      intro x hx
      simp at hx
      omega
    · rw [numCps_cons h]
      intro x hx
      rcases List.mem_append.mp hx with hx | hx
      · exact ih (m / 10) (by omega) x hx
      · simp at hx
        omega
theorem fig_nat {p : Int} (h : 0 ≤ p) : (fig p).cps.toList = numCps p.toNat := by
  obtain ⟨m, rfl⟩ := Int.eq_ofNat_of_zero_le h
  exact fig_cps m
theorem str_of_list {x : PySem.Str} {l : List Nat} (h : x.cps.toList = l) : x = ⟨l.toArray⟩ := by
  obtain ⟨a⟩ := x
  subst h
  simp
theorem text3 {a b : PySem.Str} {pre suf : List Nat} {f : PySem.Str} (ha : a.cps.toList = pre) (hb : b.cps.toList = suf) : a ++ f ++ b = txt pre f.cps.toList suf := by
  refine str_of_list ?_
  subst ha hb
  show ((a.cps ++ f.cps) ++ b.cps).toList = _
  simp

theorem fig_reads {p : Int} (h0 : 0 ≤ p) (h1 : p < 100000) : PySem.intText? (fig p) = some p := KIN.num_reads h0 (by omega)
theorem fig_val {p : Int} (h0 : 0 ≤ p) (h1 : p < 100000) : ((digitsVal (fig p).cps.toList : Nat) : Int) = p := by
  have hw := (fig_wide h0 h1).1
  have e := intText_digits (x := fig p) (by rw [fig_nat h0]; exact numCps_digits _) (by
    intro hn
    have : (fig p).cps.toList.length = 0 := by rw [hn]; rfl
    rw [Array.length_toList] at this
    have h1' : 1 ≤ (fig p).cps.size := hw.1
    omega) (by have : (fig p).length ≤ 5 := hw.2; omega)
  rw [fig_reads h0 h1] at e
  injection e with e
  exact e.symm
theorem fig_zeros {p : Int} (h0 : 0 ≤ p) (h1 : p < 100000) : PySem.intText? (⟨([48, 48] ++ (fig p).cps.toList).toArray⟩ : PySem.Str) = some p := by
  have hw := (fig_wide h0 h1).1
  have hd := numCps_digits p.toNat
  rw [← fig_nat h0] at hd
  have e := intText_digits (x := (⟨([48, 48] ++ (fig p).cps.toList).toArray⟩ : PySem.Str)) (by
    intro c hc
    simp at hc
    rcases hc with rfl | hc
    · omega
    · exact hd c (by simpa using hc)) (by simp) (by
    show (([48, 48] ++ (fig p).cps.toList).toArray).size ≤ 4300
    have : (fig p).cps.size ≤ 5 := hw.2
    simp; omega)
  rw [e]
  congr 1
  refine Eq.trans ?_ (fig_val h0 h1)
  simp [digitsVal]

/-- two values that read alike -/
noncomputable def SameDue (v due : Value) (h : Heap) : Prop := ∃ d, Reads h v d [] ∧ Reads h due d [] ∧ d.canLay0 = true ∧ d.depth ≤ 3 ∧ d.eqv d = true

theorem due_text {x : PySem.Str} {v : Value} {u : Tok} {h : Heap} (hv : IsText x v h) (hx : (PyData.str x).canLay0 = true) : SameDue v (.str x u) h := by
  obtain ⟨t, rfl⟩ := hv
  exact ⟨.str x, .str _ _, .str _ _, hx, by simp [PyData.depth], by simp [PyData.eqv]⟩
theorem due_pair {p : Int} {v : Value} {T : Addr} {t u : Tok} {h : Heap} (hv : IsPair p v h) (hT : h.IsTuple T #[.str (Str.ofString "h") t, .int p u]) : SameDue v (.ref T) h := by
  obtain ⟨T', t', u', rfl, o', h1, h2, n1, h3⟩ := hv
  obtain ⟨o, k1, k2, n, k3⟩ := hT
  exact ⟨.tuple [.str (Str.ofString "h"), .int p], .tuple h1 h2 h3 (.cons (.str _ _) (.cons (.int _ _) .nil)), .tuple k1 k2 k3 (.cons (.str _ _) (.cons (.int _ _) .nil)), by simp [PyData.canLay0, PyData.canLayAll0]; decide +kernel, by simp [PyData.depth, PyData.depthAll], by simp [PyData.eqv, PyData.eqvAll]⟩

theorem form_of_txt (s : Nat) (d : List Nat) : txt [50, 50, 57, 32, 40, s, s, s] d [s, 41] = form s d := rfl

theorem read_any (w : World) {A : Around} {s : Shared} {R : Result → Shared → Prop} {base : Heap} {outer : List Env} {mean : ExcName → Option Value} {mg mb : Str → Option Value} {reply : Str} {t : Tok} {p : Int} {due port : Value}
    (C : Cx w mean mg mb base) (B' : Below A base outer s.heap) (D' : KtsDicts (outer.filterMap (·.frame)) s.heap) (hh : A.handled = none) (hroom : A.depth ≤ 500) (h0 : 0 ≤ p) (h1 : p < 100000) (S : Shape p s.heap reply due port)
    (h : ∀ h' tk g' v, KtsTurn (outer.filterMap (·.frame)) s.heap g' → g'.StaysIn h' → SameDue v due h' → R (.ok (.ret v)) { s with heap := h', toks := tk }) :
    codeAny (model PySem.Challenge.rw_yh0005_01.row.prog w) A (.call (.ref 162) ⟨[.str reply t], []⟩) R s := by
  have hw := (fig_wide h0 h1).1
  have hd := numCps_digits p.toNat
  rw [← fig_nat h0] at hd
  have hl : (fig p).cps.toList.length = (fig p).length := Array.length_toList
  have l1 : 1 ≤ (fig p).cps.toList.length := by rw [hl]; exact hw.1
  have l2 : (fig p).cps.toList.length ≤ 5 := by rw [hl]; exact hw.2
  have keepT : ∀ {T : Addr} {its : Array Value} {g' h' : Heap}, KtsTurn (outer.filterMap (·.frame)) s.heap g' → g'.StaysIn h' → s.heap.IsTuple T its → h'.IsTuple T its := fun T' S' e => by
    obtain ⟨o, a1, a2, n, a3⟩ := KtsTurn.isTuple T' e
    exact ⟨o, S' _ _ a1, a2, n, a3⟩
  have key40 : ∀ c, (c = 40 ∨ c = 41 ∨ c = 124 ∨ c = 33) → ∀ x ∈ (fig p).cps.toList, x ≠ c := fun c hc x hx => by have := hd x hx; omega
  cases S with
  | code t' =>
    rw [text3 (pre := [50, 50, 55, 32, 40, 124, 124, 124]) (suf := [124, 41]) rfl rfl]
    exact read_code w C B' D' hh hroom (txt_short (by decide) l2) (c_code _ l1 l2) fun h' tk g' v T S' hv => h h' tk g' v T S' (due_text hv (by simp [PyData.canLay0]; decide +kernel))
  | s0 t' =>
    rw [show Str.ofString "229 " ++ Str.ofString "2" ++ fig p ++ Str.ofString "2)" = txt [50, 50, 57, 32, 50] (fig p).cps.toList [50, 41] from text3 rfl rfl]
    exact read_s0 w C B' D' hh hroom (txt_short (by decide) l2) (c_s0 _ l1 l2) (f_s0 hd l1 l2) fun h' tk g' v T S' hv => h h' tk g' v T S' (due_text hv (by simp [PyData.canLay0]; decide +kernel))
  | s1 t' =>
    rw [show Str.ofString "229 " ++ Str.ofString "(|||" ++ fig p ++ Str.ofString "|]" = txt [50, 50, 57, 32, 40, 124, 124, 124] (fig p).cps.toList [124, 93] from text3 rfl rfl]
    have hf := f_s1 hd l1 l2
    exact read_s1 w C B' D' hh hroom (txt_short (by decide) l2) (c_s1 _ l1 l2) hf (by rw [hf]; exact g_s1 hd l1 l2) fun h' tk g' v T S' hv => h h' tk g' v T S' (due_text hv (by simp [PyData.canLay0]; decide +kernel))
  | s2 t' =>
    rw [show Str.ofString "229 " ++ Str.ofString "(||" ++ fig p ++ Str.ofString "|)" = txt [50, 50, 57, 32, 40, 124, 124] (fig p).cps.toList [124, 41] from text3 rfl rfl]
    have hf := f_s2 hd l1 l2
    have hg := g_s2 hd l1 l2
    refine read_s2 (r := (fig p).cps.toList.length + 8) w C B' D' hh hroom (txt_short (by decide) l2) (c_s2 _ l1 l2) hf (by rw [hf]; exact hg) le_8 (txt_end (k := 8) (by decide)) (by rw [hf]; show (Txt.item _ 5 != Txt.item _ (Txt.find3 _ _ 5 - 1)) = false; rw [hg]; exact i_s2 _ l1 l2) ?_ fun h' tk g' v T S' hv => h h' tk g' v T S' (due_text hv (by simp [PyData.canLay0]; decide +kernel))
    rw [hf]
    show (Txt.split (Txt.slice _ (some 5) (some (Txt.find3 _ _ 5))) (Txt.item _ 5)).length ≠ 5
    rw [hg, m_s2 _ l1 l2, n_s2 _ l1 l2, s_s2 hd l1 l2]
    decide
  | s3 t' =>
    rw [show Str.ofString "229 " ++ Str.ofString "(|||" ++ fig p ++ Str.ofString "|!)" = txt [50, 50, 57, 32, 40, 124, 124, 124] (fig p).cps.toList [124, 33, 41] from text3 rfl rfl]
    have hf := f_s3 hd l1 l2
    have hg := g_s3 hd l1 l2
    exact read_s3 (r := (fig p).cps.toList.length + 10) w C B' D' hh hroom (txt_short (by decide) l2) (c_s3 _ l1 l2) hf (by rw [hf]; exact hg) le_10 (txt_end (k := 10) (by decide)) (by rw [hf]; show (Txt.item _ 5 != Txt.item _ (Txt.find3 _ _ 5 - 1)) = true; rw [hg]; exact i_s3 _ l1 l2) fun h' tk g' v T S' hv => h h' tk g' v T S' (due_text hv (by simp [PyData.canLay0]; decide +kernel))
  | good T2 t' u' k' hT =>
    rw [show Str.ofString "229 (|||" ++ fig p ++ Str.ofString "|)" = form 124 (fig p).cps.toList from text3 rfl rfl]
    have hf := form_find (s := 124) (key40 40 (by simp)) (.inl rfl) l1 (to7 l2)
    have hg := form_find3 (s := 124) (key40 41 (by simp)) (.inl rfl) l1 (to7 l2)
    refine read_good (r := (fig p).cps.toList.length + 9) w C B' D' hh hroom (form_short (to7 l2)) (form_code _ l1 (to7 l2)) hf (by rw [hf]; exact hg) le_9 form_end (by
      rw [hf]; show (Txt.item _ 5 != Txt.item _ (Txt.find3 _ _ 5 - 1)) = false
      rw [hg, form_first _ l1 (to7 l2), form_last _ l1 (to7 l2)]; simp) (by
      rw [hf]
      show Txt.split (Txt.slice _ (some 5) (some (Txt.find3 _ _ 5))) (Txt.item _ 5) = _
      rw [hg, form_first _ l1 (to7 l2), form_inner _ l1 (to7 l2)]
      exact inner_split (.inl rfl) (key40 124 (by simp)) l1 (to7 l2)) (p := p) (by
      have : (⟨((fig p).cps.toList).toArray⟩ : PySem.Str) = fig p := (str_of_list rfl).symm
      rw [this]
      exact fig_reads h0 h1) (size_640 (to7 l2)) fun h' tk g' v T S' hv => h h' tk g' v T S' (due_pair hv (keepT T S' hT))
  | bang T2 t' u' k' hT =>
    rw [show Str.ofString "229 (!!!00" ++ fig p ++ Str.ofString "!)" = form 33 ([48, 48] ++ (fig p).cps.toList) from text3 (pre := [50, 50, 57, 32, 40, 33, 33, 33, 48, 48]) (suf := [33, 41]) rfl rfl]
    have lz : ([48, 48] ++ (fig p).cps.toList).length = (fig p).cps.toList.length + 2 := by simp
    have z1 : 1 ≤ ([48, 48] ++ (fig p).cps.toList).length := by rw [lz]; exact Nat.le_trans l1 (Nat.le_add_right _ 2)
    have z7 : ([48, 48] ++ (fig p).cps.toList).length ≤ 7 := by rw [lz]; exact Nat.add_le_add_right l2 2
    have kz : ∀ c, (c = 40 ∨ c = 41 ∨ c = 124 ∨ c = 33) → ∀ x ∈ [48, 48] ++ (fig p).cps.toList, x ≠ c := fun c hc x hx => by
      rcases List.mem_append.mp hx with hx | hx
      · simp at hx; omega
      · exact key40 c hc x hx
    have hf := form_find (s := 33) (kz 40 (by simp)) (.inr rfl) z1 z7
    have hg := form_find3 (s := 33) (kz 41 (by simp)) (.inr rfl) z1 z7
    refine read_good (r := ([48, 48] ++ (fig p).cps.toList).length + 9) w C B' D' hh hroom (form_short z7) (form_code _ z1 z7) hf (by rw [hf]; exact hg) le_9 form_end (by
      rw [hf]; show (Txt.item _ 5 != Txt.item _ (Txt.find3 _ _ 5 - 1)) = false
      rw [hg, form_first _ z1 z7, form_last _ z1 z7]; simp) (by
      rw [hf]
      show Txt.split (Txt.slice _ (some 5) (some (Txt.find3 _ _ 5))) (Txt.item _ 5) = _
      rw [hg, form_first _ z1 z7, form_inner _ z1 z7]
      exact inner_split (.inr rfl) (kz 33 (by simp)) z1 z7) (p := p) (fig_zeros h0 h1) (size_640 z7) fun h' tk g' v T S' hv => h h' tk g' v T S' (due_pair hv (keepT T S' hT))
end Mine
end

section
open PySem PySem.W PyProof.Rows PySem.Calls
set_option maxRecDepth 100000
set_option maxHeartbeats 8000000
namespace Mine
theorem AccAt.keepN {w : World} {h h' : Heap} {C a : Addr} {m : Str → Option Value} {items : Array Value} (H : AccAt w h a items) (hn : h.Ns C m) (hm : m (Str.ofString "_initial_size") = none)
    (hk : ∀ b o, b ≠ C → h.get? b = some o → h'.get? b = some o) : AccAt w h' a items := by
  obtain ⟨d, n, t, u, h1, h2⟩ := H
  obtain ⟨o, es, ep, h3, h4, h5, h6⟩ := hn
  refine ⟨d, n, t, u, hk _ _ ?_ h1, hk _ _ ?_ h2⟩
  · rintro rfl; rw [h1] at h3; cases h3; cases h4
  · rintro rfl
    rw [h2] at h3
    cases h3
    cases h4
    have := h6 (Str.ofString "_initial_size")
    rw [hm] at this
    exact absurd this (by
      show ¬ (nsFind #[⟨PyData.keyHash w.params "_initial_size", .str "_initial_size" t, .int 0 u⟩] (Str.ofString "_initial_size") = none)
      simp [nsFind, findBy, Value.isStr])

theorem AccAt.keepD {w : World} {h h' : Heap} {D a : Addr} {ys items : Array Value} (H : AccAt w h a items) (hD : h.PlainList D ys) (hk : ∀ b o, b ≠ D → h.get? b = some o → h'.get? b = some o) : AccAt w h' a items := by
  obtain ⟨d, n, t, u, h1, h2⟩ := H
  obtain ⟨c, h3⟩ := hD
  refine ⟨d, n, t, u, hk _ _ ?_ h1, hk _ _ ?_ h2⟩
  · rintro rfl
    have e := congrArg Obj.cls (Option.some.inj (h1.symm.trans h3))
    cases e
  · rintro rfl
    have e := congrArg Obj.data (Option.some.inj (h2.symm.trans h3))
    cases e

/-- accumulators, all empty, all different, none of old -/
noncomputable def Made (w : World) (g h : Heap) (ys : List Value) : Prop := ∃ as : List Addr, ys = as.map .ref ∧ as.Nodup ∧ ∀ a ∈ as, AccAt w h a #[] ∧ g.get? a = none

theorem Made.imp {w : World} {g h h' : Heap} {ys : List Value} (M : Made w g h ys) (hk : ∀ a, AccAt w h a #[] → AccAt w h' a #[]) : Made w g h' ys :=
  let ⟨as, h1, h2, h3⟩ := M; ⟨as, h1, h2, fun a ha => ⟨hk a (h3 a ha).1, (h3 a ha).2⟩⟩

section
variable {prog : Program} {w : World} {A : Around} {E : Value → Shared → Prop} {s : Shared} {env : Env}

noncomputable def EltMakes (prog : Program) (w : World) (A : Around) (elt : Expr) (scope : Scope) (env : Env) (I : Addr) (s₂ : Shared) : Prop :=
  ∀ C s₃ m₃ E', s₃.heap.Ns C m₃ → (∀ b o, b ≠ I → s₂.heap.get? b = some o → s₃.heap.get? b = some o) →
    wpAny (model prog w) A (eval elt (compEnv scope C env)) (fun y s₄ => ∃ q h₄ tk₄, y = .ref q ∧ s₄ = { s₃ with heap := h₄, toks := tk₄ } ∧ s₃.heap.StaysIn h₄ ∧ AccAt w h₄ q #[] ∧ s₃.heap.get? q = none) E' s₃

theorem compLoop_made {R : Result → Shared → Prop} {elt iter : Expr} {x : Str} {px : Pos} {scope cscope : Scope} {pos : Pos} {I D C : Addr} {fp : List Addr} {n : Nat} {P : Nat → Value → Prop} {St : Nat → Heap → Prop} {s₂ : Shared}
    {m : Str → Option Value} (W : Walks prog w A I fp [I] n P St) (hfld : ∀ i h, St i h → FldAt h I) (hI : s₂.heap.get? I ≠ none)
    (hx : (compEnv scope C env).kindOf x = some .local) (hp : ((compEnv scope C env).scope.kind == .class || ((compEnv scope C env).scope.kind == .module && (compEnv scope C env).locals != (compEnv scope C env).globals)) = false)
    (hxi : x ≠ Str.ofString "_initial_size") (hDC : D ≠ C) (hDf : D ∉ fp) (hCf : C ∉ fp) (hC0 : s₂.heap.get? C = none) (hD0 : s₂.heap.get? D = none)
    (hst : St 0 s.heap) (hacc : s.heap.PlainList D #[]) (hn : s.heap.Ns C m) (hm : m (Str.ofString "_initial_size") = none) (hk0 : s₂.heap.StaysIn s.heap)
    (he : EltMakes prog w A elt scope env I s₂)
    (hR : ∀ h' tk m' ys, h'.Ns C m' → h'.PlainList D ys.toArray → m' (Str.ofString "_initial_size") = none → Made w s₂.heap h' ys → ys.length = n →
      (∀ b o, b ≠ I → s₂.heap.get? b = some o → h'.get? b = some o) → R (.ok .next) { s with heap := h', toks := tk })
    (hsz : n ≤ 1000) :
    codeAny (model prog w) A (.compLoop (.ListComp elt [⟨.Name x px, iter, [], 0⟩] cscope pos) 0 (.ref I) (.ref D) (compEnv scope C env)) R s := by
  refine codeAny_compLoop_tests
    (fun k s' => ∃ h' tk m' ys, s' = { s with heap := h', toks := tk } ∧ ys.length ≤ n ∧ k = n + 1 - ys.length ∧ St ys.length h' ∧ h'.PlainList D ys.toArray ∧ h'.Ns C m' ∧ m' (Str.ofString "_initial_size") = none ∧ Made w s₂.heap h' ys ∧
      (∀ b o, b ≠ I → s₂.heap.get? b = some o → h'.get? b = some o)) ?_ (n + 1)
    ⟨s.heap, s.toks, m, [], rfl, Nat.zero_le _, rfl, hst, hacc, hn, hm, ⟨[], rfl, List.nodup_nil, fun a h => nomatch h⟩, fun b o _ e => hk0 _ _ e⟩
  rintro k s' ⟨H, tk, m', ys, rfl, hle, rfl, hst', hacc', hn', hm', hM, hk⟩
  have hIf : I ∈ fp := W.sub I (List.mem_singleton.mpr rfl)
  have hCI : C ≠ I := fun e => hCf (e ▸ hIf)
  have hDI : D ≠ I := fun e => hDf (e ▸ hIf)
  by_cases hlt : ys.length < n
  · refine W.item ys.length _ _ _ hlt hst' fun v h₁ tk₁ hPv hst₁ hk₁ => ?_
    have k₁ : ∀ b o, b ≠ I → H.get? b = some o → h₁.get? b = some o := fun b o hb e => hk₁ b o (by simpa using hb) e
    have hM₁ := hM.imp fun a Ha => Ha.keepI (hfld _ _ hst') k₁
    have hn₁ := hn'.at' fun o e => k₁ _ o hCI e
    refine wpAny_assign_Name (wpAny_storeName_local (env := compEnv scope C env) hx hn₁ (fun h₂ hn₂ hs₂ => ?_) hp)
    have k₂ : ∀ b o, b ≠ C → h₁.get? b = some o → h₂.get? b = some o := fun b o hb e => hs₂.extBut b o hb e
    have hM₂ := hM₁.imp fun a Ha => Ha.keepN hn₁ hm' k₂
    have hst₂ : St (ys.length + 1) h₂ := W.frame _ _ _ hst₁ fun b hb o e => k₂ b o (fun h => hCf (h ▸ hb)) e
    have hacc₂ : h₂.PlainList D ys.toArray := (hacc'.at fun o e => k₁ _ o hDI e).at fun o e => k₂ _ o hDC e
    have hm₂ : (fun z => if z = x then some v else m' z) (Str.ofString "_initial_size") = none := by
      show (if Str.ofString "_initial_size" = x then _ else _) = none
      rw [if_neg (fun e => hxi e.symm)]; exact hm'
    rw [List.forIn_nil]
    refine wpAny_pure ?_
    rw [if_pos rfl]
    have kk : ∀ b o, b ≠ I → s₂.heap.get? b = some o → h₂.get? b = some o := fun b o hb e => k₂ b o (fun h => by rw [h, hC0] at e; cases e) (k₁ b o hb (hk b o hb e))
    refine wpAny_mono (he C _ _ _ hn₂ kk) (fun y s₄ h₄' => ?_) fun _ _ e => e
    obtain ⟨q, h₄, tk₄, rfl, rfl, k₄, Hq, hq⟩ := h₄'
    have hacc₄ := hacc₂.at fun o e => k₄ _ o e
    have hM₄ := hM₂.imp fun a Ha => Ha.keeps k₄
    refine wpAny_list_append_plain (hsz := by simp only [List.size_toArray]; exact Nat.le_trans (Nat.le_of_lt hlt) (Nat.le_trans hsz (by decide))) hacc₄ fun h₅ hl₅ hs₅ => ?_
    have k₅ : ∀ b o, b ≠ D → h₄.get? b = some o → h₅.get? b = some o := fun b o hb e => hs₅.extBut b o hb e
    have hM₅ := hM₄.imp fun a Ha => Ha.keepD hacc₄ k₅
    have Hq₅ := Hq.keepD hacc₄ k₅
    refine ⟨n + 1 - (ys.length + 1), by omega, h₅, tk₄, _, ys ++ [.ref q], rfl, by simp; omega, by simp, ?_, by rw [← List.push_toArray]; exact hl₅, (hn₂.keeps k₄).sameBut hs₅ hDC.symm, hm₂, ?_, ?_⟩
    · rw [List.length_append, List.length_singleton]
      exact W.frame _ _ _ (W.frame _ _ _ hst₂ fun b _ o e => k₄ b o e) fun b hb o e => k₅ b o (fun h => hDf (h ▸ hb)) e
    · obtain ⟨as, e1, e2, e3⟩ := hM₅
      have hqa : q ∉ as := fun hm => by
        obtain ⟨as', f1, f2, f3⟩ := hM₂
        have : as' = as := by
          rw [e1] at f1
          exact ((List.map_inj_right (fun _ _ h => by cases h; rfl)).mp f1).symm
        subst this
        obtain ⟨_, _, _, _, g1, _⟩ := (f3 q hm).1
        rw [g1] at hq; cases hq
      refine ⟨as ++ [q], by rw [e1]; simp, ?_, fun a ha => ?_⟩
      · rw [List.nodup_append]
        exact ⟨e2, by simp, fun a ha b hb e => hqa (by rw [List.mem_singleton.mp hb] at e; exact e ▸ ha)⟩
      · rcases List.mem_append.mp ha with ha | ha
        · exact e3 a ha
        · rw [List.mem_singleton.mp ha]
          refine ⟨Hq₅, ?_⟩
          cases e : s₂.heap.get? q with
          | none => rfl
          | some o =>
            by_cases hqI : q = I
            · subst hqI
              obtain ⟨oI, fs, hoI, _⟩ := hfld _ _ hst₂
              rw [hoI] at hq; cases hq
            · rw [kk _ _ hqI e] at hq; cases hq
    · intro b o hb e
      exact k₅ b o (fun h => by rw [h, hD0] at e; cases e) (k₄ _ _ (kk b o hb e))
  · have hin : ys.length = n := by omega
    refine W.done _ _ _ (hin ▸ hst') fun h₁ tk₁ hk₁ => ?_
    have k₁ : ∀ b o, b ≠ I → H.get? b = some o → h₁.get? b = some o := fun b o hb e => hk₁ b o (by simpa using hb) e
    exact hR h₁ tk₁ m' ys (hn'.at' fun o e => k₁ _ o hCI e) (hacc'.at fun o e => k₁ _ o hDI e) hm' (hM.imp fun a Ha => Ha.keepI (hfld _ _ hst') k₁) hin fun b o hb e => k₁ b o hb (hk b o hb e)

/-- y = [elt for x in ..], where elt makes an accumulator -/
theorem assign_comp_made {elt iter : Expr} {x y : Str} {px py : Pos} {scope : Scope} {pos spos : Pos} {Q : Flow → Shared → Prop}
    (hsw : swapsWith (.ListComp elt [⟨.Name x px, iter, [], 0⟩] scope pos) (some (.Name y py)) spos.line env = pure true)
    (hfree : ∀ z ∈ scope.names, z.2 ≠ .free) (hcell : ∀ z ∈ scope.names, z.2 ≠ .cell) (hkind : scope.kind = .function)
    (hnames : ∀ z ∈ scope.names, z.2 = .local → scope.names.lookup z.1 = some .local) (hx : scope.names.lookup x = some .local)
    (hy : env.kindOf y = some .local) (hp : (env.scope.kind == .class || (env.scope.kind == .module && env.locals != env.globals)) = false) (hxi : x ≠ Str.ofString "_initial_size")
    (h : wpAny (model prog w) A (eval iter env) (fun xv s₁ => wpAny (model prog w) A (pyIter xv) (fun it s₂ => ∃ I fp n P St m, it = .ref I ∧ Walks prog w A I fp [I] n P St ∧ n ≤ 1000 ∧ St 0 s₂.heap ∧ (∀ b ∈ fp, b < s₂.heap.objs.size) ∧
      (∀ i h, St i h → FldAt h I) ∧ env.locals ≠ I ∧ s₂.heap.Ns env.locals m ∧ m (Str.ofString "_initial_size") = none ∧ EltMakes prog w A elt scope env I s₂ ∧
      (∀ D h' tk ys, s₂.heap.get? D = none → h'.PlainList D ys.toArray → Made w s₂.heap h' ys → ys.length = n →
        h'.Ns env.locals (fun z => if z = y then some (.ref D) else m z) → (∀ b o, b ≠ env.locals → b ≠ I → s₂.heap.get? b = some o → h'.get? b = some o) → Q .next { s₂ with heap := h', toks := tk })) E s₁) E s)
    (hs : ∀ x, foldedSetIterable iter env x = pure x := by intro _; rfl) :
    wpAny (model prog w) A (exec (.Assign [.Name y py] (.ListComp elt [⟨.Name x px, iter, [], 0⟩] scope pos) spos) env) Q E s := by
  rw [exec_Assign_Name_used _ _ _ _ hsw]
  refine wpAny_bind (wpAny_standAt (wpAny_bind ?_))
  show wpAny _ A (do let _ ← comprehension (.ListComp elt [⟨.Name x px, iter, [], 0⟩] scope pos) scope env _ (newList []) false (eval iter env) (some (assign (.Name y py) env))) _ _ s
  refine wpAny_bind (wpAny_mono (wpAny_comprehension_use (Q := fun _ s' => Q .next s') rfl hs hfree hkind hnames (wpAny_mono h (fun xv s₁ h₁ => wpAny_mono h₁ (fun it s₂ h₂ => ?_) fun _ _ e => e) fun _ _ e => e))
    (fun _ s' hq => wpAny_pure (wpAny_pure hq)) fun _ _ e => e)
  obtain ⟨I, fp, n, P, St, m, rfl, W, hsz, hst, hfp, hfld, hLI, hn, hm, hq, hQ⟩ := h₂
  refine wpAny_newObj_type (wpAny_newFunctionEnv hcell (by intro y hy; simp at hy) (fun h₁ hns₁ hsb₁ => ?_) hkind)
  dsimp only at hns₁ hsb₁ ⊢
  generalize hH2 : s₂.heap.push { cls := .type "list", dict := none, data := .seq ([] : List Value).toArray } = H2 at hns₁ hsb₁ ⊢
  have hC : H2.objs.size = s₂.heap.objs.size + 1 := by rw [← hH2, Heap.size_push]
  have hDC : s₂.heap.objs.size ≠ H2.objs.size := by rw [hC]; exact Nat.ne_of_lt (Nat.lt_succ_self _)
  have below : ∀ b, b < s₂.heap.objs.size → b ≠ H2.objs.size := fun b hb => by rw [hC]; exact Nat.ne_of_lt (Nat.lt_succ_of_lt hb)
  have hDf : s₂.heap.objs.size ∉ fp := fun hm => Nat.lt_irrefl _ (hfp _ hm)
  have hCf : H2.objs.size ∉ fp := fun hm => by have := hfp _ hm; rw [hC] at this; exact Nat.lt_irrefl _ (Nat.lt_of_succ_lt this)
  have old : s₂.heap.StaysIn h₁ := fun b o e => hsb₁.extBut b o (below b (Heap.lt_size e)) (Heap.get?_push_of_some _ (hH2 ▸ Heap.get?_push_of_some _ e))
  have hacc : h₁.PlainList s₂.heap.objs.size #[] := ⟨_, hsb₁.extBut _ _ hDC (Heap.get?_push_of_some _ (hH2 ▸ Heap.get?_push_size _ rfl))⟩
  have hst₁ : St 0 h₁ := W.frame _ _ _ hst fun b _ o e => old b o e
  have hC0 : s₂.heap.get? H2.objs.size = none := Heap.get?_none_of_le (by rw [hC]; exact Nat.le_succ _)
  have hD0 : s₂.heap.get? s₂.heap.objs.size = none := Heap.get?_none_of_le (Nat.le_refl _)
  have hI : s₂.heap.get? I ≠ none := by
    obtain ⟨o, _, e, _⟩ := hfld _ _ hst
    rw [e]; simp
  have hLC : env.locals ≠ H2.objs.size := by rintro e; obtain ⟨o, _, _, ho, _⟩ := hn; rw [e, hC0] at ho; cases ho
  have hLD : env.locals ≠ s₂.heap.objs.size := by rintro e; obtain ⟨o, _, _, ho, _⟩ := hn; rw [e, hD0] at ho; cases ho
  have loop : ∀ {R : Result → Shared → Prop}, (∀ s', wpAny (model prog w) A (assign (.Name y py) env (.ref s₂.heap.objs.size)) (fun _ s'' => ∃ m, s''.heap.Ns H2.objs.size m ∧ ∀ h', Heap.SameBut H2.objs.size s''.heap h' → Q .next { s'' with heap := h' }) E s' → R (.ok .next) s') →
      codeAny (model prog w) A (.compLoop (.ListComp elt [⟨.Name x px, iter, [], 0⟩] scope pos) 0 (.ref I) (.ref s₂.heap.objs.size) (compEnv scope H2.objs.size env)) R { s₂ with heap := h₁, toks := s₂.toks + ([] : List (Str × Value)).length } := by
    intro R hR
    refine compLoop_made W hfld hI hx (by simp [compEnv, hkind]) hxi hDC hDf hCf hC0 hD0 hst₁ hacc hns₁ rfl old hq ?_ hsz
    intro h' tk m' ys hnC hpl hm' hM hlen hk
    have hL' : h'.Ns env.locals m := hn.at' fun o e => hk _ o hLI e
    refine hR _ (wpAny_assign_Name (wpAny_storeName_local hy hL' (fun h₂ hn₂ hs₂ => ?_) hp))
    have k₂ : ∀ b o, b ≠ env.locals → h'.get? b = some o → h₂.get? b = some o := fun b o hb e => hs₂.extBut b o hb e
    refine ⟨m', hnC.sameBut hs₂ hLC.symm, fun h₃ hs₃ => ?_⟩
    have k₃ : ∀ b o, b ≠ H2.objs.size → h₂.get? b = some o → h₃.get? b = some o := fun b o hb e => hs₃.extBut b o hb e
    refine hQ s₂.heap.objs.size h₃ _ ys hD0 ((hpl.at fun o e => k₂ _ o hLD.symm e).at fun o e => k₃ _ o hDC e) ?_ hlen (hn₂.sameBut hs₃ hLC) fun b o hbL hbI e => k₃ b o (fun q => by rw [q, hC0] at e; cases e) (k₂ b o hbL (hk b o hbI e))
    exact hM.imp fun a Ha => (Ha.keepN hL' hm k₂).keepN (hnC.sameBut hs₂ hLC.symm) hm' k₃
  exact codeAny_compStart_list (loop fun _ h => h) (W.self 0 _ _ _ hst₁ (loop fun _ h => h))
end
end Mine
end

section
open PySem PySem.W PyProof.Rows PySem.Calls
set_option maxRecDepth 100000
set_option maxHeartbeats 8000000
namespace Mine
/-- the rows, and what lies in each -/
noncomputable def RowsAt (w : World) (h : Heap) (as : List Addr) (rps : List (List (Str × Str))) : Prop :=
  as.length = rps.length ∧ ∀ (r : Nat) (a : Addr) (ps : List (Str × Str)), as[r]? = some a → rps[r]? = some ps → ∃ vs, AccAt w h a vs.toArray ∧ Sheet h vs ps

theorem RowsAt.imp {w : World} {h h' : Heap} {as : List Addr} {rps : List (List (Str × Str))} (M : RowsAt w h as rps)
    (hk : ∀ a vs ps, a ∈ as → AccAt w h a vs.toArray → Sheet h vs ps → AccAt w h' a vs.toArray ∧ Sheet h' vs ps) : RowsAt w h' as rps :=
  ⟨M.1, fun r a ps h1 h2 => let ⟨vs, H, S⟩ := M.2 r a ps h1 h2; ⟨vs, hk a vs ps (List.mem_of_getElem? h1) H S⟩⟩

theorem RowsAt.keeps {w : World} {h h' : Heap} {as : List Addr} {rps : List (List (Str × Str))} (M : RowsAt w h as rps) (hk : h.StaysIn h') : RowsAt w h' as rps :=
  M.imp fun _ _ _ _ H S => ⟨H.keeps hk, S.keeps hk⟩
theorem RowsAt.keepI {w : World} {h h' : Heap} {I : Addr} {as : List Addr} {rps : List (List (Str × Str))} (M : RowsAt w h as rps) (hI : FldAt h I) (hk : ∀ b o, b ≠ I → h.get? b = some o → h'.get? b = some o) : RowsAt w h' as rps :=
  M.imp fun _ _ _ _ H S => ⟨H.keepI hI hk, S.keepI hI hk⟩
theorem RowsAt.keepL {w : World} {h₀ h h' : Heap} {L : Addr} {m : Str → Option Value} {as : List Addr} {rps : List (List (Str × Str))} (M : RowsAt w h as rps) (F : Fr h₀ L h m) (hm : m (Str.ofString "_initial_size") = none)
    (hk : ∀ b o, b ≠ L → h.get? b = some o → h'.get? b = some o) : RowsAt w h' as rps :=
  M.imp fun _ _ _ _ H S => ⟨H.keepL F hm hk, S.keepL F hk⟩
theorem RowsAt.keep1 {w : World} {h h' : Heap} {a : Addr} {its : Array Value} {as : List Addr} {rps : List (List (Str × Str))} (M : RowsAt w h as rps) (Ha : AccAt w h a its) (hna : a ∉ as) (hk : (h.hide a).StaysIn h') : RowsAt w h' as rps :=
  M.imp fun b _ _ hb H S => ⟨H.keep1 Ha (fun e => hna (e ▸ hb)) hk, S.keep1 Ha hk⟩

/-- one row was changed -/
theorem RowsAt.set {w : World} {h h' : Heap} {as : List Addr} {rps : List (List (Str × Str))} {r : Nat} {a : Addr} {its : Array Value} {vs : List Value} {ps : List (Str × Str)} (M : RowsAt w h as rps) (nd : as.Nodup)
    (hr : as[r]? = some a) (Ha : AccAt w h a its) (hk : (h.hide a).StaysIn h') (Ha' : AccAt w h' a vs.toArray) (S' : Sheet h' vs ps) : RowsAt w h' as (rps.set r ps) := by
  refine ⟨by rw [List.length_set]; exact M.1, fun r' a' ps' h1 h2 => ?_⟩
  by_cases e : r = r'
  · subst e
    rw [hr] at h1
    cases h1
    have hlt : r < rps.length := by rw [← M.1]; exact (List.getElem?_eq_some_iff.mp hr).1
    rw [List.getElem?_set_self hlt] at h2
    cases h2
    exact ⟨vs, Ha', S'⟩
  · rw [List.getElem?_set_ne e] at h2
    obtain ⟨vs', H, S⟩ := M.2 r' a' ps' h1 h2
    have hne : a' ≠ a := by
      rintro rfl
      obtain ⟨l1, e1⟩ := List.getElem?_eq_some_iff.mp hr
      obtain ⟨l2, e2⟩ := List.getElem?_eq_some_iff.mp h1
      exact e ((List.getElem_inj nd).mp (e1.trans e2.symm))
    exact ⟨vs', H.keep1 Ha hne hk, S.keep1 Ha hk⟩

theorem RowsAt.made {w : World} {g h : Heap} {ys : List Value} (M : Made w g h ys) : ∃ as : List Addr, ys = as.map .ref ∧ as.Nodup ∧ (∀ a ∈ as, g.get? a = none) ∧ RowsAt w h as (List.replicate as.length []) := by
  obtain ⟨as, h1, h2, h3⟩ := M
  refine ⟨as, h1, h2, fun a ha => (h3 a ha).2, by simp, fun r a ps e1 e2 => ?_⟩
  have hps : ps = [] := by
    have := List.mem_of_getElem? e2
    exact List.eq_of_mem_replicate this
  subst hps
  exact ⟨[], (h3 a (List.mem_of_getElem? e1)).1, rfl, fun j x y e => by simp at e⟩

/-- the rows of a pass -/
noncomputable def rowsOf (sg : Str × Str → Nat) (pts : List (Str × Str)) : List (List (Str × Str)) := (List.range 12).map fun r => pts.filter fun p => sg p == r

theorem rowsOf_nil (sg : Str × Str → Nat) : rowsOf sg [] = List.replicate 12 [] := by
  unfold rowsOf
  rfl

theorem rowsOf_snoc {sg : Str × Str → Nat} {pts : List (Str × Str)} {p : Str × Str} (h : sg p < 12) : rowsOf sg (pts ++ [p]) = (rowsOf sg pts).set (sg p) ((pts.filter fun x => sg x == sg p) ++ [p]) := by
  unfold rowsOf
  apply List.ext_getElem?
  intro r
  rw [List.getElem?_set]
  by_cases hr : r < 12
  · by_cases e : sg p = r
    · subst e
      simp [h]
    · simp [hr, e]
  · simp [hr]
    omega
theorem rowsOf_at {sg : Str × Str → Nat} {pts : List (Str × Str)} {r : Nat} (h : r < 12) : (rowsOf sg pts)[r]? = some (pts.filter fun p => sg p == r) := by
  unfold rowsOf; simp [h]
theorem buckets_perm {sg : Str × Str → Nat} : ∀ (n : Nat) (l : List (Str × Str)), (∀ x ∈ l, sg x < n) → ((List.range n).map fun r => l.filter fun p => sg p == r).flatten.Perm l
  | 0, l, h => by
    have : l = [] := by
      cases l with
      | nil => rfl
      | cons a r => exact absurd (h a List.mem_cons_self) (Nat.not_lt_zero _)
    subst this
    exact List.Perm.refl _
  | n + 1, l, h => by
    rw [List.range_succ, List.map_append, List.flatten_append]
    have e1 : ((List.range n).map fun r => l.filter fun p => sg p == r) = ((List.range n).map fun r => (l.filter fun p => decide (sg p < n)).filter fun p => sg p == r) := by
      apply List.map_congr_left
      intro r hr
      rw [List.filter_filter]
      apply List.filter_congr
      intro x _
      have hr' : r < n := List.mem_range.mp hr
      by_cases e : sg x = r
      · simp [e, hr']
      · simp [e]
    rw [e1]
    have ih := buckets_perm n (l.filter fun p => decide (sg p < n)) (fun x hx => by simpa using (List.mem_filter.mp hx).2)
    have e2 : ([n].map fun r => l.filter fun p => sg p == r).flatten = l.filter fun p => !decide (sg p < n) := by
      simp only [List.map_cons, List.map_nil, List.flatten_cons, List.flatten_nil, List.append_nil]
      apply List.filter_congr
      intro x hx
      have := h x hx
      by_cases e : sg x = n
      · simp [e]
      · have : sg x < n := by omega
        simp [e, this]
    rw [e2]
    exact (List.Perm.append_right _ ih).trans (List.filter_append_perm _ _)

/-- a pass -/
noncomputable def passOf (sg : Str × Str → Nat) (pts : List (Str × Str)) : List (Str × Str) := (rowsOf sg pts).flatten
theorem passOf_perm {sg : Str × Str → Nat} {l : List (Str × Str)} (h : ∀ x ∈ l, sg x < 12) : (passOf sg l).Perm l := buckets_perm 12 l h
end Mine
end

section
open PySem PySem.W PyProof.Rows PySem.Calls
set_option maxRecDepth 100000
set_option maxHeartbeats 8000000
namespace Mine
section
variable {prog : Program} {w : World} {A : Around} {E : Value → Shared → Prop} {s : Shared} {env : Env}

/-- for xa, xb in a list: -/
theorem pair_loop {elts : List Expr} {kt : Nat} {pt : Pos} {body : List Stmt} {Q : Flow → Shared → Prop} {l : Addr} {items : Array Value} (J : Nat → Shared → Prop) (hh : A.handled = none) (hl : s.heap.IsList l items)
    (hJ : ∀ h' tk, s.heap.StaysIn h' → J 0 { s with heap := h', toks := tk })
    (stable : ∀ i s' h' tk, FldAt s'.heap s.heap.objs.size → J i s' → (∀ b o, b ≠ s.heap.objs.size → s'.heap.get? b = some o → h'.get? b = some o) → J i { s' with heap := h', toks := tk })
    (turn : ∀ i s' v, items[i]? = some v → J i s' → s'.heap.IsListIter s.heap.objs.size l (i + 1) → s'.heap.IsList l items →
      wpAny (model prog w) A (assign (.Tuple elts kt pt) env v) (fun _ s₂ => wpAny (model prog w) A (execs body env) (fun f s₃ => match f with
        | .next | .cont => J (i + 1) s₃ ∧ s₃.heap.IsListIter s.heap.objs.size l (i + 1) ∧ s₃.heap.IsList l items
        | .brk => False
        | .ret v => Q (.ret v) s₃) E s₂) E s')
    (done : ∀ s', J items.size s' → Q .next s') :
    wpAny (model prog w) A (pyIter (.ref l)) (fun it s₂ => LoopA prog w A env (.Tuple elts kt pt) body Q E it s₂) E s := by
  refine wpAny_pyIter_list hl ?_
  have k1 : s.heap.StaysIn (s.heap.push { cls := .type "list_iterator", data := .fields #[.ref l, .int 0 0] }) := fun b o e => Heap.get?_push_of_some _ e
  have hne : l ≠ s.heap.objs.size := by
    obtain ⟨o, ho, _⟩ := hl
    exact Nat.ne_of_lt (Heap.lt_size ho)
  refine ⟨_, _, _, _, _, _, J, rfl, Walks.list hh s.heap.objs.size l hne items, ⟨⟨_, Heap.get?_push_size _ rfl, rfl, rfl⟩, hl.at fun o e => k1 _ _ e⟩, hJ _ _ k1, ?_, ?_, ?_, done⟩
  · rintro i s' h' tk ⟨⟨o, ho, _, hd⟩, _⟩ j hk
    exact stable i s' h' tk ⟨o, _, ho, hd⟩ j fun b o hb e => hk b o (by simpa using hb) e
  · rintro i v s' Q' ⟨⟨o, ho, hc, hd⟩, _⟩ hq
    unfold letOwnedTupleGo
    cases v with
    | ref T =>
      dsimp only
      refine wpAny_bind (wpAny_load ho ?_)
      rw [hc, hd]
      exact wpAny_pure hq
    | _ => exact wpAny_pure hq
  · rintro i s' v hi hv j ⟨st1, st2⟩
    exact turn i s' v hv j st1 st2

/-- xa, xb = a pair of texts -/
theorem pair_assign {xa xb : Str} {pa pb pt : Pos} {kt : Nat} {h₀ : Heap} {T : Addr} {m : Str → Option Value} {v1 v2 : Value} {Q : Unit → Shared → Prop} (hh : A.handled = none) (F : Fr h₀ env.locals s.heap m) (hT : s.heap.IsTuple T #[v1, v2])
    (ha : env.kindOf xa = some .local) (hb : env.kindOf xb = some .local) (hp : (env.scope.kind == .class || (env.scope.kind == .module && env.locals != env.globals)) = false)
    (h : ∀ h' tk, Fr h₀ env.locals h' (fun z => if z = xb then some v2 else if z = xa then some v1 else m z) → (∀ b o, b ≠ env.locals → s.heap.get? b = some o → h'.get? b = some o) → Q () { s with heap := h', toks := tk }) :
    wpAny (model prog w) A (assign (.Tuple [.Name xa pa, .Name xb pb] kt pt) env (.ref T)) Q E s := by
  have hLs : env.locals < s.heap.objs.size := F.ns.lt
  refine wpAny_assign_Tuple hh hT (by rfl) (by rfl) fun h₁ he => ?_
  have k1 : s.heap.StaysIn h₁ := fun b o e => he b o (Nat.ne_of_lt (Heap.lt_size e)) e
  have F1 : Fr h₀ env.locals h₁ m := ⟨F.ns.keeps k1, fun b o e => k1 _ _ (F.keep b o e), F.above⟩
  have hL0 : h₀.get? env.locals = none := Heap.get?_none_of_le F.above
  show wpAny _ _ (assignInOrder [assign (.Name xa pa) env, assign (.Name xb pb) env] [v1, v2]) _ _ _
  simp only [assignInOrder]
  refine wpAny_bind (wpAny_holding (wpAny_assign_Name (wpAny_storeName_local ha F1.ns (fun h₂ hn₂ hs₂ => ?_) hp)))
  refine wpAny_bind (wpAny_holding (wpAny_assign_Name (wpAny_storeName_local hb (by exact hn₂) (fun h₃ hn₃ hs₃ => wpAny_pure ?_) hp)))
  have k3 : ∀ b o, b ≠ env.locals → h₁.get? b = some o → h₃.get? b = some o := fun b o hb e => hs₃.extBut b o hb (hs₂.extBut b o hb e)
  exact h h₃ _ ⟨hn₃, fun b o e => k3 b o (fun q => by rw [q, hL0] at e; cases e) (F1.keep b o e), F.above⟩ fun b o hb e => k3 b o hb (k1 _ _ e)
end
end Mine
end

section
open PySem PySem.W PyProof.Rows PySem.Calls
set_option maxRecDepth 100000
set_option maxHeartbeats 8000000
namespace Mine
theorem list_keep1' {w : World} {h h' : Heap} {l q : Addr} {items its : Array Value} (H : h.IsList l items) (Hq : AccAt w h q its) (hk : ∀ b o, b ≠ q → h.get? b = some o → h'.get? b = some o) : h'.IsList l items :=
  H.at fun o e => hk _ o (by
    rintro rfl
    obtain ⟨o2, e3, hc, _⟩ := H
    obtain ⟨_, _, _, _, h1, _⟩ := Hq
    rw [e3] at h1; cases h1; cases hc) e
theorem list_keepI' {h h' : Heap} {l I : Addr} {items : Array Value} (H : h.IsList l items) (hI : FldAt h I) (hk : ∀ b o, b ≠ I → h.get? b = some o → h'.get? b = some o) : h'.IsList l items :=
  H.at fun o e => hk _ o (by
    rintro rfl
    obtain ⟨o1, fs, e1, e2⟩ := hI
    obtain ⟨o2, e3, _, n, e4⟩ := H
    rw [e1] at e3; cases e3; rw [e4] at e2; cases e2) e
theorem off_fr' {h₀ h h' : Heap} {L a : Addr} {m : Str → Option Value} (F : Fr h₀ L h m) (hk : ∀ b o, b ≠ a → h.get? b = some o → h'.get? b = some o) (hL : L ≠ a) (h0 : h₀.get? a = none) : Fr h₀ L h' m :=
  ⟨F.ns.at fun o e => hk _ o hL e, fun b o e => hk b o (fun q => by rw [q, h0] at e; cases e) (F.keep b o e), F.above⟩

/-- all that stands on the desk in the middle of a pass -/
structure Desk (w : World) (h₀ h : Heap) (L q : Addr) (m : Str → Option Value) (as : List Addr) (qs : List (Str × Str)) (rows : List (List (Str × Str)))
    (xs : List (Addr × Obj)) (ls : List (Addr × Array Value)) (ss : List (List Value × List (Str × Str))) : Prop where
  F : Fr h₀ L h m
  ini : m (Str.ofString "_initial_size") = none
  H : ∃ vs, AccAt w h q vs.toArray ∧ Sheet h vs qs
  M : RowsAt w h as rows
  X : ∀ p ∈ xs, h.get? p.1 = some p.2 ∧ ∃ fs, p.2.data = .fields fs
  Ls : ∀ p ∈ ls, h.IsList p.1 p.2
  S : ∀ p ∈ ss, Sheet h p.1 p.2
  nd : as.Nodup
  qas : q ∉ as
  q0 : h₀.get? q = none
  as0 : ∀ a ∈ as, h₀.get? a = none

section
variable {w : World} {h₀ h h' : Heap} {L q : Addr} {m : Str → Option Value} {as : List Addr} {qs : List (Str × Str)} {rows : List (List (Str × Str))}
    {xs : List (Addr × Obj)} {ls : List (Addr × Array Value)} {ss : List (List Value × List (Str × Str))}

theorem Desk.keeps (K : Desk w h₀ h L q m as qs rows xs ls ss) (hk : h.StaysIn h') : Desk w h₀ h' L q m as qs rows xs ls ss where
  F := ⟨K.F.ns.keeps hk, fun b o e => hk _ _ (K.F.keep b o e), K.F.above⟩
  ini := K.ini
  H := let ⟨vs, a, b⟩ := K.H; ⟨vs, a.keeps hk, b.keeps hk⟩
  M := K.M.keeps hk
  X := fun p hp => ⟨hk _ _ (K.X p hp).1, (K.X p hp).2⟩
  Ls := fun p hp => (K.Ls p hp).at fun o e => hk _ _ e
  S := fun p hp => (K.S p hp).keeps hk
  nd := K.nd
  qas := K.qas
  q0 := K.q0
  as0 := K.as0

theorem Desk.xL (K : Desk w h₀ h L q m as qs rows xs ls ss) {p : Addr × Obj} (hp : p ∈ xs) : p.1 ≠ L := by
  intro e
  obtain ⟨h1, fs, h2⟩ := K.X p hp
  obtain ⟨o, es, ep, h3, h4, _⟩ := K.F.ns
  rw [e, h3] at h1
  cases h1
  rw [h4] at h2; cases h2

theorem Desk.keepL {m' : Str → Option Value} (K : Desk w h₀ h L q m as qs rows xs ls ss) (F' : Fr h₀ L h' m') (ini' : m' (Str.ofString "_initial_size") = none)
    (hk : ∀ b o, b ≠ L → h.get? b = some o → h'.get? b = some o) : Desk w h₀ h' L q m' as qs rows xs ls ss where
  F := F'
  ini := ini'
  H := let ⟨vs, a, b⟩ := K.H; ⟨vs, a.keepL K.F K.ini hk, b.keepL K.F hk⟩
  M := K.M.keepL K.F K.ini hk
  X := fun p hp => ⟨hk _ _ (K.xL hp) (K.X p hp).1, (K.X p hp).2⟩
  Ls := fun p hp => (K.Ls p hp).at fun o e => hk _ _ (list_neL K.F (K.Ls p hp)) e
  S := fun p hp => (K.S p hp).keepL K.F hk
  nd := K.nd
  qas := K.qas
  q0 := K.q0
  as0 := K.as0

theorem Desk.keepI {I : Addr} (K : Desk w h₀ h L q m as qs rows xs ls ss) (hI : FldAt h I) (h0 : h₀.get? I = none) (hx : ∀ p ∈ xs, p.1 ≠ I)
    (hk : ∀ b o, b ≠ I → h.get? b = some o → h'.get? b = some o) : Desk w h₀ h' L q m as qs rows xs ls ss where
  F := off_fr' K.F hk (by
    rintro rfl
    obtain ⟨o1, fs, e1, e2⟩ := hI
    obtain ⟨o, es, ep, h3, h4, _⟩ := K.F.ns
    rw [e1] at h3; cases h3; rw [h4] at e2; cases e2) h0
  ini := K.ini
  H := let ⟨vs, a, b⟩ := K.H; ⟨vs, a.keepI hI hk, b.keepI hI hk⟩
  M := K.M.keepI hI hk
  X := fun p hp => ⟨hk _ _ (hx p hp) (K.X p hp).1, (K.X p hp).2⟩
  Ls := fun p hp => list_keepI' (K.Ls p hp) hI hk
  S := fun p hp => (K.S p hp).keepI hI hk
  nd := K.nd
  qas := K.qas
  q0 := K.q0
  as0 := K.as0

theorem x_acc {its : Array Value} {a : Addr} (Ha : AccAt w h a its) {p : Addr × Obj} (hp : h.get? p.1 = some p.2 ∧ ∃ fs, p.2.data = .fields fs) : p.1 ≠ a := by
  intro e
  obtain ⟨h1, fs, h2⟩ := hp
  obtain ⟨_, _, _, _, h3, _⟩ := Ha
  rw [e, h3] at h1; injection h1 with h1; rw [← h1] at h2; cases h2

/-- the sheet was changed -/
theorem Desk.setQ {its : Array Value} {vs' : List Value} {qs' : List (Str × Str)} (K : Desk w h₀ h L q m as qs rows xs ls ss) (Ha : AccAt w h q its) (hk : (h.hide q).StaysIn h') (H' : AccAt w h' q vs'.toArray) (S' : Sheet h' vs' qs') :
    Desk w h₀ h' L q m as qs' rows xs ls ss :=
  have hk' : ∀ b o, b ≠ q → h.get? b = some o → h'.get? b = some o := fun b o hb e => hk b o (by rw [Heap.hide_ne _ hb]; exact e)
  { F := off_fr' K.F hk' (acc_neL K.F Ha).symm K.q0
    ini := K.ini
    H := ⟨vs', H', S'⟩
    M := K.M.keep1 Ha K.qas hk
    X := fun p hp => ⟨hk' _ _ (x_acc Ha (K.X p hp)) (K.X p hp).1, (K.X p hp).2⟩
    Ls := fun p hp => list_keep1' (K.Ls p hp) Ha hk'
    S := fun p hp => (K.S p hp).keep1 Ha hk
    nd := K.nd
    qas := K.qas
    q0 := K.q0
    as0 := K.as0 }

/-- a row was changed -/
theorem Desk.setRow {its : Array Value} {vs' : List Value} {ps' : List (Str × Str)} {r : Nat} {a : Addr} (K : Desk w h₀ h L q m as qs rows xs ls ss) (hr : as[r]? = some a) (Ha : AccAt w h a its) (hk : (h.hide a).StaysIn h')
    (H' : AccAt w h' a vs'.toArray) (S' : Sheet h' vs' ps') : Desk w h₀ h' L q m as qs (rows.set r ps') xs ls ss :=
  have hk' : ∀ b o, b ≠ a → h.get? b = some o → h'.get? b = some o := fun b o hb e => hk b o (by rw [Heap.hide_ne _ hb]; exact e)
  have hma := List.mem_of_getElem? hr
  { F := off_fr' K.F hk' (acc_neL K.F Ha).symm (K.as0 a hma)
    ini := K.ini
    H := let ⟨vs, x, y⟩ := K.H; ⟨vs, x.keep1 Ha (fun e => K.qas (e ▸ hma)) hk, y.keep1 Ha hk⟩
    M := K.M.set K.nd hr Ha hk H' S'
    X := fun p hp => ⟨hk' _ _ (x_acc Ha (K.X p hp)) (K.X p hp).1, (K.X p hp).2⟩
    Ls := fun p hp => list_keep1' (K.Ls p hp) Ha hk'
    S := fun p hp => (K.S p hp).keep1 Ha hk
    nd := K.nd
    qas := K.qas
    q0 := K.q0
    as0 := K.as0 }

theorem Desk.addX {p : Addr × Obj} (K : Desk w h₀ h L q m as qs rows xs ls ss) (h1 : h.get? p.1 = some p.2) (h2 : ∃ fs, p.2.data = .fields fs) : Desk w h₀ h L q m as qs rows (p :: xs) ls ss :=
  { K with X := fun p' hp => (List.mem_cons.mp hp).elim (fun e => e ▸ ⟨h1, h2⟩) (K.X p') }
theorem Desk.addL {p : Addr × Array Value} (K : Desk w h₀ h L q m as qs rows xs ls ss) (h1 : h.IsList p.1 p.2) : Desk w h₀ h L q m as qs rows xs (p :: ls) ss :=
  { K with Ls := fun p' hp => (List.mem_cons.mp hp).elim (fun e => e ▸ h1) (K.Ls p') }
theorem Desk.addS {p : List Value × List (Str × Str)} (K : Desk w h₀ h L q m as qs rows xs ls ss) (h1 : Sheet h p.1 p.2) : Desk w h₀ h L q m as qs rows xs ls (p :: ss) :=
  { K with S := fun p' hp => (List.mem_cons.mp hp).elim (fun e => e ▸ h1) (K.S p') }
theorem Desk.dropX {p : Addr × Obj} (K : Desk w h₀ h L q m as qs rows (p :: xs) ls ss) : Desk w h₀ h L q m as qs rows xs ls ss := { K with X := fun p' hp => K.X p' (.tail _ hp) }
theorem Desk.dropL {p : Addr × Array Value} (K : Desk w h₀ h L q m as qs rows xs (p :: ls) ss) : Desk w h₀ h L q m as qs rows xs ls ss := { K with Ls := fun p' hp => K.Ls p' (.tail _ hp) }
theorem Desk.dropS {p : List Value × List (Str × Str)} (K : Desk w h₀ h L q m as qs rows xs ls (p :: ss)) : Desk w h₀ h L q m as qs rows xs ls ss := { K with S := fun p' hp => K.S p' (.tail _ hp) }
theorem Desk.names {m' : Str → Option Value} (K : Desk w h₀ h L q m as qs rows xs ls ss) (e : ∀ y, m y = m' y) : Desk w h₀ h L q m' as qs rows xs ls ss := (funext e : m = m') ▸ K
/-- what a walk has kept -/
theorem Desk.kb (K : Desk w h₀ h L q m as qs rows xs ls ss) {m' : Str → Option Value} (F' : Fr h₀ L h' m') (N' : News h₀ L h' (allAt h₀ L h)) (ini' : m' (Str.ofString "_initial_size") = none) : Desk w h₀ h' L q m' as qs rows xs ls ss :=
  K.keepL F' ini' (kept_same K.F F' N')
end

section
variable {prog : Program} {w : World} {A : Around} {E : Value → Shared → Prop} {s : Shared} {env : Env}

/-- for x in a list: -/
theorem name_loop {x : Str} {px : Pos} {body : List Stmt} {Q : Flow → Shared → Prop} {l : Addr} {items : Array Value} (J : Nat → Shared → Prop) (hh : A.handled = none) (hl : s.heap.IsList l items)
    (hJ : ∀ h' tk, s.heap.StaysIn h' → J 0 { s with heap := h', toks := tk })
    (stable : ∀ i s' h' tk, FldAt s'.heap s.heap.objs.size → J i s' → (∀ b o, b ≠ s.heap.objs.size → s'.heap.get? b = some o → h'.get? b = some o) → J i { s' with heap := h', toks := tk })
    (turn : ∀ i s' v, items[i]? = some v → J i s' → s'.heap.IsListIter s.heap.objs.size l (i + 1) → s'.heap.IsList l items →
      wpAny (model prog w) A (assign (.Name x px) env v) (fun _ s₂ => wpAny (model prog w) A (execs body env) (fun f s₃ => match f with
        | .next | .cont => J (i + 1) s₃ ∧ s₃.heap.IsListIter s.heap.objs.size l (i + 1) ∧ s₃.heap.IsList l items
        | .brk => False
        | .ret v => Q (.ret v) s₃) E s₂) E s')
    (done : ∀ s', J items.size s' → Q .next s') :
    wpAny (model prog w) A (pyIter (.ref l)) (fun it s₂ => LoopA prog w A env (.Name x px) body Q E it s₂) E s := by
  refine wpAny_pyIter_list hl ?_
  have k1 : s.heap.StaysIn (s.heap.push { cls := .type "list_iterator", data := .fields #[.ref l, .int 0 0] }) := fun b o e => Heap.get?_push_of_some _ e
  have hne : l ≠ s.heap.objs.size := by
    obtain ⟨o, ho, _⟩ := hl
    exact Nat.ne_of_lt (Heap.lt_size ho)
  refine ⟨_, _, _, _, _, _, J, rfl, Walks.list hh s.heap.objs.size l hne items, ⟨⟨_, Heap.get?_push_size _ rfl, rfl, rfl⟩, hl.at fun o e => k1 _ _ e⟩, hJ _ _ k1, ?_, ?_, ?_, done⟩
  · rintro i s' h' tk ⟨⟨o, ho, _, hd⟩, _⟩ j hk
    exact stable i s' h' tk ⟨o, _, ho, hd⟩ j fun b o hb e => hk b o (by simpa using hb) e
  · rintro i v s' Q' _ hq
    exact wpAny_of_eq (a := ()) rfl hq
  · rintro i s' v hi hv j ⟨st1, st2⟩
    exact turn i s' v hv j st1 st2
end
end Mine
end

section
open PySem PySem.W PyProof.Rows PySem.Calls
set_option maxRecDepth 100000
namespace Mine
/-- four names over any names -/
noncomputable abbrev n4 (m : Str → Option Value) (vr vl vc vp : Option Value) : Str → Option Value :=
  bindM (bindM (bindM (bindM m (Str.ofString "row") vr) (Str.ofString "letter") vl) (Str.ofString "column") vc) (Str.ofString "place") vp

theorem n4_pair (m : Str → Option Value) (vr vl vc vp : Option Value) (a b : Value) (y : Str) :
    (if y = Str.ofString "letter" then some b else if y = Str.ofString "column" then some a else n4 m vr vl vc vp y) = n4 m vr (some b) (some a) vp y := by
  have h1 : Str.ofString "letter" ≠ Str.ofString "place" := by decide
  have h2 : Str.ofString "column" ≠ Str.ofString "place" := by decide
  have h3 : Str.ofString "letter" ≠ Str.ofString "column" := by decide
  simp only [n4, bindM]
  by_cases e1 : y = Str.ofString "letter"
  · subst e1; simp [h1, h3]
  · by_cases e2 : y = Str.ofString "column"
    · subst e2; simp [h2, h3.symm]
    · simp [e1, e2]
theorem n4_row (m : Str → Option Value) (vr vl vc vp : Option Value) (a : Value) (y : Str) :
    (if y = Str.ofString "row" then some a else n4 m vr vl vc vp y) = n4 m (some a) vl vc vp y := by
  have h1 : Str.ofString "row" ≠ Str.ofString "place" := by decide
  have h2 : Str.ofString "row" ≠ Str.ofString "column" := by decide
  have h3 : Str.ofString "row" ≠ Str.ofString "letter" := by decide
  simp only [n4, bindM]
  by_cases e1 : y = Str.ofString "row"
  · subst e1; simp [h1, h2, h3]
  · simp [e1]
theorem n4_place (m : Str → Option Value) (vr vl vc vp : Option Value) (a : Value) (y : Str) :
    (if y = Str.ofString "place" then some a else n4 m vr vl vc vp y) = n4 m vr vl vc (some a) y := by
  simp only [n4, bindM]
  by_cases e1 : y = Str.ofString "place"
  · subst e1; simp
  · simp [e1]
theorem n4_start (m : Str → Option Value) (h1 : m (Str.ofString "row") = none) (h2 : m (Str.ofString "letter") = none) (h3 : m (Str.ofString "column") = none) (h4 : m (Str.ofString "place") = none) (y : Str) : m y = n4 m none none none none y := by
  simp only [n4, bindM]
  (repeat' split) <;> first | rfl | (subst_vars; assumption)
end Mine
end

section
open PySem PySem.W PyProof.Rows PySem.Calls
set_option maxRecDepth 100000
set_option maxHeartbeats 8000000
namespace Mine
noncomputable abbrev m1 (P d : Addr) : Str → Option Value := fun y => if y = Str.ofString "table" then some (.ref d) else List.lookup y [(Str.ofString "ports", .ref P)].reverse

noncomputable abbrev m2 (P d q : Addr) (wd : Int) (t5 : Tok) (vk : Option Value) : Str → Option Value := fun y =>
  if y = Str.ofString "sheet" then some (.ref q) else if y = Str.ofString "wide" then some (.int wd t5) else bindM (m1 P d) (Str.ofString "k") vk y

noncomputable abbrev m3 (P d q : Addr) (wd : Int) (t5 : Tok) (vk vk3 : Option Value) (ts : Tok) : Str → Option Value := fun y => if y = Str.ofString "signs" then some (.str (Str.ofString " -0123456789") ts) else bindM (m2 P d q wd t5 vk) (Str.ofString "k") vk3 y

noncomputable abbrev m4 (P d q D : Addr) (wd : Int) (t5 : Tok) (vk vk3 : Option Value) (ts : Tok) : Str → Option Value := fun z => if z = Str.ofString "rows" then some (.ref D) else m3 P d q wd t5 vk vk3 ts z

noncomputable abbrev m5 (P d q D : Addr) (wd : Int) (t5 : Tok) (vk vk3 : Option Value) (ts : Tok) (vr vl vc vp : Option Value) : Str → Option Value :=
  bindM (bindM (bindM (bindM (m4 P d q D wd t5 vk vk3 ts) (Str.ofString "row") vr) (Str.ofString "letter") vl) (Str.ofString "column") vc) (Str.ofString "place") vp


/-- a piece of a body: into the loops by their numbers, and some statements off -/
noncomputable def piece : List Nat → List Stmt → List Stmt
  | [], b => b
  | i :: p, b => match b.drop i with
    | .For _ _ body _ _ :: _ => piece p body
    | _ => []
end Mine
end

section
open PySem PySem.W PyProof.Rows PySem.Calls
set_option maxRecDepth 100000
set_option maxHeartbeats 8000000
namespace Mine
theorem fillWide (P : Params) : PySem.Challenge.rw_yh0005_01 = PySem.Challenge.rw_yh0005_01 → hd.heap_1 P = hd.heap_1 P := by
  k_fill
  intro _
  rfl


/-- what a port's value is -/
noncomputable def isPort (x : Option Int) (v : Value) : Prop := match x with
  | none => v = .none
  | some p => ∃ u, v = .int p u

section
variable {prog : Program} {w : World} {A : Around} {E : Value → Shared → Prop} {s : Shared} {env : Env}

/-- a list, walked by a comprehension -/
theorem comp_list {scope : Scope} {x : Str} {ifs : List Expr} {elt : Expr} {Q : Value → Shared → Prop} {P : Addr} {items : Array Value} (p : Value → Bool) (F : Value → Value → Prop) (hh : A.handled = none) (hl : s.heap.IsList P items) (hsz : items.size ≤ sizeLine)
    (ht : ∀ C v s₃ m₃ E', v ∈ items.toList → s₃.heap.Ns C m₃ → m₃ x = some v → s.heap.StaysIn s₃.heap →
      wpAny (model prog w) A (forIn ifs true fun c r => if r = true then do let ok ← isTrue c (compEnv scope C env) (eval c (compEnv scope C env)); pure (ForInStep.yield ok) else pure (ForInStep.yield r))
        (fun ok s₄ => ok = p v ∧ Keeps s₃ s₄) E' s₃)
    (he : ∀ C v s₃ m₃ E', v ∈ items.toList → p v = true → s₃.heap.Ns C m₃ → m₃ x = some v → s.heap.StaysIn s₃.heap →
      wpAny (model prog w) A (eval elt (compEnv scope C env)) (fun y s₄ => F v y ∧ Keeps s₃ s₄) E' s₃)
    (hq : ∀ D h' tk ys n, s.heap.get? D = none → h'.get? D = some (W.listOf ys n) → Paired F (items.toList.filter p) ys.toList → s.heap.StaysIn h' → Q (.ref D) { s with heap := h', toks := tk }) :
    wpAny (model prog w) A (pyIter (.ref P)) (CompPost prog w A env scope x ifs elt Q) E s := by
  refine wpAny_pyIter_list hl ?_
  have k1 : s.heap.StaysIn (s.heap.push { cls := .type "list_iterator", data := .fields #[.ref P, .int 0 0] }) := fun b o e => Heap.get?_push_of_some _ e
  have hne : P ≠ s.heap.objs.size := by
    obtain ⟨o, ho, _⟩ := hl
    exact Nat.ne_of_lt (Heap.lt_size ho)
  have old : ∀ {b o}, s.heap.get? b = some o → b ∉ [s.heap.objs.size] := fun {b o} e hm => Nat.ne_of_lt (Heap.lt_size e) (List.mem_singleton.mp hm)
  refine ⟨p, F, s.heap.objs.size, [s.heap.objs.size, P], [s.heap.objs.size], items.size, _, _, rfl, Walks.list hh _ P hne items, hsz, ⟨⟨_, Heap.get?_push_size _ rfl, rfl, rfl⟩, hl.at fun o e => k1 _ _ e⟩, ?_, ⟨?_, ?_⟩, ?_⟩
  · intro b hb
    rw [Heap.size_push]
    rcases List.mem_cons.mp hb with rfl | hb
    · exact Nat.lt_succ_self _
    · rw [List.mem_singleton.mp hb]
      obtain ⟨o, ho, _⟩ := hl
      exact Nat.lt_succ_of_lt (Heap.lt_size ho)
  · intro C i v s₃ m₃ E' hv hn hm hk _
    exact ht C v s₃ m₃ E' (List.mem_of_getElem? (by simpa using hv)) hn hm fun b o e => hk b o (old e) (k1 _ _ e)
  · intro C i v s₃ m₃ E' hv hp hn hm hk _
    exact he C v s₃ m₃ E' (List.mem_of_getElem? (by simpa using hv)) hp hn hm fun b o e => hk b o (old e) (k1 _ _ e)
  · intro D h' tk ys vs hD _ hpl hlen hP hF hk
    obtain ⟨n, hn⟩ := hpl
    have hvs : vs = items.toList := by
      apply List.ext_getElem?
      intro j
      by_cases hj : j < vs.length
      · have := hP j vs[j] (List.getElem?_eq_getElem hj)
        rw [List.getElem?_eq_getElem hj]
        simpa using this.symm
      · rw [List.getElem?_eq_none (Nat.le_of_not_lt hj), List.getElem?_eq_none (by simp; omega)]
    rw [hvs] at hF
    refine hq D h' tk ys n ?_ hn hF fun b o e => hk b o (old e) (k1 _ _ e)
    cases e : s.heap.get? D with
    | none => rfl
    | some o => rw [k1 _ _ e] at hD; cases hD
end

theorem name_local' {prog : Program} {w : World} {A : Around} {E : Value → Shared → Prop} {s : Shared} {env : Env} {x : Str} {v : Value} {pos : Pos} {m : Str → Option Value} {Q : Value → Shared → Prop} (hn : s.heap.Ns env.locals m) (hv : m x = some v) (h : Q v s)
    (hk : env.scope.kind = .function) (hx : env.kindOf x = some .local) (hd : (x == ("__debug__" : Str)) = false) : wpAny (model prog w) A (eval (.Name x pos) env) Q E s :=
  wpAny_Name (wpAny_loadName_local hk hx hn hv h) hd

theorem isList_mk {h : Heap} {a : Addr} {ys : Array Value} {n : Nat} (e : h.get? a = some (W.listOf ys n)) : h.IsList a ys := ⟨_, e, rfl, _, rfl⟩

theorem add_new {h₀ h h' : Heap} {L D : Addr} {m : Str → Option Value} {news : List (Addr × Obj)} {o : Obj} (F : Fr h₀ L h m) (N : News h₀ L h news) (hk : h.StaysIn h') (hD : h.get? D = none) (ho : h'.get? D = some o) :
    Fr h₀ L h' m ∧ News h₀ L h' ((D, o) :: news) := by
  refine ⟨⟨F.ns.keeps hk, fun b o e => hk _ _ (F.keep b o e), F.above⟩, fun p hp => ?_⟩
  rcases List.mem_cons.mp hp with rfl | hp
  · refine ⟨ho, ?_, ?_⟩
    · rintro rfl
      obtain ⟨oL, es, ep, hL, _⟩ := F.ns
      rw [hL] at hD; cases hD
    · cases e : h₀.get? D with
      | none => rfl
      | some o' => rw [F.keep _ _ e] at hD; cases hD
  · exact ⟨hk _ _ (N p hp).1, (N p hp).2⟩

theorem port_val {ps : List (Option Int)} {items : List Value} (h : Paired isPort ps items) : ∀ {v : Value}, v ∈ items → v = .none ∨ ∃ p u, v = .int p u := by
  induction h with
  | nil => intro v hv; cases hv
  | @cons a b as bs h t ih =>
    intro v hv
    rcases List.mem_cons.mp hv with rfl | hv
    · cases a with
      | none => exact .inl h
      | some p => exact .inr ⟨p, h⟩
    · exact ih hv
theorem ints_of_ports {ps : List (Option Int)} {items : List Value} (h : Paired isPort ps items) : ∀ {us : List Value}, Paired (fun v y => y = v) (items.filter (fun v => v != .none)) us → IntsAre us (ps.filterMap id) := by
  induction h with
  | nil => intro us hF; cases hF; exact .nil
  | @cons a b as bs h t ih =>
    intro us hF
    cases a with
    | none =>
      have e : b = .none := h
      subst e
      exact ih hF
    | some p =>
      obtain ⟨u, e⟩ : ∃ u, b = .int p u := h
      subst e
      cases hF with
      | cons h1 h2 =>
        subst h1
        exact .cons _ _ (ih h2)
section
variable {prog : Program} {w : World} {A : Around} {E : Value → Shared → Prop} {Q : Flow → Shared → Prop} {s : Shared} {env : Env} {h₀ : Heap} {L : Addr}
/-- a counting loop whose counter is bounded in its test -/
theorem while_bound {i : Str} {test : Expr} {body : List Stmt} {pos : Pos} {m : Str → Option Value} {news : List (Addr × Obj)} {k₀ K : Int} {t₀ : Tok} (c : Int → Bool)
    (F : Fr h₀ L s.heap m) (N : News h₀ L s.heap news) (hmi : m i = some (.int k₀ t₀)) (hK : k₀ ≤ K) (hc : c K = false)
    (gtest : ∀ k t h₁ tk₁, k₀ ≤ k → k ≤ K → Fr h₀ L h₁ (bindM m i (some (.int k t))) → News h₀ L h₁ news →
      wpAny (model prog w) A (isTrue test env (eval test env)) (fun b s₂ => b = c k ∧ Keeps { s with heap := h₁, toks := tk₁ } s₂) E { s with heap := h₁, toks := tk₁ })
    (gturn : ∀ k t h₁ tk₁, k₀ ≤ k → k < K → Fr h₀ L h₁ (bindM m i (some (.int k t))) → News h₀ L h₁ news →
      wpAny (model prog w) A (execs body env) (CntStep h₀ L s m i news (k + 1)) E { s with heap := h₁, toks := tk₁ })
    (done : ∀ k t h' tk, k₀ ≤ k → k ≤ K → (∀ j, k₀ ≤ j → j < k → c j = true) → c k = false → Fr h₀ L h' (bindM m i (some (.int k t))) → News h₀ L h' news → Q .next { s with heap := h', toks := tk })
    (hE : PassesOwn (model prog w) A env E := by passes_own) :
    wpAny (model prog w) A (exec (.While test body [] pos) env) Q E s := by
  have hm0 : m = bindM m i (some (.int k₀ t₀)) := by rw [← hmi]; exact bindM_start m i
  refine While_inv (n₀ := (K - k₀).toNat) (fun n m₁ news₁ => ∃ k t, k₀ ≤ k ∧ k ≤ K ∧ (∀ j, k₀ ≤ j → j < k → c j = true) ∧ m₁ = bindM m i (some (.int k t)) ∧ news = news₁ ∧ n = (K - k).toNat)
    F N ⟨k₀, t₀, Int.le_refl _, hK, fun j h1 h2 => absurd h2 (by omega), hm0, rfl, rfl⟩ ?_ hE
  rintro n m₁ news₁ h₁ tk₁ F₁ N₁ ⟨k, t, hk, hkK, hall, rfl, rfl, rfl⟩
  refine wpAny_mono (gtest k t h₁ tk₁ hk hkK F₁ N₁) (fun b s₂ h₂ => ?_) fun _ _ e => e
  obtain ⟨rfl, h', tk, rfl, keep⟩ := h₂
  have F₂ : Fr h₀ L h' (bindM m i (some (.int k t))) := ⟨F₁.ns.keeps keep, fun b o e => keep b o (F₁.keep b o e), F₁.above⟩
  have N₂ : News h₀ L h' news := fun p hp => ⟨keep _ _ (N₁ p hp).1, (N₁ p hp).2⟩
  by_cases hck : c k = true
  · rw [if_pos hck]
    have hlt : k < K := by
      rcases Int.lt_or_eq_of_le hkK with h | h
      · exact h
      · rw [h, hc] at hck; cases hck
    refine wpAny_mono (gturn k t h' tk hk hlt F₂ N₂) (fun f s₃ h₃ => ?_) fun _ _ e => e
    obtain ⟨rfl, h'', tk'', t', rfl, F₃, N₃⟩ := h₃
    refine WhileStep.intro F₃ N₃ (n' := (K - (k + 1)).toNat) (by omega) ⟨k + 1, t', by omega, by omega, fun j h1 h2 => ?_, rfl, rfl, rfl⟩
    by_cases hj : j < k
    · exact hall j h1 hj
    · rw [show j = k by omega]; exact hck
  · rw [if_neg hck]
    exact done k t h' tk hk hkK hall (by simpa using hck) F₂ N₂
end

/-- the greatest port, or 0 -/
noncomputable def greatest (ps : List (Option Int)) : Int := ps.foldr (fun x m => max (x.getD 0) m) 0
/-- the column's width -/
noncomputable def widthOf (M : Int) (b : Bool) : Int := if M = 0 then 0 else if M < 1000 then (if b then 4 else 3) else if M < 10000 then 4 else 5
noncomputable def wideOf (ps : List (Option Int)) : Int := widthOf (greatest ps) (ps.any (·.isNone))

theorem greatest_ge : ∀ {ps : List (Option Int)}, 0 ≤ greatest ps ∧ ∀ a ∈ ps.filterMap id, a ≤ greatest ps
  | [] => ⟨Int.le_refl _, fun a h => nomatch h⟩
  | none :: ps => by
    have ⟨h1, h2⟩ := greatest_ge (ps := ps)
    show 0 ≤ max 0 (greatest ps) ∧ ∀ a ∈ ps.filterMap id, a ≤ max 0 (greatest ps)
    rw [Int.max_eq_right h1]
    exact ⟨h1, h2⟩
  | some p :: ps => by
    have ⟨h1, h2⟩ := greatest_ge (ps := ps)
    show 0 ≤ max p (greatest ps) ∧ ∀ a ∈ p :: ps.filterMap id, a ≤ max p (greatest ps)
    refine ⟨Int.le_trans h1 (Int.le_max_right _ _), fun a ha => ?_⟩
    rcases List.mem_cons.mp ha with rfl | ha
    · exact Int.le_max_left _ _
    · exact Int.le_trans (h2 a ha) (Int.le_max_right _ _)
theorem greatest_mem : ∀ {ps : List (Option Int)}, greatest ps = 0 ∨ greatest ps ∈ ps.filterMap id
  | [] => .inl rfl
  | none :: ps => by
    have h1 := (greatest_ge (ps := ps)).1
    show max 0 (greatest ps) = 0 ∨ max 0 (greatest ps) ∈ ps.filterMap id
    rw [Int.max_eq_right h1]
    exact greatest_mem
  | some p :: ps => by
    show max p (greatest ps) = 0 ∨ max p (greatest ps) ∈ p :: ps.filterMap id
    rcases Int.le_total p (greatest ps) with h | h
    · rw [Int.max_eq_right h]
      rcases greatest_mem (ps := ps) with e | e
      · exact .inl e
      · exact .inr (List.mem_cons_of_mem _ e)
    · rw [Int.max_eq_left h]
      exact .inr List.mem_cons_self
theorem greatest_eq {ps : List (Option Int)} {M : Int} (h1 : M ∈ [0] ++ ps.filterMap id) (h2 : ∀ a, a ∈ [0] ++ ps.filterMap id → a ≤ M) : M = greatest ps := by
  apply Int.le_antisymm
  · rcases List.mem_append.mp h1 with h | h
    · rw [List.mem_singleton.mp h]; exact greatest_ge.1
    · exact greatest_ge.2 _ h
  · rcases greatest_mem (ps := ps) with e | e
    · rw [e]; exact h2 0 (by simp)
    · exact h2 _ (List.mem_append_right _ e)

theorem port_any : ∀ {ps : List (Option Int)} {items : List Value}, Paired isPort ps items → (items.toArray.any fun v => v == .none) = ps.any (·.isNone) := by
  intro ps items h
  rw [List.any_toArray]
  induction h with
  | nil => rfl
  | @cons a b l₁ l₂ h _ ih =>
    rw [List.any_cons, List.any_cons, ih]
    congr 1
    cases a with
    | none => have e : b = .none := h; subst e; rfl
    | some p => obtain ⟨u, e⟩ : ∃ u, b = .int p u := h; subst e; rfl

theorem fin_wide {R : Result → Shared → Prop} {s : Shared} {ps : List (Option Int)} {h' : Heap} {L : Addr} {m : Str → Option Value} {t tk : Tok} {k : Int}
    (h : ∀ h' tk t', s.heap.StaysIn h' → R (.ok (.ret (.int (wideOf ps) t'))) { s with heap := h', toks := tk }) (F : Fr s.heap L h' m) (e : wideOf ps = k) :
    R (.ok (.ret (.int k t))) { s with heap := h', toks := tk } := e ▸ h h' tk t F.keep

theorem wide_zero {ps : List (Option Int)} {M : Int} (h1 : M ∈ [0] ++ ps.filterMap id) (h2 : ∀ a, a ∈ [0] ++ ps.filterMap id → a ≤ M) (e : M = 0) : wideOf ps = 0 := by
  have := greatest_eq h1 h2
  unfold wideOf widthOf
  rw [← this, if_pos e]

theorem wide_other {ps : List (Option Int)} {M k : Int} (h1 : M ∈ [0] ++ ps.filterMap id) (h2 : ∀ a, a ∈ [0] ++ ps.filterMap id → a ≤ M) (e : M ≠ 0) (hk : k ≠ 3) (hk1 : 3 ≤ k) (hk2 : k ≤ 5)
    (hall : ∀ j, 3 ≤ j → j < k → decide (10 ^ j.toNat ≤ M) = true) (hck : decide (10 ^ k.toNat ≤ M) = false) : wideOf ps = k := by
  have := greatest_eq h1 h2
  unfold wideOf widthOf
  rw [← this, if_neg e]
  have a3 := hall 3 (Int.le_refl _) (by omega)
  have b3 : (1000 : Int) ≤ M := of_decide_eq_true a3
  rw [if_neg (by omega)]
  obtain rfl | rfl : k = 4 ∨ k = 5 := by omega
  · have b4 : ¬ (10000 : Int) ≤ M := of_decide_eq_false hck
    rw [if_pos (by omega)]
  · have b4 : (10000 : Int) ≤ M := of_decide_eq_true (hall 4 (by omega) (by omega))
    rw [if_neg (by omega)]

theorem wide_three {ps : List (Option Int)} {M k : Int} {b : Bool} {r : Int} (h1 : M ∈ [0] ++ ps.filterMap id) (h2 : ∀ a, a ∈ [0] ++ ps.filterMap id → a ≤ M) (e : M ≠ 0) (hk : k = 3)
    (hck : decide (10 ^ k.toNat ≤ M) = false) (hb : ps.any (·.isNone) = b) (hr : r = if b then 4 else 3) : wideOf ps = r := by
  have := greatest_eq h1 h2
  unfold wideOf widthOf
  subst hk
  have b3 : ¬ (1000 : Int) ≤ M := of_decide_eq_false hck
  rw [← this, if_neg e, if_pos (by omega), hb, hr]

theorem wide_spec (w : World) {A : Around} {s : Shared} {R : Result → Shared → Prop} {mean : ExcName → Option Value} {mg mb : Str → Option Value} {P : Addr} {items : List Value} {ps : List (Option Int)}
    (C : Cx w mean mg mb s.heap) (hroom : A.depth ≤ 500) (hl : s.heap.IsList P items.toArray) (hc : Paired isPort ps items) (hh : A.handled = none) (hsz : ps.length ≤ 100) (hb : ∀ p, some p ∈ ps → 0 ≤ p ∧ p < 100000)
    (h : ∀ h' tk t', s.heap.StaysIn h' → R (.ok (.ret (.int (wideOf ps) t'))) { s with heap := h', toks := tk }) :
    codeAny (model PySem.Challenge.rw_yh0005_01.row.prog w) A (.call (.ref 186) ⟨[.ref P], []⟩) R s := by
  have X' := C.X
  refine' enter C (fun _ _ e => e) (Nat.le_refl _) ?k1 ?k2 (Nat.lt_of_le_of_lt hroom (by decide)) ?k3 ?k4 ?k5 ?k6 ?k7 ?k8 ?_
  (case k1 => k_is)
  (case k2 => k_is)
  (case k3 => exact BindsTo.of_eq rfl)
  (case k4 => exact locs rfl)
  (case k5 => decide)
  (case k6 => exact rfl)
  (case k7 => exact rfl)
  (case k8 => exact rfl)
  intro L h₁ hL F' hk₁
  have N' : News s.heap L h₁ [] := News.nil
  have T' := C.T
  (try dsimp only)
  (try k_fold)
  k_steps
  refine comp_list (fun v => v != .none) (fun v y => y = v) (by exact hh) (by first | exact IsList.keeps hl (Fr.keep (by assumption)) | exact hl.at fun o e => (Fr.keep (by assumption)) _ o e) ?_ ?_ ?_ ?_
  · have := hc.length
    simp only [List.size_toArray]
    exact Nat.le_trans (Nat.le_of_eq this.symm) (Nat.le_trans hsz (by decide))
  · intro C v s₃ m₃ E' hv hn hm hk
    rw [List.forIn_cons, if_pos rfl]
    refine wpAny_bind (wpAny_bind (wpAny_isTrue_Compare1 (name_local' hn hm (wpAny_Constant_none ?_) (by rfl) (by rfl) (by decide))))
    have hpl : plainIs v .none = true := by
      rcases port_val hc (by simpa using hv) with rfl | ⟨p, u, rfl⟩ <;> rfl
    refine wpAny_isNot_plain hpl (wpAny_truthy_bool (wpAny_pure ?_))
    dsimp only
    rw [List.forIn_nil]
    exact wpAny_pure ⟨rfl, _, _, rfl, fun _ _ e => e⟩
  · intro C v s₃ m₃ E' hv hp hn hm hk
    exact name_local' hn hm ⟨rfl, _, _, rfl, fun _ _ e => e⟩ (by rfl) (by rfl) (by decide)
  · intro D h' tk ys n hD hget hF hk
    obtain ⟨us, rfl⟩ : ∃ us : List Value, ys = us.toArray := ⟨ys.toList, by simp⟩
    have hI := ints_of_ports hc hF
    obtain ⟨F', N'⟩ := add_new (by assumption) (by assumption) hk hD hget
    refine kmk_add_ints F' N' (isList_mk (N'.get (.tail _ (.head _)))) (isList_mk (N'.get (.head _))) (.cons 0 _ .nil) hI ?_ ?_
    · intro D2 ws h2 F' N' l1 hI'
      refine spliced_none ?_
      refine' kso_max ?F ?N ?l hI' ?ne ?hh ?_
      (case F => exact F')
      (case N => exact N')
      (case l => exact isList_mk (N'.get (.head _)))
      (case ne => simp)
      (case hh => exact hh)
      intro h3 M t3 tk3 F' N' hM hmax
      have hM0 : 0 ≤ M := hmax 0 (by simp)
      have hM1 : M < 100000 := by
        rcases List.mem_append.mp hM with h0 | h0
        · rw [List.mem_singleton.mp h0]; decide
        · obtain ⟨x, hx, e⟩ := List.mem_filterMap.mp h0
          cases x with
          | none => cases e
          | some q => cases e; exact (hb M hx).2
      repeat' ((fail_if_success (with_reducible show wpAny _ _ (exec (Stmt.While _ _ _ _) _) _ _ _)); walk1)
      · dsimp only
        exact fin_wide (s := s) h (by assumption) (wide_zero hM hmax (by assumption))
      · refine while_bound (i := Str.ofString "wide") (k₀ := 3) (K := 5) (fun k => decide (10 ^ k.toNat ≤ M)) (by assumption) (by assumption) (by rfl) (by decide) (by simpa using hM1) ?_ ?_ ?_
        · intro k t h₁ tk₁ hk1 hk2 F' N'
          obtain rfl | rfl | rfl : k = 3 ∨ k = 4 ∨ k = 5 := by omega
          all_goals k_steps
          all_goals exact ⟨_, _, rfl, fun _ _ e => e⟩
        · intro k t h₁ tk₁ hk1 hk2 F' N'
          k_steps
        · intro k t h' tk hk1 hk2 hall hck F' N'
          dsimp only
          k_steps
          · refine PySem.SeqAt.in_listAt (fun v => v == .none) (by exact hl.at fun o e => (Fr.keep (by assumption)) _ o e) ?_ ?_
            · intro y hy
              rcases port_val hc (by simpa using hy) with rfl | ⟨p, u, rfl⟩
              · exact PySem.SeqAt.EqAt.same _
              · exact PySem.SeqAt.EqAt.int_none _ _
            · dsimp only
              have hany : (items.toArray.any fun v => v == .none) = ps.any (·.isNone) := port_any hc
              rw [hany]
              k_steps
              · dsimp only
                exact fin_wide (s := s) h (by assumption) (wide_three hM hmax (by assumption) (by assumption) hck (by assumption) rfl)
              · dsimp only
                exact fin_wide (s := s) h (by assumption) (wide_three hM hmax (by assumption) (by assumption) hck (by first | assumption | (simpa using (by assumption : ¬ _ = true))) (by assumption))
          · dsimp only
            exact fin_wide (s := s) h (by assumption) (wide_other hM hmax (by assumption) (by assumption) hk1 hk2 hall hck)
    · have h1 := List.length_filterMap_le (id : Option Int → Option Int) ps
      simp only [List.length_cons, List.length_nil]
      exact Nat.le_trans (Nat.add_le_add_left (Nat.le_trans h1 hsz) _) (by decide)
end Mine
end

section
open PySem PySem.W PyProof.Rows PySem.Calls
set_option maxRecDepth 100000
set_option maxHeartbeats 4000000
namespace Mine
theorem units_lt {u k : Nat} (hu : u ≤ 1000) (hk : k ≤ 8000) : u + 3 + k < cLine := Nat.lt_of_le_of_lt (Nat.add_le_add (Nat.add_le_add_right hu 3) hk) (by decide)
noncomputable abbrev r0 (P0 : Addr) : Str → Option Value := fun y => List.lookup y [(Str.ofString "numbers", .ref P0)].reverse
noncomputable abbrev r4 (m : Str → Option Value) (vx vr vd vp : Option Value) : Str → Option Value :=
  bindM (bindM (bindM (bindM m (Str.ofString "x") vx) (Str.ofString "reply") vr) (Str.ofString "due") vd) (Str.ofString "port") vp
theorem r4_x (m : Str → Option Value) (vx vr vd vp : Option Value) (a : Value) (y : Str) : (if y = Str.ofString "x" then some a else r4 m vx vr vd vp y) = r4 m (some a) vr vd vp y := by
  have h1 : Str.ofString "x" ≠ Str.ofString "reply" := by decide
  have h2 : Str.ofString "x" ≠ Str.ofString "due" := by decide
  have h3 : Str.ofString "x" ≠ Str.ofString "port" := by decide
  simp only [r4, bindM]
  by_cases e1 : y = Str.ofString "x"
  · subst e1; simp [h1, h2, h3]
  · simp [e1]
theorem r4_three (m : Str → Option Value) (vx vr vd vp : Option Value) (a b c : Value) (y : Str) :
    (if y = Str.ofString "port" then some c else if y = Str.ofString "due" then some b else if y = Str.ofString "reply" then some a else r4 m vx vr vd vp y) = r4 m vx (some a) (some b) (some c) y := by
  have h1 : Str.ofString "reply" ≠ Str.ofString "due" := by decide
  have h2 : Str.ofString "reply" ≠ Str.ofString "port" := by decide
  have h3 : Str.ofString "due" ≠ Str.ofString "port" := by decide
  simp only [r4, bindM]
  by_cases e1 : y = Str.ofString "port"
  · subst e1; simp
  · by_cases e2 : y = Str.ofString "due"
    · subst e2; simp [h3]
    · by_cases e3 : y = Str.ofString "reply"
      · subst e3; simp [h1, h2]
      · simp [e1, e2, e3]
theorem r4_start (m : Str → Option Value) (h1 : m (Str.ofString "x") = none) (h2 : m (Str.ofString "reply") = none) (h3 : m (Str.ofString "due") = none) (h4 : m (Str.ofString "port") = none) (y : Str) : m y = r4 m none none none none y := by
  simp only [r4, bindM]
  (repeat' split) <;> first | rfl | (subst_vars; assumption)

section
variable {prog : Program} {w : World} {A : Around} {E : Value → Shared → Prop} {s : Shared} {env : Env}
/-- xa, xb, xc = a tuple of three -/
theorem three_assign {xa xb xc : Str} {pa pb pc pt : Pos} {kt : Nat} {h₀ : Heap} {T : Addr} {m : Str → Option Value} {v1 v2 v3 : Value} {Q : Unit → Shared → Prop} (hh : A.handled = none) (F : Fr h₀ env.locals s.heap m) (hT : s.heap.IsTuple T #[v1, v2, v3])
    (ha : env.kindOf xa = some .local) (hb : env.kindOf xb = some .local) (hc : env.kindOf xc = some .local) (hp : (env.scope.kind == .class || (env.scope.kind == .module && env.locals != env.globals)) = false)
    (h : ∀ h' tk, Fr h₀ env.locals h' (fun z => if z = xc then some v3 else if z = xb then some v2 else if z = xa then some v1 else m z) → (∀ b o, b ≠ env.locals → s.heap.get? b = some o → h'.get? b = some o) → Q () { s with heap := h', toks := tk }) :
    wpAny (model prog w) A (assign (.Tuple [.Name xa pa, .Name xb pb, .Name xc pc] kt pt) env (.ref T)) Q E s := by
  have hLs : env.locals < s.heap.objs.size := F.ns.lt
  refine wpAny_assign_Tuple hh hT (by rfl) (by rfl) fun h₁ he => ?_
  have k1 : s.heap.StaysIn h₁ := fun b o e => he b o (Nat.ne_of_lt (Heap.lt_size e)) e
  have F1 : Fr h₀ env.locals h₁ m := ⟨F.ns.keeps k1, fun b o e => k1 _ _ (F.keep b o e), F.above⟩
  have hL0 : h₀.get? env.locals = none := Heap.get?_none_of_le F.above
  show wpAny _ _ (assignInOrder [assign (.Name xa pa) env, assign (.Name xb pb) env, assign (.Name xc pc) env] [v1, v2, v3]) _ _ _
  simp only [assignInOrder]
  refine wpAny_bind (wpAny_holding (wpAny_assign_Name (wpAny_storeName_local ha F1.ns (fun h₂ hn₂ hs₂ => ?_) hp)))
  refine wpAny_bind (wpAny_holding (wpAny_assign_Name (wpAny_storeName_local hb (by exact hn₂) (fun h₃ hn₃ hs₃ => ?_) hp)))
  refine wpAny_bind (wpAny_holding (wpAny_assign_Name (wpAny_storeName_local hc (by exact hn₃) (fun h₄ hn₄ hs₄ => wpAny_pure ?_) hp)))
  have k3 : ∀ b o, b ≠ env.locals → h₁.get? b = some o → h₄.get? b = some o := fun b o hb e => hs₄.extBut b o hb (hs₃.extBut b o hb (hs₂.extBut b o hb e))
  exact h h₄ _ ⟨hn₄, fun b o e => k3 b o (fun q => by rw [q, hL0] at e; cases e) (F1.keep b o e), F.above⟩ fun b o hb e => k3 b o hb (k1 _ _ e)
end

/-- the list of ports -/
structure Ports (h : Heap) (Pp : Addr) (ps : List (Option Int)) : Prop where
  ex : ∃ items : List Value, PlainL h Pp items.toArray ∧ Paired isPort ps items
  bound : ∀ p, some p ∈ ps → 0 ≤ p ∧ p < 100000

theorem cell_keep {h h' : Heap} {c : Addr} {v : Option Value} (H : h.IsCell c v) (e : ∀ o, h.get? c = some o → h'.get? c = some o) : h'.IsCell c v := let ⟨o, a, b⟩ := H; ⟨o, e _ a, b⟩
theorem cell_keepI {h h' : Heap} {c I : Addr} {v : Option Value} (H : h.IsCell c v) (hI : FldAt h I) (hk : ∀ b o, b ≠ I → h.get? b = some o → h'.get? b = some o) : h'.IsCell c v :=
  cell_keep H fun o e => hk _ o (by
    rintro rfl
    obtain ⟨o1, fs, e1, e2⟩ := hI
    obtain ⟨o2, e3, e4⟩ := H
    rw [e1] at e3; cases e3; rw [e4] at e2; cases e2) e
theorem cell_list {h : Heap} {c l : Addr} {v : Option Value} {items : Array Value} (H : h.IsCell c v) (hl : h.IsList l items) : c ≠ l := by
  rintro rfl
  obtain ⟨o1, e1, _, n, e2⟩ := hl
  obtain ⟨o2, e3, e4⟩ := H
  rw [e1] at e3; cases e3; rw [e4] at e2; cases e2
/-- the two cells of _law_right -/
noncomputable def Cells2 (h : Heap) (L : Addr) (v1 v2 : Option Value) : Prop := h.IsCell (L + 1) v1 ∧ h.IsCell (L + 2) v2
theorem Cells2.at {h h' : Heap} {L : Addr} {v1 v2 : Option Value} (X : Cells2 h L v1 v2) (e : ∀ b o, b ≠ L → h.get? b = some o → h'.get? b = some o) : Cells2 h' L v1 v2 :=
  ⟨cell_keep X.1 fun o q => e _ _ (Nat.ne_of_gt (Nat.lt_succ_self L)) q, cell_keep X.2 fun o q => e _ _ (Nat.ne_of_gt (Nat.lt_succ_of_lt (Nat.lt_succ_self L))) q⟩
theorem Cells2.keepI {h h' : Heap} {L I : Addr} {v1 v2 : Option Value} (X : Cells2 h L v1 v2) (hI : FldAt h I) (hk : ∀ b o, b ≠ I → h.get? b = some o → h'.get? b = some o) : Cells2 h' L v1 v2 :=
  ⟨cell_keepI X.1 hI hk, cell_keepI X.2 hI hk⟩
theorem fr_ex {h₀ h : Heap} {L : Addr} {m m' : Str → Option Value} (F : Fr h₀ L h m) (e : ∀ y, m y = m' y) : Fr h₀ L h m' := (funext e : m = m') ▸ F
theorem Shape.keeps {p : Int} {h h' : Heap} {reply : Str} {due port : Value} (S : Shape p h reply due port) (hk : ∀ T its, h.IsTuple T its → h'.IsTuple T its) : Shape p h' reply due port := by
  cases S with
  | code t => exact .code t
  | s0 t => exact .s0 t
  | s1 t => exact .s1 t
  | s2 t => exact .s2 t
  | s3 t => exact .s3 t
  | good T t u k hT => exact .good T t u k (hk _ _ hT)
  | bang T t u k hT => exact .bang T t u k (hk _ _ hT)
theorem Shape.port {p : Int} {h : Heap} {reply : Str} {due port : Value} (S : Shape p h reply due port) : isPort none port ∨ isPort (some p) port := by
  cases S <;> first | exact .inl rfl | exact .inr ⟨_, rfl⟩
theorem tuple_neL {h₀ h : Heap} {L a : Addr} {m : Str → Option Value} {items : Array Value} (F : Fr h₀ L h m) (H : h.IsTuple a items) : a ≠ L := by
  rintro rfl
  obtain ⟨o, h1, _, n, h1'⟩ := H
  obtain ⟨o', es, ep, h2, h3, _⟩ := F.ns
  rw [h1] at h2; cases h2; rw [h1'] at h3; cases h3
theorem tuple_at {h h' : Heap} {a : Addr} {items : Array Value} (H : h.IsTuple a items) (e : ∀ o, h.get? a = some o → h'.get? a = some o) : h'.IsTuple a items := let ⟨o, x, r⟩ := H; ⟨o, e _ x, r⟩
theorem plain_at {h h' : Heap} {a : Addr} {items : Array Value} (H : PlainL h a items) (e : ∀ o, h.get? a = some o → h'.get? a = some o) : PlainL h' a items := let ⟨o, n, x, r⟩ := H; ⟨o, n, e _ x, r⟩
theorem plain_keepI {h h' : Heap} {l I : Addr} {items : Array Value} (H : PlainL h l items) (hI : FldAt h I) (hk : ∀ b o, b ≠ I → h.get? b = some o → h'.get? b = some o) : PlainL h' l items :=
  plain_at H fun o e => hk _ o (by
    rintro rfl
    obtain ⟨o1, fs, e1, e2⟩ := hI
    obtain ⟨o2, n, e3, _, _, e4⟩ := H
    rw [e1] at e3; cases e3; rw [e4] at e2; cases e2) e
theorem typeOf_append : typeOf (.builtin "list.append") = pure (.type "method_descriptor") := by kernel_rfl
theorem noDict_plain {h : Heap} {l : Addr} {items : Array Value} (H : PlainL h l items) : h.NoDictAt (.ref l) := by
  obtain ⟨o, n, h1, _, h2, _⟩ := H
  exact ⟨o, h1, h2⟩
theorem paired_snoc {α β : Type} {P : α → β → Prop} {as : List α} {bs : List β} {a : α} {b : β} (h : Paired P as bs) (hb : P a b) : Paired P (as ++ [a]) (bs ++ [b]) := by
  induction h with
  | nil => exact .cons hb .nil
  | cons h1 r ih => exact .cons h1 ih
/-- what stands below a frame, beside its ground, is kept -/
noncomputable def Low (L : Addr) (g h h' : Heap) : Prop := ∀ b o, b < L → g.get? b = none → h.get? b = some o → h'.get? b = some o
theorem Low.refl {L : Addr} {g h : Heap} : Low L g h h := fun _ _ _ _ e => e
theorem Low.trans {L : Addr} {g h h' h'' : Heap} (a : Low L g h h') (c : Low L g h' h'') : Low L g h h'' := fun b o h1 h2 e => c b o h1 h2 (a b o h1 h2 e)
/-- all that stands below a frame, beside its ground -/
noncomputable def lowAt (g : Heap) (L : Addr) (h : Heap) : List (Addr × Obj) := (allAt g L h).filter fun p => decide (@LT.lt Nat _ p.1 L)
theorem lowAt_news (g : Heap) (L : Addr) (h : Heap) : News g L h (lowAt g L h) := fun p hp => allAt_news g L h p (List.mem_filter.mp hp).1
theorem low_same {g h : Heap} {L : Addr} : ∀ {h' : Heap} {m' : Str → Option Value}, Fr g L h' m' → News g L h' (lowAt g L h) → Low L g h h' := fun _ N b o hb h0 e =>
  (N (b, o) (List.mem_filter.mpr ⟨allAt_mem e (Nat.ne_of_lt hb) h0, by simpa using hb⟩)).1
theorem news2b {h₀ h : Heap} {L a b : Addr} {x y : Obj} {l : List (Addr × Obj)} (h1 : h.get? a = some x ∧ a ≠ L ∧ h₀.get? a = none) (h2 : h.get? b = some y ∧ b ≠ L ∧ h₀.get? b = none) (N : News h₀ L h l) : News h₀ L h ((a, x) :: (b, y) :: l) := fun p hp => by
  rcases List.mem_cons.mp hp with rfl | hp
  · exact h1
  rcases List.mem_cons.mp hp with rfl | hp
  · exact h2
  · exact N p hp
end Mine
end

section
open PySem PySem.W PyProof.Rows PySem.Calls
set_option maxRecDepth 100000
set_option maxHeartbeats 8000000
namespace Mine
theorem fillRight1 (P : Params) : PySem.Challenge.rw_yh0005_01 = PySem.Challenge.rw_yh0005_01 → hd.heap_1 P = hd.heap_1 P := by
  k_fill
  intro _
  rfl

section
variable {w : World} {A : Around} {s : Shared} {base : Heap} {outer : List Env} {mean : ExcName → Option Value} {mg mb : Str → Option Value} {P0 : Addr} {nums : List Value} {g : Heap}
  {name qual : Str} {params : Arguments} {body : List Stmt} {scope : Scope} {dV kV doc pm cdv ct oc : Value} {an od : Option Addr} {osl : Array (Option Value)}
  {L : Addr} {hf : Heap} {tkf : Nat} {Q : Flow → Shared → Prop}

theorem news2' {h₀ h : Heap} {L a b : Addr} {x y : Obj} (h1 : h.get? a = some x ∧ a ≠ L ∧ h₀.get? a = none) (h2 : h.get? b = some y ∧ b ≠ L ∧ h₀.get? b = none) : News h₀ L h [(a, x), (b, y)] := fun p hp => by
  rcases List.mem_cons.mp hp with rfl | hp
  · exact h1
  · rw [List.mem_singleton.mp hp]; exact h2
/-- the numbers that are read -/
noncomputable def NumsOk (nums : List Value) : Prop := ∀ v ∈ nums, ∃ x t, v = .int x t ∧ 0 ≤ x ∧ x < 10000000

noncomputable def JA (g₀ hf : Heap) (s : Shared) (A : Around) (base : Heap) (outer : List Env) (L P0 Pp : Addr) (i : Nat) (s' : Shared) : Prop :=
  ∃ h' tk g vx vr vd vp ps, s' = { s with heap := h', toks := tk } ∧ Gd A base g₀ outer g ∧ Fr g L h' (r4 (r0 P0) vx vr vd vp) ∧ Ports h' Pp ps ∧ ps.length = i ∧ g.get? Pp = none ∧ Cells2 h' L (some (.ref Pp)) none ∧ Low L g₀ hf h'

theorem right_1 (ho : (hd.heap_1 w.params).lookup 191 = some ⟨oc, od, .func (fnOf name qual params body scope dV kV doc pm an cdv ct), osl⟩)
    (C : Cx w mean mg mb base) (hroom : A.depth ≤ 310) (hu : A.units ≤ 1000) (hh : A.handled = none) {g₀ : Heap} (G : Gd A base g₀ outer g) (F : Fr g L hf (r0 P0)) (hc : Cells2 hf L none none)
    (hl : g₀.IsList P0 nums.toArray) (hn : NumsOk nums) (hsz : nums.length ≤ 20)
    (done : ∀ h' tk g vx vr vd vp ps Pp, Gd A base g₀ outer g → Fr g L h' (r4 (r0 P0) vx vr vd vp) → Ports h' Pp ps → ps.length = nums.length → g.get? Pp = none → Cells2 h' L (some (.ref Pp)) none → Low L g₀ hf h' → L < Pp → Q .next { s with heap := h', toks := tk }) :
    wpAny (model PySem.Challenge.rw_yh0005_01.row.prog w) (A.deeper (envOfC qual scope L 191 cdv)) (execs (body.take 2) (envOfC qual scope L 191 cdv)) Q (fun _ _ => False) { s with heap := hf, toks := tkf } := by
  have hroom' : ∀ {e : Env}, (A.deeper e).depth ≤ 311 := fun {e} => Nat.succ_le_succ hroom
  refine (fun (e2 : (hd.heap_1 w.params).lookup 191 = some ⟨_, _, .func (fnOf _ _ _ _ _ _ _ _ _ _ _ _), _⟩) => ?_) (by k_is)
  rw [ho] at e2
  injection e2 with e2
  injection e2 with e3 e4 e5 e6
  injection e5 with e5
  injection e5 with n1 n2 n3 n4 n5
  injection n4 with n4
  subst_vars
  clear ho
  refine wpAny_execs_cons ?_
  have X' := (G.cx C).X
  have T' := (G.cx C).T
  have F' := F
  obtain ⟨⟨oc1, hoc1, hdc1⟩, ⟨oc2, hoc2, hdc2⟩⟩ := id hc
  have hg1 : g.get? (L + 1) = none := Heap.get?_none_of_le (Nat.le_trans F.above (Nat.le_succ L))
  have hg2 : g.get? (L + 2) = none := Heap.get?_none_of_le (Nat.le_trans F.above (Nat.le_add_right L 2))
  have N' : News g L hf ((L + 1, oc1) :: (L + 2, oc2) :: lowAt g L hf) := news2b ⟨hoc1, Nat.ne_of_gt (Nat.lt_succ_self L), hg1⟩ ⟨hoc2, Nat.ne_of_gt (Nat.lt_succ_of_lt (Nat.lt_succ_self L)), hg2⟩ (lowAt_news g L hf)
  have kb0 := @low_same g hf L
  k_steps
  rename_i Pp h1 F1 N1 l1
  have hLPp : L < Pp := Nat.lt_of_succ_lt l1.1
  have hPL : Pp ≠ L := (N1 _ (.head _)).2.1
  have hPg : g.get? Pp = none := (N1 _ (.head _)).2.2
  have low1 : Low L g hf h1 := kb0 F1 (fun p hp => N1 p (.tail _ (.tail _ (.tail _ hp))))
  have hcell1 : h1.IsCell (L + 1) none := ⟨_, (N1 _ (.tail _ (.head _))).1, hdc1⟩
  refine wpAny_storeName_cell (by rfl) (by rfl) (c := L + 1) (by rfl) hcell1 fun h2 hv2 hs2 => ?_
  have k12 : ∀ b o, b ≠ L + 1 → h1.get? b = some o → h2.get? b = some o := fun b o hb e => (hs2.2 b hb).trans e
  have hn1 : L + 1 ≠ L := Nat.ne_of_gt (Nat.lt_succ_self L)
  have F2 : Fr g L h2 (r0 P0) := off_fr' F1 k12 hn1.symm hg1
  have hP2 : PlainL h2 Pp #[] := ⟨_, _, k12 _ _ (Nat.ne_of_gt l1.1) (N1 _ (.head _)).1, rfl, rfl, rfl⟩
  have hC2 : Cells2 h2 L (some (.ref Pp)) none := ⟨hv2, ⟨_, k12 _ _ (Nat.ne_of_gt (Nat.lt_succ_self (L + 1))) (N1 _ (.tail _ (.tail _ (.head _)))).1, hdc2⟩⟩
  have low2 : Low L g hf h2 := low1.trans fun b o hb _ e => k12 b o (Nat.ne_of_lt (Nat.lt_succ_of_lt hb)) e
  have hgz : ∀ b, g₀.get? b = none → g.get? b = none := fun b e => G.T.none_ b e
  have low2 : Low L g₀ hf h2 := fun b o hb h0 e => low2 b o hb (hgz b h0) e
  dsimp only
  refine wpAny_execs_cons ?_
  refine for_any ?_ (by intro _; rfl) PassesOwn.never
  refine name_local' F2.ns (by rfl) ?_ (by rfl) (by rfl) (by decide)
  have hLf : L < h2.objs.size := F2.ns.lt
  have hI0 : g.get? h2.objs.size = none := Heap.get?_none_of_le (Nat.le_trans F2.above (Nat.le_of_lt hLf))
  have hl2 : h2.IsList P0 nums.toArray := (KtsTurn.isList G.T hl).at fun o e => F2.keep _ _ e
  have hI : g₀.get? h2.objs.size = none := by
    cases q : g₀.get? h2.objs.size with
    | none => rfl
    | some o =>
      obtain ⟨sl, hs⟩ := G.T.up q
      rw [hI0] at hs; cases hs
  have gnone : ∀ {g' : Heap}, Gd A base g₀ outer g' → ∀ b, g₀.get? b = none → g'.get? b = none := fun G' b e => G'.T.none_ b e
  refine name_loop (JA g₀ hf s A base outer L P0 Pp) (by exact hh) hl2 ?_ ?_ ?_ ?_
  · intro h' tk hk
    refine ⟨h', tk, g, none, none, none, none, [], rfl, G, ?_, ⟨⟨[], plain_at hP2 fun o e => hk _ _ e, .nil⟩, fun _ hp => nomatch hp⟩, rfl, hPg, hC2.at fun b o _ e => hk _ _ e, low2.trans fun b o _ _ e => hk _ _ e⟩
    exact fr_ex ⟨F2.ns.keeps hk, fun b o e => hk _ _ (F2.keep b o e), F2.above⟩ (fun y => r4_start _ rfl rfl rfl rfl y)
  · rintro i s' h' tk hIf ⟨ha, tka, ga, vx, vr, vd, vp, ps, rfl, Ga, Fa, ⟨⟨items, hli, hpi⟩, hb⟩, hps, hPa, hCa, lowA⟩ hk
    exact ⟨h', tk, ga, vx, vr, vd, vp, ps, rfl, Ga, off_fr' Fa hk (Nat.ne_of_lt hLf) (gnone Ga _ hI), ⟨⟨items, plain_keepI hli hIf hk, hpi⟩, hb⟩, hps, hPa, hCa.keepI hIf hk, lowA.trans fun b o hb _ e => hk _ _ (Nat.ne_of_lt (Nat.lt_trans hb hLf)) e⟩
  · rintro i s' v hv ⟨ha, tka, ga, vx, vr, vd, vp, ps, rfl, Ga, Fa, ⟨⟨items, hli, hpi⟩, hb⟩, hps, hPa, hCa, lowA⟩ it1 it2
    have hi : i < nums.length := by
      have := (Array.getElem?_eq_some_iff.mp hv).1
      simpa using this
    have hv' : v = nums[i] := by
      have : nums.toArray[i]? = some nums[i] := by simp [hi]
      rw [this] at hv
      injection hv with e; exact e.symm
    obtain ⟨x, tx, hvx, hx0, hx1⟩ := hn _ (List.getElem_mem hi)
    rw [hvx] at hv'
    subst hv'
    have hLa0 : ga.get? L = none := kts_self Fa
    refine wpAny_assign_Name (wpAny_storeName_local (by rfl) Fa.ns (fun hb' hnb hsb => ?_) (by rfl))
    have kb : ∀ b o, b ≠ L → ha.get? b = some o → hb'.get? b = some o := fun b o hb e => hsb.extBut b o hb e
    have Fb : Fr ga L hb' (r4 (r0 P0) (some (.int x tx)) vr vd vp) := fr_ex ⟨hnb, fun b o e => kb b o (fun q => by rw [q, hLa0] at e; cases e) (Fa.keep b o e), Fa.above⟩ (fun y => r4_x _ _ _ _ _ _ y)
    have hlib : PlainL hb' Pp items.toArray := plain_at hli fun o e => kb _ _ hPL e
    have it1b := it1.at fun o e => kb _ o (Nat.ne_of_gt hLf) e
    have it2b : hb'.IsList P0 nums.toArray := it2.at fun o e => kb _ o (list_neL Fa it2) e
    have hCb := hCa.at kb
    refine wpAny_execs_cons ?_
    have X' := (Ga.cx C).X
    have T' := (Ga.cx C).T
    have F' := Fb
    have N' : News ga L hb' (allAt ga L hb') := allAt_news ga L hb'
    have kbb := @kept_same _ _ _ _ Fb
    k_steps
    refine wpAny_call (drawn_spec w (Ga.cx C |>.keeps Fb.keep) (Nat.le_trans hroom' (by decide)) hx0 hx1 fun h3 tk3 q reply due port tr p hk3 hq hq0 hp0 hp1 hS => ?_)
    dsimp only
    have F3 : Fr ga L h3 (r4 (r0 P0) (some (.int x tx)) vr vd vp) := ⟨Fb.ns.keeps hk3, fun b o e => hk3 _ _ (Fb.keep b o e), Fb.above⟩
    refine three_assign (by exact hh) F3 hq (by rfl) (by rfl) (by rfl) (by rfl) fun h4 tk4 F4 k4 => ?_
    have F4 : Fr ga L h4 (r4 (r0 P0) (some (.int x tx)) (some (.str reply tr)) (some due) (some port)) := fr_ex F4 (fun y => r4_three _ _ _ _ _ _ _ _ y)
    have k34 : ∀ b o, b ≠ L → hb'.get? b = some o → h4.get? b = some o := fun b o hb e => k4 b o hb (hk3 _ _ e)
    have hS4 : Shape p h4 reply due port := hS.keeps fun T its hT => tuple_at hT fun o e => k4 _ o (tuple_neL F3 hT) e
    have hli4 : PlainL h4 Pp items.toArray := plain_at hlib fun o e => k34 _ _ hPL e
    have it14 := it1b.at fun o e => k34 _ o (Nat.ne_of_gt hLf) e
    have it24 : h4.IsList P0 nums.toArray := it2b.at fun o e => k34 _ o (list_neL Fb it2b) e
    have hC4 := hCb.at k34
    dsimp only
    refine wpAny_execs_cons ?_
    have F' := F4
    have N' : News ga L h4 (allAt ga L h4) := allAt_news ga L h4
    k_steps
    refine wpAny_call (read_any w C (Ga.below F4 rfl rfl) (Ga.dicts F4 rfl) (by exact hh) (Nat.le_trans hroom' (by decide)) hp0 hp1 hS4 fun h5 tk5 g5 v5 T5 S5 hv5 => ?_)
    dsimp only
    obtain ⟨g6, G6, F6, hg6, hk6, hg5⟩ := Ga.after F4 rfl T5 S5
    obtain ⟨d5, rd1, rd2, rd3, rd4, rd5⟩ := hv5
    refine wpAny_Name (wpAny_loadName_local (by rfl) (by rfl) F6.ns (by rfl) ?_) (by decide)
    refine SeqAt.compareNe_reads rd1 rd2 rd3 rd3 (by
      rw [Around.deeper_units, Nat.min_self]
      exact units_lt hu (Nat.le_trans rd4 (by decide))) ?_
    rw [rd5]
    refine wpAny_truthy_bool ?_
    (try dsimp only)
    rw [if_neg (by decide)]
    refine wpAny_execs_nil ?_
    dsimp only
    have hlt1 : L + 1 ≠ L := Nat.ne_of_gt (Nat.lt_succ_self L)
    have hga1 : ga.get? (L + 1) = none := Heap.get?_none_of_le (Nat.le_trans Fa.above (Nat.le_succ L))
    have hga2 : ga.get? (L + 2) = none := Heap.get?_none_of_le (Nat.le_trans Fa.above (Nat.le_add_right L 2))
    have hC5 : Cells2 h5 L (some (.ref Pp)) none := ⟨cell_keep hC4.1 fun o e => hk6 _ _ hlt1 hga1 e, cell_keep hC4.2 fun o e => hk6 _ _ (Nat.ne_of_gt (Nat.lt_succ_of_lt (Nat.lt_succ_self L))) hga2 e⟩
    have hli5 : PlainL h5 Pp items.toArray := plain_at hli4 fun o e => hk6 _ _ hPL hPa e
    have hga0 : ga.get? h2.objs.size = none := gnone Ga _ hI
    have it15 := it14.at fun o e => hk6 _ o (Nat.ne_of_gt hLf) hga0 e
    have it25 : h5.IsList P0 nums.toArray := (KtsTurn.isList G6.T hl).at fun o e => F6.keep _ _ e
    refine wpAny_execs_cons ?_
    have X' := (G6.cx C).X
    have T' := (G6.cx C).T
    have F' := F6
    obtain ⟨⟨oc1, hoc1, hdc1⟩, ⟨oc2, hoc2, hdc2⟩⟩ := id hC5
    have N' : News g6 L h5 [(L + 1, oc1), (L + 2, oc2)] := news2' ⟨hoc1, hlt1, hg6 _ hga1⟩ ⟨hoc2, Nat.ne_of_gt (Nat.lt_succ_of_lt (Nat.lt_succ_self L)), hg6 _ hga2⟩
    k_steps
    refine getMethod_list_of slot_list_append typeOf_append hli5.isList (noDict_plain hli5) ?_
    dsimp only
    k_steps
    have hsz5 : items.length ≤ 20 := by
      have := hpi.length
      omega
    refine list_append_plainL hli5 (fun h7 hP7 hs7 => ?_) (by rw [List.size_toArray, sizeLine_eq]; omega)
    have hk7 : ∀ b o, b ≠ Pp → h5.get? b = some o → h7.get? b = some o := fun b o hb e => (hs7.2 b hb).trans e
    have hPne : ∀ {b : Addr}, h5.get? b = none → True := fun _ => trivial
    dsimp only
    obtain ⟨y, hy, hyb⟩ : ∃ y, isPort y port ∧ ∀ p', y = some p' → 0 ≤ p' ∧ p' < 100000 := by
      rcases hS4.port with h | h
      · exact ⟨none, h, fun _ e => by cases e⟩
      · exact ⟨some p, h, fun _ e => by cases e; exact ⟨hp0, hp1⟩⟩
    refine wpAny_execs_nil ⟨⟨h7, tk5, g6, some (.int x tx), some (.str reply tr), some due, some port, ps ++ [y], rfl, G6, off_fr' F6 hk7 hPL.symm (hg6 _ hPa), ⟨⟨items ++ [port], ?_, paired_snoc hpi hy⟩, ?_⟩, ?_, hg6 _ hPa, ?_, ?_⟩, ?_, ?_⟩
    · rw [← List.push_toArray]; exact hP7
    · intro p' hm
      rcases List.mem_append.mp hm with hm | hm
      · exact hb p' hm
      · exact hyb p' (List.mem_singleton.mp hm).symm
    · rw [List.length_append, hps]; rfl
    · exact ⟨cell_keep hC5.1 fun o e => hk7 _ _ (cell_list hC5.1 hli5.isList) e, cell_keep hC5.2 fun o e => hk7 _ _ (cell_list hC5.2 hli5.isList) e⟩
    · refine lowA.trans fun b o hb h0 e => hk7 _ _ (Nat.ne_of_lt (Nat.lt_trans hb hLPp)) (hk6 _ _ (Nat.ne_of_lt hb) (Ga.T.none_ b h0) (k34 _ _ (Nat.ne_of_lt hb) (kb _ _ (Nat.ne_of_lt hb) e)))
    · obtain ⟨oi, hoi, hci, hdi⟩ := it15
      refine ⟨oi, hk7 _ _ ?_ hoi, hci, hdi⟩
      rintro rfl
      obtain ⟨oz, nz, hz, _, _, hdz⟩ := hli5
      rw [hoi] at hz; cases hz; rw [hdi] at hdz; cases hdz
    · refine it25.at fun o e => hk7 _ _ ?_ e
      rintro rfl
      obtain ⟨ol, hol, _⟩ := KtsTurn.isList G6.T hl
      rw [hg6 _ hPa] at hol; cases hol
  · rintro s' ⟨ha, tka, ga, vx, vr, vd, vp, ps, rfl, Ga, Fa, hP, hps, hPa, hCa, lowA⟩
    refine wpAny_execs_nil ?_
    exact done _ _ _ _ _ _ _ ps Pp Ga Fa hP (by simpa using hps) hPa hCa lowA hLPp
end
end Mine
end

section
open PySem PySem.W PyProof.Rows PySem.Calls
set_option maxRecDepth 100000
set_option maxHeartbeats 8000000
namespace Mine
/-- a port's column -/
noncomputable def colOf (x : Option Int) (wide : Int) : Str := match x with
  | none => colStr (Str.ofString "--") wide
  | some p => colStr (Str.ofString (toString p)) wide
/-- a port's letter -/
noncomputable def letOf (k : Nat) : Str := ⟨#[97 + k]⟩
/-- the columns and letters -/
noncomputable def parts (ps : List (Option Int)) (wide : Int) : List (Str × Str) := ps.zipIdx.map fun x => (colOf x.1 wide, letOf x.2)

theorem parts_len (ps : List (Option Int)) (wide : Int) : (parts ps wide).length = ps.length := by simp [parts]
theorem parts_at (ps : List (Option Int)) (wide : Int) {k : Nat} (h : k < ps.length) : (parts ps wide)[k]? = some (colOf ps[k] wide, letOf k) := by
  simp [parts, h]

theorem wide_bounds (ps : List (Option Int)) : 0 ≤ wideOf ps ∧ wideOf ps ≤ 5 := by
  unfold wideOf widthOf
  (repeat' split) <;> decide

theorem col_port (w : World) {A : Around} {s : Shared} {R : Result → Shared → Prop} {mean : ExcName → Option Value} {mg mb : Str → Option Value} {wide : Int} {t : Tok} {x : Option Int} {v : Value}
    (C : Cx w mean mg mb s.heap) (hroom : A.depth ≤ 500) (hw : 0 ≤ wide) (hw2 : wide ≤ 10) (hp : isPort x v) (hb : ∀ p, x = some p → 0 ≤ p ∧ p < 100000)
    (h : ∀ h' tk t', s.heap.StaysIn h' → R (.ok (.ret (.str (colOf x wide) t'))) { s with heap := h', toks := tk }) :
    codeAny (model PySem.Challenge.rw_yh0005_01.row.prog w) A (.call (.ref 176) ⟨[v, .int wide t], []⟩) R s := by
  cases x with
  | none =>
    have e : v = .none := hp
    subst e
    exact col_none w C hroom hw hw2 h
  | some p =>
    obtain ⟨u, e⟩ : ∃ u, v = .int p u := hp
    subst e
    obtain ⟨h0, h1⟩ := hb p rfl
    exact col_int w h0 (Int.lt_trans h1 (by decide)) C hroom hw hw2 h

theorem port_at {ps : List (Option Int)} {items : List Value} (h : Paired isPort ps items) : ∀ {i : Nat} (h1 : i < ps.length) (h2 : i < items.length), isPort ps[i] items[i] := by
  induction h with
  | nil => intro i h1; cases h1
  | cons h t ih =>
    intro i h1 h2
    cases i with
    | zero => exact h
    | succ i => exact ih (Nat.lt_of_succ_lt_succ h1) (Nat.lt_of_succ_lt_succ h2)
/-- the table of the first ports -/
noncomputable def tab (items : List Value) (k : Nat) : List (Int × Value) := ((items.take k).zipIdx).map fun p => (2 * (p.2 : Int), p.1)

theorem tab_zero (items : List Value) : tab items 0 = [] := rfl
theorem tab_succ {items : List Value} {k : Nat} (h : k < items.length) : tab items (k + 1) = tab items k ++ [(2 * (k : Int), items[k])] := by
  unfold tab
  rw [List.take_succ_eq_append_getElem h, List.zipIdx_append, List.map_append]
  simp [Nat.min_eq_left (Nat.le_of_lt h)]
theorem tab_snd (items : List Value) (k : Nat) : (tab items k).map (·.2) = items.take k := by
  unfold tab
  rw [List.map_map]
  show (((items.take k).zipIdx).map Prod.fst) = _
  simp
theorem tab_len (items : List Value) (k : Nat) : (tab items k).length ≤ items.length := by
  unfold tab; simp; omega
theorem tab_fst {items : List Value} {k : Nat} : ∀ kv ∈ tab items k, ∃ j : Nat, j < k ∧ kv.1 = 2 * (j : Int) := by
  intro kv hkv
  obtain ⟨p, hp, rfl⟩ := List.mem_map.mp hkv
  obtain ⟨_, h2, _⟩ := List.mem_zipIdx hp
  refine ⟨p.2, ?_, rfl⟩
  rw [List.length_take] at h2
  omega
theorem value_absent {kvs : List (Int × Value)} {k : Int} (h : ∀ kv ∈ kvs, kv.1 ≠ k) : valueAt kvs k = none := by
  unfold valueAt
  rw [Option.map_eq_none_iff, List.find?_eq_none]
  intro kv hkv
  simpa using h kv hkv
theorem tab_absent {items : List Value} {k : Nat} : valueAt (tab items k) (2 * (k : Int)) = none :=
  value_absent fun kv hkv e => by
    obtain ⟨j, hj, e'⟩ := tab_fst kv hkv
    omega
theorem value_app {a b : List (Int × Value)} {k : Int} : valueAt (a ++ b) k = (valueAt a k).or (valueAt b k) := by
  unfold valueAt
  rw [List.find?_append]
  cases a.find? (fun kv => decide (kv.1 = k)) <;> rfl
theorem tab_at {items : List Value} : ∀ {n k : Nat} (_ : k < n) (_ : n ≤ items.length) (h : k < items.length), valueAt (tab items n) (2 * (k : Int)) = some items[k]
  | n + 1, k, hk, hn, h => by
    rw [tab_succ (Nat.lt_of_succ_le hn), value_app]
    by_cases e : k = n
    · subst e
      rw [tab_absent]
      simp [valueAt]
    · rw [tab_at (by omega) (by omega) h]
      rfl
end Mine
end

section
open PySem PySem.W PyProof.Rows PySem.Calls
set_option maxRecDepth 100000
set_option maxHeartbeats 8000000
namespace Mine
section
variable {prog : Program} {w : World} {K : Type} [DecidableEq K] {knd : PySem.KeyKind prog w K} {A : Around} {E : Value → Shared → Prop} {s : Shared}

theorem vnext_item {it d : Addr} {i ep : Nat} {kvs : List (K × Value)} {k : K} {v : Value} {Q : Option Value → Shared → Prop} (hit : s.heap.IsValIter it d i kvs.length ep)
    (hm : s.heap.DictAt knd d kvs ep) (hx : kvs[i]? = some (k, v))
    (hQ : ∀ h', h'.IsValIter it d (i + 1) kvs.length ep → Heap.SameBut it s.heap h' → Q (some v) { s with heap := h' }) :
    wpAny (model prog w) A (callSpecial? (.ref it) "__next__") Q E s := by
  obtain ⟨o, ho, hc, hd⟩ := id hit
  obtain ⟨od, es, hod, hcd, hdd, hk, hp, hn⟩ := id hm
  have hsz : es.size = kvs.length := by rw [← hp.length]; simp
  have hlt : i < kvs.length := by
    rcases Nat.lt_or_ge i kvs.length with h | h
    · exact h
    · simp [List.getElem?_eq_none h] at hx
  have hlt' : i < es.size := by rw [hsz]; exact hlt
  have hval : es[i].val = v := (hp.get? (e := es[i]) (by simp [hlt']) hx).2
  refine wpAny_callSpecial?_slot (name := Str.ofString "__next__") hit.typeIs F.slot_dict_valueiterator_next
    (wpAny_call_entry F.slot_dict_valueiterator_next hit.typeIs F.entry_dict_valueiterator_next ?_ (F.args_dict_valueiterator_next_1 _))
  refine wpAny_bind (wpAny_pure (wpAny_bind (wpAny_bind (wpAny_bind (wpAny_typeNameOfWhole_valiter hit.typeIs (wpAny_pure ?_))))))
  refine wpAny_bind (wpAny_fieldsOf ho hd ?_)
  rw [show Builtin.Dict_items.ownsTuple "dict_valueiterator" = false from by decide]
  simp only [Bool.false_eq_true, if_false]
  show wpAny _ _ (if (Value.ref d == Value.none) = true then _ else _) _ _ s
  rw [if_neg (show ¬ ((Value.ref d == Value.none) = true) from Bool.false_ne_true)]
  refine wpAny_bind (wpAny_pure (wpAny_bind (wpAny_dictEntries hod hdd ?_)))
  rw [if_neg (by rw [hsz]; simp)]
  refine wpAny_bind (wpAny_pure (wpAny_bind (wpAny_dictEpoch hod hdd ?_)))
  rw [if_neg (by simp)]
  refine wpAny_pure ?_
  simp only [show ¬ ((i : Int) < 0) from by omega, if_false, Int.toNat_natCast, Array.getElem?_eq_getElem hlt']
  refine wpAny_bind (wpAny_bind (wpAny_typeNameOfWhole_valiter hit.typeIs (wpAny_pure ?_)))
  refine wpAny_bind (wpAny_isOneOf_valiter hit.typeIs ?_)
  show wpAny _ _ (setField (.ref it) 1 (rawInt ((i : Int) + 1)) >>= _) _ _ s
  refine wpAny_bind (wpAny_setField ho hd (by simp) ?_)
  have hit' : (s.heap.update it (Obj.mapFields (·.setIfInBounds 1 (rawInt ((i : Int) + 1))))).IsValIter it d (i + 1) kvs.length ep :=
    ⟨_, Heap.get?_update_self _ ho (Obj.isFreed_of_fields (Obj.data_mapFields hd _)), (Obj.cls_mapFields ..).trans hc, by rw [Obj.data_mapFields hd]; simp [rawInt]⟩
  refine wpAny_bind (wpAny_holding ?_)
  refine wpAny_bind (wpAny_isOneOf_valiter (s := { s with heap := s.heap.update it (Obj.mapFields (·.setIfInBounds 1 (rawInt ((i : Int) + 1)))) }) hit'.typeIs ?_)
  refine wpAny_bind (wpAny_isOneOf_valiter (s := { s with heap := s.heap.update it (Obj.mapFields (·.setIfInBounds 1 (rawInt ((i : Int) + 1)))) }) hit'.typeIs ?_)
  show wpAny _ _ (pure es[i].val) _ _ _
  exact wpAny_pure (wpAny_pure ⟨_, rfl, hval ▸ hQ _ hit' (Heap.SameBut.update ..)⟩)

theorem vnext_end {it d : Addr} {i ep : Nat} {kvs : List (K × Value)} {Q : Option Value → Shared → Prop} (hh : A.handled = none) (hit : s.heap.IsValIter it d i kvs.length ep)
    (hm : s.heap.DictAt knd d kvs ep) (hx : kvs[i]? = none)
    (hE : ∀ h' e, Heap.ExtBut it s.heap h' → (∃ o, h'.get? e = some o ∧ o.cls = .type "StopIteration") → E (.ref e) { s with heap := h' }) :
    wpAny (model prog w) A (callSpecial? (.ref it) "__next__") Q E s := by
  obtain ⟨o, ho, hc, hd⟩ := id hit
  obtain ⟨od, es, hod, hcd, hdd, hk, hp, hn⟩ := id hm
  have hsz : es.size = kvs.length := by rw [← hp.length]; simp
  have hge : es.size ≤ i := by rw [hsz]; simpa using hx
  refine wpAny_callSpecial?_slot (name := Str.ofString "__next__") hit.typeIs F.slot_dict_valueiterator_next
    (wpAny_call_entry F.slot_dict_valueiterator_next hit.typeIs F.entry_dict_valueiterator_next ?_ (F.args_dict_valueiterator_next_1 _))
  refine wpAny_bind (wpAny_pure (wpAny_bind (wpAny_bind (wpAny_bind (wpAny_typeNameOfWhole_valiter hit.typeIs (wpAny_pure ?_))))))
  refine wpAny_bind (wpAny_fieldsOf ho hd ?_)
  rw [show Builtin.Dict_items.ownsTuple "dict_valueiterator" = false from by decide]
  simp only [Bool.false_eq_true, if_false]
  show wpAny _ _ (if (Value.ref d == Value.none) = true then _ else _) _ _ s
  rw [if_neg (show ¬ ((Value.ref d == Value.none) = true) from Bool.false_ne_true)]
  refine wpAny_bind (wpAny_pure (wpAny_bind (wpAny_dictEntries hod hdd ?_)))
  rw [if_neg (by rw [hsz]; simp)]
  refine wpAny_bind (wpAny_pure (wpAny_bind (wpAny_dictEpoch hod hdd ?_)))
  rw [if_neg (by simp)]
  refine wpAny_pure ?_
  simp only [show ¬ ((i : Int) < 0) from by omega, if_false, Int.toNat_natCast, Array.getElem?_eq_none hge]
  refine wpAny_bind (wpAny_bind (wpAny_typeNameOfWhole_valiter hit.typeIs (wpAny_pure ?_)))
  show wpAny _ _ (setField (.ref it) 0 .none >>= _) _ _ s
  refine wpAny_bind (wpAny_setField ho hd (by simp) ?_)
  show wpAny _ _ (newExc (.type "StopIteration") [] >>= _) _ _ _
  refine wpAny_bind ?_
  simp only [newExc, newTuple]
  refine wpAny_bind (wpAny_newObj_type ?_ (by size_fits))
  refine wpAny_bind (m := firstArgMember _ _) (wpAny_of_eq (a := Value.none) (by first | rfl | (simp only [firstArgMember]; rfl)) ?_)
  refine wpAny_newObj_type ?_ (by size_fits)
  simp only [raiseNew]
  refine wpAny_bind (wpAny_handled ?_)
  rw [show A.in1.handled = none from hh]
  refine wpAny_bind (wpAny_pure (wpAny_throw ?_))
  exact hE _ _ (((Heap.SameBut.update ..).extBut.push _).push _) ⟨_, Heap.get?_push_size _ rfl, rfl⟩
end
end Mine
end

section
open PySem PySem.W PyProof.Rows PySem.Calls
set_option maxRecDepth 100000
set_option maxHeartbeats 8000000
namespace Mine
theorem slot_filter_init : Slot "filter" "__init__" "object.__init__" :=
  .of (owner := "object") (n := "__init__") (by rw [typeLookup_type, builtinLookup_eq_fast]; kernel_rfl) (by decide +kernel) (by decide +kernel) (by decide +kernel)
    (by first | exact .inl (by decide +kernel) | exact .inr (by decide +kernel)) (by rw [isSubtype_type]; kernel_rfl)
theorem slot_filter_next : Slot "filter" "__next__" "filter.__next__" :=
  .of (owner := "filter") (n := "__next__") (by rw [typeLookup_type, builtinLookup_eq_fast]; kernel_rfl) (by decide +kernel) (by decide +kernel) (by decide +kernel)
    (by first | exact .inl (by decide +kernel) | exact .inr (by decide +kernel)) (by rw [isSubtype_type]; kernel_rfl)
theorem slot_filter_iter : Slot "filter" "__iter__" "filter.__iter__" :=
  .of (owner := "filter") (n := "__iter__") (by rw [typeLookup_type, builtinLookup_eq_fast]; kernel_rfl) (by decide +kernel) (by decide +kernel) (by decide +kernel)
    (by first | exact .inl (by decide +kernel) | exact .inr (by decide +kernel)) (by rw [isSubtype_type]; kernel_rfl)
theorem mro_filter : mroOf (.type "filter") = pure [.type "filter", .type "object"] := by rw [mroOf_type]; kernel_rfl
theorem lookup_filter_new : typeLookup (.type "filter") "__new__" = pure (some (.builtin "filter.__new__")) := by rw [typeLookup_type, builtinLookup_eq_fast]; kernel_rfl
theorem sub_filter : isSubtype (.type "filter") (.type "filter") = pure true := by rw [isSubtype_type]; kernel_rfl
theorem called_filter : TypeCalled "filter" "filter.__new__" "object.__init__" :=
  ⟨by decide +kernel, by decide +kernel, ⟨_, _, mro_filter⟩, madeBy_type mro_filter lookup_filter_new (by decide +kernel), by decide +kernel, sub_filter, slot_filter_init⟩
theorem typeCall_filter (a b : Value) : checkTypeCall "filter" ⟨[a, b], []⟩ = pure () := by kernel_rfl
theorem newCall_filter (a b : Value) : checkBuiltinCall "filter.__new__" ⟨[.type "filter", a, b], []⟩ = pure () := by kernel_rfl
theorem entry_filter_new : entryFor table "filter.__new__" = some Builtin.«filter.__new__» := entryFor_of_tree (by kernel_rfl)
theorem entry_filter_next : entryFor table "filter.__next__" = some Builtin.«filter.__next__» := entryFor_of_tree (by kernel_rfl)
theorem entry_filter_iter : entryFor table "filter.__iter__" = some Builtin.«dict_keyiterator.__iter__» :=
  entryFor_alias (id' := "dict_keyiterator.__iter__") (by kernel_rfl) (by first | rfl | decide +kernel | (unfold String.splitOn; simp +decide [String.splitOnAux])) (by decide +kernel) (by kernel_rfl)
theorem plain_filter_next : plainId "filter.__next__" = true := by decide +kernel
theorem args_filter_next (a : Value) : argsOk "filter.__next__" ⟨[a], []⟩ := by unfold argsOk; kernel_rfl
theorem args_filter_iter (a : Value) : argsOk "filter.__iter__" ⟨[a], []⟩ := by unfold argsOk; kernel_rfl

noncomputable abbrev IsFil (h : Heap) (f it : Addr) : Prop := h.get? f = some { cls := .type "filter", data := .fields #[.none, .ref it] }

/-- what a port's value is -/
noncomputable def isPort' (x : Option Int) (v : Value) : Prop := match x with
  | none => v = .none
  | some p => ∃ u, v = .int p u
section
variable {prog : Program} {w : World} {K : Type} [DecidableEq K] {knd : PySem.KeyKind prog w K} {A : Around} {E : Value → Shared → Prop} {s : Shared}

theorem meets_filter_new (v d : Addr) (kvs : List (K × Value)) (ep : Nat) :
    MeetsIn prog w (Builtin.«filter.__new__» ⟨[.type "filter", .none, .ref v], []⟩) (fun _ R s => s.heap.IsValuesView v d ∧ s.heap.DictAt knd d kvs ep ∧
      R (.ok (.ret (.ref (s.heap.objs.size + 1)))) { s with heap := (s.heap.push { cls := .type "dict_valueiterator", data := .fields #[.ref d, .int 0 0, .int kvs.length 0, .int ep 0] }).push { cls := .type "filter", data := .fields #[.none, .ref s.heap.objs.size] } }) :=
  .of_wp fun A R s h => by
    obtain ⟨hp, g, dr, tk, os⟩ := s
    obtain ⟨hv, hm, h⟩ := h
    have hsub := sub_filter
    have hi : ∀ {A' : Around} {E' : Value → Shared → Prop} {Q' : Value → Shared → Prop}, Q' (.ref hp.objs.size) { heap := hp.push { cls := .type "dict_valueiterator", data := .fields #[.ref d, .int 0 0, .int kvs.length 0, .int ep 0] }, gens := g, drawn := dr, toks := tk, os := os } →
        wpAny (model prog w) A' (pyIter (.ref v)) Q' E' ⟨hp, g, dr, tk, os⟩ := fun h => wpAny_pyIter_values hv hm h
    wp_walk using hi
    refine ⟨_, rfl, ?_⟩
    rw [Heap.size_push]
    exact h

theorem call_filter {v d : Addr} {kvs : List (K × Value)} {ep : Nat} {Q : Value → Shared → Prop} (hv : s.heap.IsValuesView v d) (hm : s.heap.DictAt knd d kvs ep)
    (h : ∀ h', IsFil h' (s.heap.objs.size + 1) s.heap.objs.size → h'.IsValIter s.heap.objs.size d 0 kvs.length ep → s.heap.StaysIn h' → h'.objs.size = s.heap.objs.size + 2 → Q (.ref (s.heap.objs.size + 1)) { s with heap := h' }) :
    wpAny (model prog w) A (call (.type "filter") [.none, .ref v]) Q E s := by
  refine callType_newIn called_filter (by decide) (typeCall_filter _ _) (newCall_filter _ _) (fun obj => F.args_object_init_3 obj _ _) entry_filter_new (meets_filter_new (knd := knd) v d kvs ep) ⟨hv, hm, ?_⟩
  have z1 : (s.heap.push { cls := .type "dict_valueiterator", data := .fields #[.ref d, .int 0 0, .int kvs.length 0, .int ep 0] }).objs.size = s.heap.objs.size + 1 := Heap.size_push ..
  have g2 : ((s.heap.push { cls := .type "dict_valueiterator", data := .fields #[.ref d, .int 0 0, .int kvs.length 0, .int ep 0] }).push { cls := .type "filter", data := .fields #[.none, .ref s.heap.objs.size] }).get? (s.heap.push { cls := .type "dict_valueiterator", data := .fields #[.ref d, .int 0 0, .int kvs.length 0, .int ep 0] }).objs.size = some { cls := .type "filter", data := .fields #[.none, .ref s.heap.objs.size] } := Heap.get?_push_size _ rfl
  rw [z1] at g2
  refine ⟨⟨_, g2, rfl⟩, h _ g2 ⟨_, Heap.get?_push_of_some _ (Heap.get?_push_size _ rfl), rfl, rfl⟩ (fun b o e => Heap.get?_push_of_some _ (Heap.get?_push_of_some _ e)) ?_⟩
  rw [Heap.size_push, z1]

/-- what filter(None, ..) lets pass of a port -/
noncomputable def passes (v : Value) : Bool := match v with
  | .int p _ => p != 0
  | _ => false

theorem truthy_port {v : Value} {x : Option Int} (hv : isPort' x v) {Q : Bool → Shared → Prop} (h : Q (passes v) s) : wpAny (model prog w) A (truthy v) Q E s := by
  cases x with
  | none => cases (show v = .none from hv); exact fun _ _ _ => h
  | some p =>
    obtain ⟨u, rfl⟩ : ∃ u, v = .int p u := hv
    exact PyProof.Rows.truthy_int h

/-- the next that passes, or the end -/
theorem filter_tree {R : Result → Shared → Prop} {f it d : Addr} {kvs : List (K × Value)} {ep : Nat} (hh : A.handled = none) (hfi : f ≠ it) (hdi : d ≠ it) (hp : ∀ kv ∈ kvs, ∃ x, isPort' x kv.2) :
    ∀ (n i : Nat) {s : Shared}, n = kvs.length - i → IsFil s.heap f it → s.heap.IsValIter it d i kvs.length ep → s.heap.DictAt knd d kvs ep →
      (∀ h' j k v, i ≤ j → kvs[j]? = some (k, v) → passes v = true → (∀ m, i ≤ m → m < j → ∀ k' v', kvs[m]? = some (k', v') → passes v' = false) → h'.IsValIter it d (j + 1) kvs.length ep → Heap.ExtBut it s.heap h' → R (.ok (.ret v)) { s with heap := h' }) →
      (∀ h' e, (∀ m, i ≤ m → ∀ k' v', kvs[m]? = some (k', v') → passes v' = false) → Heap.ExtBut it s.heap h' → (∃ o, h'.get? e = some o ∧ o.cls = .type "StopIteration") → R (.error (.ref e)) { s with heap := h' }) →
      wpAny (model prog w) A.in1 (Builtin.«filter.__next__» ⟨[.ref f], []⟩) (fun fin s' => match fin with | .done f => R (.ok f) s' | .again c' => c'.quiet = true ∧ codeAny (model prog w) A c' R s') (fun e s' => R (.error e) s') s := by
  intro n
  induction n with
  | zero =>
    intro i s hn hf hit hm _ hE
    unfold Builtin.«filter.__next__»
    refine wpAny_bind (m := slotArgs _ _ _) (wpAny_pure ?_)
    dsimp only
    refine wpAny_bind (wpAny_field hf rfl (x := .none) rfl (wpAny_bind (wpAny_field hf rfl (x := .ref it) rfl (wpAny_bind ?_))))
    refine vnext_end (A := A.in1) hh hit hm (List.getElem?_eq_none (by omega)) fun h' e he hs => ?_
    refine hE h' e (fun m h1 k' v' h2 => ?_) he hs
    rw [List.getElem?_eq_none (by omega)] at h2
    cases h2
  | succ n ih =>
    intro i s hn hf hit hm hQ hE
    have hlt : i < kvs.length := by omega
    unfold Builtin.«filter.__next__»
    refine wpAny_bind (m := slotArgs _ _ _) (wpAny_pure ?_)
    dsimp only
    refine wpAny_bind (wpAny_field hf rfl (x := .none) rfl (wpAny_bind (wpAny_field hf rfl (x := .ref it) rfl (wpAny_bind ?_))))
    have hx : kvs[i]? = some (kvs[i].1, kvs[i].2) := List.getElem?_eq_getElem hlt
    refine vnext_item hit hm hx fun h₁ hit₁ hs₁ => ?_
    dsimp only
    obtain ⟨x, hv⟩ := hp _ (List.getElem_mem hlt)
    refine wpAny_bind (wpAny_holding ?_)
    rw [if_pos (by rfl)]
    refine wpAny_bind (wpAny_rule (truthy_port hv ?_))
    have hk₁ : ∀ b o, b ≠ it → s.heap.get? b = some o → h₁.get? b = some o := fun b o hb e => hs₁.extBut b o hb e
    cases hps : passes kvs[i].2 with
    | true =>
      rw [if_pos rfl]
      exact wpAny_pure (hQ h₁ i _ _ (Nat.le_refl _) hx hps (fun m h1 h2 => absurd h2 (by omega)) hit₁ hk₁)
    | false =>
      rw [if_neg (by simp)]
      refine wpAny_pure ⟨plainId_quiet plain_filter_next _, ?_⟩
      refine codeAny_builtin entry_filter_next ?_
      rw [Around.under_plainId plain_filter_next _]
      refine ih (i + 1) (s := { s with heap := h₁ }) (by omega) (hk₁ _ _ hfi hf) hit₁ (hm.at' fun o e => hk₁ _ o hdi e) ?_ ?_
      · intro h' j k v hj hjx hpj hno hit' hk'
        refine hQ h' j k v (by omega) hjx hpj (fun m h1 h2 k' v' hm' => ?_) hit' fun b o hb e => hk' b o hb (hk₁ b o hb e)
        by_cases e : m = i
        · subst e
          rw [hx] at hm'
          cases hm'
          exact hps
        · exact hno m (by omega) h2 k' v' hm'
      · intro h' e hno hk' hs
        refine hE h' e (fun m h1 k' v' hm' => ?_) (fun b o hb e => hk' b o hb (hk₁ b o hb e)) hs
        by_cases e : m = i
        · subst e
          rw [hx] at hm'
          cases hm'
          exact hps
        · exact hno m (by omega) k' v' hm'

theorem filter_call {R : Result → Shared → Prop} {f it d : Addr} {kvs : List (K × Value)} {ep : Nat} (hh : A.handled = none) (hfi : f ≠ it) (hdi : d ≠ it) (hp : ∀ kv ∈ kvs, ∃ x, isPort' x kv.2) :
    ∀ (n i : Nat) {s : Shared}, n = kvs.length - i → IsFil s.heap f it → s.heap.IsValIter it d i kvs.length ep → s.heap.DictAt knd d kvs ep →
      (∀ h' j k v, i ≤ j → kvs[j]? = some (k, v) → passes v = true → (∀ m, i ≤ m → m < j → ∀ k' v', kvs[m]? = some (k', v') → passes v' = false) → h'.IsValIter it d (j + 1) kvs.length ep → Heap.ExtBut it s.heap h' → R (.ok (.ret v)) { s with heap := h' }) →
      (∀ h' e, (∀ m, i ≤ m → ∀ k' v', kvs[m]? = some (k', v') → passes v' = false) → Heap.ExtBut it s.heap h' → (∃ o, h'.get? e = some o ∧ o.cls = .type "StopIteration") → R (.error (.ref e)) { s with heap := h' }) →
      codeAny (model prog w) A (.call (.builtin "filter.__next__") ⟨[.ref f], []⟩) R s := by
  intro n i s hn hf hit hm hQ hE
  have hT : s.TypeIs (.ref f) "filter" := ⟨_, hf, rfl⟩
  exact codeAny_call_builtin plain_filter_next entry_filter_next (slot_filter_next.check _ _ _ _ _ _ _ _ hT (args_filter_next _) (filter_tree hh hfi hdi hp n i hn hf hit hm hQ hE))

theorem drop_pass {l : List Value} {q : Value → Bool} : ∀ (n i j : Nat), j = i + n → (∀ m, i ≤ m → m < j → ∀ v, l[m]? = some v → q v = false) → (l.drop i).filter q = (l.drop j).filter q
  | 0, i, j, e, _ => by rw [e]; rfl
  | n + 1, i, j, e, h => by
    rw [← drop_pass n (i + 1) j (by omega) fun m h1 h2 => h m (by omega) h2]
    by_cases hi : i < l.length
    · rw [List.drop_eq_getElem_cons hi, List.filter_cons, if_neg]
      rw [h i (Nat.le_refl _) (by omega) _ (List.getElem?_eq_getElem hi)]
      simp
    · rw [List.drop_eq_nil_of_le (by omega), List.drop_eq_nil_of_le (by omega)]

theorem drop_stop {l : List Value} {q : Value → Bool} {i : Nat} (h : ∀ m, i ≤ m → ∀ v, l[m]? = some v → q v = false) : (l.drop i).filter q = [] := by
  rw [List.filter_eq_nil_iff]
  intro v hv
  obtain ⟨m, hm⟩ := List.getElem?_of_mem hv
  rw [List.getElem?_drop] at hm
  rw [h _ (Nat.le_add_right _ _) v hm]
  simp

/-- what passes of a table's values -/
noncomputable def passed (kvs : List (K × Value)) : List Value := (kvs.map (·.2)).filter passes

noncomputable def FilSt (h : Heap) (knd : PySem.KeyKind prog w K) (f it d : Addr) (kvs : List (K × Value)) (ep i : Nat) : Prop :=
  IsFil h f it ∧ h.DictAt knd d kvs ep ∧ ∃ j, h.IsValIter it d j kvs.length ep ∧ ((kvs.map (·.2)).drop j).filter passes = (passed kvs).drop i

theorem filter_next {f it d : Addr} {kvs : List (K × Value)} {ep i : Nat} {Q : Option Value → Shared → Prop} (hh : A.handled = none) (hfi : f ≠ it) (hdi : d ≠ it) (hp : ∀ kv ∈ kvs, ∃ x, isPort' x kv.2) (hs : FilSt s.heap knd f it d kvs ep i)
    (hQ : ∀ h' v, (passed kvs)[i]? = some v → FilSt h' knd f it d kvs ep (i + 1) → Heap.ExtBut it s.heap h' → Q (some v) { s with heap := h' })
    (hN : ∀ h', (passed kvs).length ≤ i → Heap.ExtBut it s.heap h' → Q none { s with heap := h' }) :
    wpAny (model prog w) A (pyNext (.ref f)) Q E s := by
  obtain ⟨hf, hm, j, hit, hj⟩ := hs
  have hT : s.TypeIs (.ref f) "filter" := ⟨_, hf, rfl⟩
  unfold pyNext
  refine wpAny_bind (wpAny_attempt (wpAny_callSpecial?_slot (name := Str.ofString "__next__") hT slot_filter_next ?_))
  refine wpAny_call (filter_call (A := A) hh hfi hdi hp _ j rfl hf hit hm (fun h' j' k v hjj hx hpv hno hit' he => ?_) (fun h' e hno he hse => ?_))
  · have e1 := drop_pass (l := kvs.map (·.2)) (q := passes) (j' - j) j j' (by omega) fun m h1 h2 v' hv' => by
      rw [List.getElem?_map] at hv'
      obtain ⟨⟨k', v''⟩, h3, rfl⟩ := Option.map_eq_some_iff.mp hv'
      exact hno m h1 h2 k' v'' h3
    have hlt : j' < (kvs.map (·.2)).length := by
      rw [List.length_map]
      exact (List.getElem?_eq_some_iff.mp hx).1
    have hv' : (kvs.map (·.2))[j'] = v := by
      obtain ⟨h1, h2⟩ := List.getElem?_eq_some_iff.mp hx
      rw [List.getElem_map, h2]
    rw [e1, List.drop_eq_getElem_cons hlt, hv', List.filter_cons, if_pos hpv] at hj
    have hi : i < (passed kvs).length := by
      rcases Nat.lt_or_ge i (passed kvs).length with h | h
      · exact h
      · rw [List.drop_eq_nil_of_le h] at hj; cases hj
    rw [List.drop_eq_getElem_cons hi] at hj
    injection hj with h1 h2
    refine wpAny_pure (hQ h' v ?_ ⟨he _ _ hfi hf, hm.at' fun o e => he _ o hdi e, j' + 1, hit', h2⟩ he)
    rw [List.getElem?_eq_getElem hi, h1]
  · have e1 := drop_stop (l := kvs.map (·.2)) (q := passes) (i := j) fun m h1 v' hv' => by
      rw [List.getElem?_map] at hv'
      obtain ⟨⟨k', v''⟩, h3, rfl⟩ := Option.map_eq_some_iff.mp hv'
      exact hno m h1 k' v'' h3
    rw [e1] at hj
    have hle : (passed kvs).length ≤ i := by
      rcases Nat.lt_or_ge i (passed kvs).length with h | h
      · rw [List.drop_eq_getElem_cons h] at hj; cases hj
      · exact h
    obtain ⟨o, ho, hc⟩ := hse
    refine wpAny_bind (wpAny_isInstance (T := "StopIteration") (b := true) ⟨o, ho, hc⟩ isSubtype_stop ?_)
    exact wpAny_pure (hN h' hle he)

theorem pyIter_filter {f it : Addr} {Q : Value → Shared → Prop} (hf : IsFil s.heap f it) (h : Q (.ref f) s) : wpAny (model prog w) A (pyIter (.ref f)) Q E s := by
  have hT : s.TypeIs (.ref f) "filter" := ⟨_, hf, rfl⟩
  refine wpAny_pyIter_slot hT slot_filter_iter (wpAny_call_entry slot_filter_iter hT entry_filter_iter ?_ (args_filter_iter _))
  show wpAny _ _ (ret (.ref f)) _ _ s
  exact wpAny_pure ⟨_, rfl, "filter", _, hT, slot_filter_next.lookup, h⟩

theorem walks_filter (hh : A.handled = none) {f it d : Addr} (kvs : List (K × Value)) (ep : Nat) (hfi : f ≠ it) (hdi : d ≠ it) (hp : ∀ kv ∈ kvs, ∃ x, isPort' x kv.2) :
    Walks prog w A f [f, it, d] [it] (passed kvs).length (fun i v => (passed kvs)[i]? = some v) (fun i h => FilSt h knd f it d kvs ep i) where
  sub := fun b hb => by simp at hb; simp [hb]
  frame := fun _ _ _ ⟨h1, h2, j, h3, h4⟩ hk => ⟨hk f (by simp) _ h1, h2.at' fun o e => hk d (by simp) o e, j, h3.at fun o e => hk it (by simp) o e, h4⟩
  item := fun i s Q E hi st hQ => by
    refine filter_next hh hfi hdi hp st (fun h' v hv st' he => hQ v h' s.toks hv st' fun b o hb e => he b o (by simpa using hb) e) (fun h' hle _ => absurd hi (by omega))
  done := fun s Q E st hQ => by
    refine filter_next hh hfi hdi hp st (fun h' v hv _ _ => ?_) (fun h' _ he => hQ h' s.toks fun b o hb e => he b o (by simpa using hb) e)
    rw [List.getElem?_eq_none (Nat.le_refl _)] at hv
    cases hv
  self := fun _ _ _ _ st hQ => pyIter_filter st.1 hQ
end
end Mine
end

section
open PySem PySem.W PyProof.Rows PySem.Calls
set_option maxRecDepth 100000
set_option maxHeartbeats 8000000
namespace Mine
section
variable {prog : Program} {w : World} {A : Around} {R : Result → Shared → Prop} {I : Addr} {fp wr : List Addr} {n : Nat} {P : Nat → Value → Prop} {St : Nat → Heap → Prop}

noncomputable abbrev dkw (dv : Value) : List (Str × Value) := [(Str.ofString "default", dv)]

/-- the loop of max with a default, from its second turn on -/
theorem maxd_loop {dv : Value} (W : Walks prog w A.in1 I fp wr n P St) (bt : Nat → Nat → Bool) (hcmp : CmpOf prog w A.in1 .Gt P bt) (S : Addr) (hSf : S ∉ fp) :
    ∀ (k j : Nat) (s : Shared) (vb : Value) (c : Nat), n - (j + 1) = k → j + 1 ≤ n → St (j + 1) s.heap → P (argBest bt j) vb →
    s.heap.get? S = some { cls := .type "list", dict := none, data := .seq #[vb, vb] c, slots := #[] } →
    (∀ v h' tk, P (argBest bt (n - 1)) v → (∀ b o, b ∉ wr → b ≠ S → s.heap.get? b = some o → h'.get? b = some o) → R (.ok (.ret v)) { s with heap := h', toks := tk }) →
    codeAny (model prog w) A (.builtin "max.loop" ⟨[.ref I, .none, .ref S], dkw dv⟩) R s := by
  have hSw : S ∉ wr := fun h => hSf (W.sub _ h)
  have hname : (toString "max" ++ toString ".loop" : String) = "max.loop" := by decide
  intro k
  induction k with
  | zero =>
    intro j s vb c hk hj hst hPb hS hR
    have hin : j + 1 = n := by omega
    refine codeAny_builtin F.entry_max_loop ?_
    rw [Around.under_plainId F.plain_max_loop _]
    show wpAny _ A.in1 (seqItems? (.ref S) >>= _) _ _ s
    refine wpAny_bind (wpAny_seqItems hS rfl ?_)
    show wpAny _ A.in1 (tryCatch (pyNext (.ref I)) _ >>= _) _ _ s
    refine wpAny_bind (wpAny_tryCatch (W.done s _ _ (hin ▸ hst) fun h' tk hk' => ?_))
    have hS' := hk' S _ hSw hS
    show wpAny _ A.in1 (updateSeq S (fun _ => #[]) >>= _) _ _ _
    refine wpAny_bind ?_
    refine wpAny_updateSeq hS' rfl (wpAny_bind (wpAny_letGo (wpAny_pure ?_)))
    exact hR vb _ tk (by rw [← hin]; exact hPb) fun b o hbw hbS e => (Heap.get?_update_other _ _ (Ne.symm hbS)).trans (hk' b o hbw e)
  | succ k ih =>
    intro j s vb c hk hj hst hPb hS hR
    have hlt : j + 1 < n := by omega
    refine codeAny_builtin F.entry_max_loop ?_
    rw [Around.under_plainId F.plain_max_loop _]
    show wpAny _ A.in1 (seqItems? (.ref S) >>= _) _ _ s
    refine wpAny_bind (wpAny_seqItems hS rfl ?_)
    show wpAny _ A.in1 (tryCatch (pyNext (.ref I)) _ >>= _) _ _ s
    refine wpAny_bind (wpAny_tryCatch (W.item (j + 1) s _ _ hlt hst fun v h' tk hP hst' hk' => ?_))
    have hS' := hk' S _ hSw hS
    show wpAny _ A.in1 (tryCatch (holding [v, v] (richCompare .Gt v vb >>= _)) _ >>= _) _ _ _
    refine wpAny_bind (wpAny_tryCatch (wpAny_holding (wpAny_bind (hcmp (j + 1) (argBest bt j) v vb _ _ _ hP hPb ?_))))
    refine wpAny_bind (wpAny_holding (wpAny_truthy_bool ?_))
    refine wpAny_bind (wpAny_letGo (wpAny_pure ?_))
    cases hb : bt (j + 1) (argBest bt j) with
    | true =>
      simp only [if_true]
      refine wpAny_bind ?_
      refine wpAny_updateSeq hS' rfl (wpAny_bind (wpAny_letGo ?_))
      rw [hname]
      refine wpAny_pure ⟨plainId_quiet F.plain_max_loop _, ih (j + 1) _ v _ (by omega) hlt (W.frame _ _ _ hst' fun b hbf o e => ?_) (by simp only [argBest, hb, if_true]; exact hP) (Heap.get?_update_self _ hS' rfl)
        fun v' h'' tk'' hP' hk'' => ?_⟩
      · exact (Heap.get?_update_other _ _ (fun h : S = b => hSf (by rw [h]; exact hbf))).trans e
      · exact hR v' h'' tk'' hP' fun b o hbw hbS e => hk'' b o hbw hbS ((Heap.get?_update_other _ _ (Ne.symm hbS)).trans (hk' b o hbw e))
    | false =>
      simp only [Bool.false_eq_true, if_false]
      refine wpAny_bind (wpAny_letGo ?_)
      rw [hname]
      refine wpAny_pure ⟨plainId_quiet F.plain_max_loop _, ih (j + 1) _ vb c (by omega) hlt hst' (by simp only [argBest, hb, Bool.false_eq_true, if_false]; exact hPb) hS' fun v' h'' tk'' hP' hk'' => ?_⟩
      exact hR v' h'' tk'' hP' fun b o hbw hbS e => hk'' b o hbw hbS (hk' b o hbw e)

theorem maxd_first {dv : Value} (W : Walks prog w A.in1 I fp wr n P St) (bt : Nat → Nat → Bool) (hcmp : CmpOf prog w A.in1 .Gt P bt) (S : Addr) (hSf : S ∉ fp) {s : Shared} {c : Nat} (hst : St 0 s.heap)
    (hS : s.heap.get? S = some { cls := .type "list", dict := none, data := .seq #[] c, slots := #[] })
    (hR : ∀ v h' tk, 0 < n → P (argBest bt (n - 1)) v → (∀ b o, b ∉ wr → b ≠ S → s.heap.get? b = some o → h'.get? b = some o) → R (.ok (.ret v)) { s with heap := h', toks := tk })
    (hD : ∀ h' tk, n = 0 → (∀ b o, b ∉ wr → s.heap.get? b = some o → h'.get? b = some o) → R (.ok (.ret dv)) { s with heap := h', toks := tk }) :
    codeAny (model prog w) A (.builtin "max.loop" ⟨[.ref I, .none, .ref S], dkw dv⟩) R s := by
  have hSw : S ∉ wr := fun h => hSf (W.sub _ h)
  have hname : (toString "max" ++ toString ".loop" : String) = "max.loop" := by decide
  refine codeAny_builtin F.entry_max_loop ?_
  rw [Around.under_plainId F.plain_max_loop _]
  show wpAny _ A.in1 (seqItems? (.ref S) >>= _) _ _ s
  refine wpAny_bind (wpAny_seqItems hS rfl ?_)
  show wpAny _ A.in1 (tryCatch (pyNext (.ref I)) _ >>= _) _ _ s
  rcases Nat.eq_zero_or_pos n with hn | hn
  · refine wpAny_bind (wpAny_tryCatch (W.done s _ _ (hn ▸ hst) fun h' tk hk' => ?_))
    show wpAny _ A.in1 (rule _ >>= _) _ _ _
    refine wpAny_bind (wpAny_rule (wpAny_pure ?_))
    exact hD h' tk hn hk'
  · refine wpAny_bind (wpAny_tryCatch (W.item 0 s _ _ hn hst fun v h' tk hP hst' hk' => ?_))
    have hS' := hk' S _ hSw hS
    show wpAny _ A.in1 (updateSeq S (fun _ => #[v, v]) >>= _) _ _ _
    refine wpAny_bind ?_
    refine wpAny_updateSeq hS' rfl ?_
    rw [hname]
    refine wpAny_pure ⟨plainId_quiet F.plain_max_loop _, maxd_loop W bt hcmp S hSf _ 0 _ v _ rfl hn (W.frame _ _ _ hst' fun b hbf o e => ?_) hP (Heap.get?_update_self _ hS' rfl) fun v' h'' tk'' hP' hk'' => ?_⟩
    · exact (Heap.get?_update_other _ _ (fun h : S = b => hSf (by rw [h]; exact hbf))).trans e
    · exact hR v' h'' tk'' hn hP' fun b o hbw hbS e => hk'' b o hbw hbS ((Heap.get?_update_other _ _ (Ne.symm hbS)).trans (hk' b o hbw e))
end

theorem max_dkw (x dv : Value) : argsOk "max" ⟨[x], dkw dv⟩ := by unfold argsOk; kernel_rfl

section
variable {prog : Program} {w : World} {A : Around} {E : Value → Shared → Prop} {s : Shared}
theorem call_max_dflt {x dv : Value} {Q : Value → Shared → Prop}
    (h : wpAny (model prog w) A.in1 (pyIter x) (fun it s₂ => ∃ I fp wr n P St bt, it = .ref I ∧ Walks prog w A.in1 I fp wr n P St ∧ St 0 s₂.heap ∧ (∀ b ∈ fp, b < s₂.heap.objs.size) ∧ CmpOf prog w A.in1 .Gt P bt ∧
      (∀ v h' tk, 0 < n → P (argBest bt (n - 1)) v → (∀ b o, b ∉ wr → s₂.heap.get? b = some o → h'.get? b = some o) → Q v { s₂ with heap := h', toks := tk }) ∧
      (∀ h' tk, n = 0 → (∀ b o, b ∉ wr → s₂.heap.get? b = some o → h'.get? b = some o) → Q dv { s₂ with heap := h', toks := tk })) E s) :
    wpAny (model prog w) A (call (.builtin "max") [x] (dkw dv)) Q E s := by
  have hname : (toString "max" ++ toString ".loop" : String) = "max.loop" := by decide
  refine kmk_tree PySem.F.kind_max PySem.F.plain_max PySem.F.entry_max (max_dkw _ _) ?_
  show wpAny _ A.in1 (Builtin.Builtins.bindParams "max" ["key", "default"] 0 ⟨[], dkw dv⟩ >>= _) _ _ s
  refine wpAny_bind (wpAny_of_eq (show Builtin.Builtins.bindParams "max" ["key", "default"] 0 ⟨[], dkw dv⟩ = pure [none, some dv] from rfl) ?_)
  refine wpAny_bind (wpAny_pure ?_)
  refine wpAny_bind (wpAny_mono h (fun it s₂ h₂ => ?_) fun _ _ e => e)
  obtain ⟨I, fp, wr, n, P, St, bt, rfl, W, hst, hfp, hcmp, hQ, hD⟩ := h₂
  refine wpAny_bind (wpAny_newObj_type ?_)
  have hSf : s₂.heap.objs.size ∉ fp := fun hm => Nat.lt_irrefl _ (hfp _ hm)
  rw [hname]
  refine wpAny_pure ⟨plainId_quiet F.plain_max_loop _, maxd_first W bt hcmp s₂.heap.objs.size hSf (W.frame _ _ _ hst fun b _ o e => Heap.get?_push_of_some _ e) (Heap.get?_push_size _ rfl) (fun v h' tk hn hP hk => ?_) (fun h' tk hn hk => ?_)⟩
  · exact hQ v h' tk hn hP fun b o hbw e => hk b o hbw (Nat.ne_of_lt (Heap.lt_size e)) (Heap.get?_push_of_some _ e)
  · exact hD h' tk hn fun b o hbw e => hk b o hbw (Heap.get?_push_of_some _ e)
end
end Mine
end

section
open PySem PySem.W PyProof.Rows PySem.Calls
set_option maxRecDepth 100000
set_option maxHeartbeats 8000000
namespace Mine
theorem entry_citer : entryFor table "proto.contains_iter" = some Builtin.«proto.contains_iter» := entryFor_of_tree (by kernel_rfl)
theorem plain_citer : plainId "proto.contains_iter" = true := by decide +kernel
theorem vals_nocontains : typeLookup (.type "dict_values") "__contains__" = pure none := by rw [typeLookup_type, builtinLookup_eq_fast]; kernel_rfl

section
variable {prog : Program} {w : World} {A : Around} {R : Result → Shared → Prop} {I : Addr} {fp wr : List Addr} {n : Nat} {P : Nat → Value → Prop} {St : Nat → Heap → Prop}

/-- x in .., by iteration -/
theorem citer_code (W : Walks prog w A.in1 I fp wr n P St) {x : Value} (e : Nat → Bool) (he : ∀ i v s, P i v → SeqAt.EqAt A.in1 s v x (e i)) :
    ∀ (k j : Nat) {s : Shared}, n - j = k → j ≤ n → St j s.heap →
      (∀ h' tk, (∀ b o, b ∉ wr → s.heap.get? b = some o → h'.get? b = some o) → R (.ok (.ret (.bool (((List.range n).drop j).any e)))) { s with heap := h', toks := tk }) →
      codeAny (model prog w) A (.builtin "proto.contains_iter" ⟨[.ref I, x], []⟩) R s := by
  intro k
  induction k with
  | zero =>
    intro j s hk hj hst hR
    have hin : j = n := by omega
    refine codeAny_builtin entry_citer ?_
    rw [Around.under_plainId plain_citer _]
    show wpAny _ A.in1 (pyNext (.ref I) >>= _) _ _ s
    refine wpAny_bind (W.done s _ _ (hin ▸ hst) fun h' tk hk' => ?_)
    refine wpAny_bind (wpAny_rule (wpAny_pure ?_))
    have := hR h' tk hk'
    rw [List.drop_eq_nil_of_le (by simp; omega)] at this
    exact this
  | succ k ih =>
    intro j s hk hj hst hR
    have hlt : j < n := by omega
    refine codeAny_builtin entry_citer ?_
    rw [Around.under_plainId plain_citer _]
    show wpAny _ A.in1 (pyNext (.ref I) >>= _) _ _ s
    refine wpAny_bind (W.item j s _ _ hlt hst fun v h' tk hP hst' hk' => ?_)
    dsimp only
    have hd : (List.range n).drop j = j :: (List.range n).drop (j + 1) := by
      rw [List.drop_eq_getElem_cons (by simpa using hlt)]
      simp
    rw [hd, List.any_cons] at hR
    refine wpAny_bind (he j v _ hP prog w _ _ ?_)
    cases hb : e j with
    | true =>
      rw [if_pos rfl]
      refine wpAny_bind (wpAny_rule (wpAny_pure ?_))
      have := hR h' tk hk'
      rw [hb, Bool.true_or] at this
      exact this
    | false =>
      rw [if_neg (by simp)]
      refine wpAny_pure ⟨plainId_quiet plain_citer _, ih (j + 1) (s := { s with heap := h', toks := tk }) (by omega) hlt hst' fun h'' tk'' hk'' => ?_⟩
      have := hR h'' tk'' fun b o hb' e' => hk'' b o hb' (hk' b o hb' e')
      rw [hb, Bool.false_or] at this
      exact this
end

section
variable {prog : Program} {w : World} {K : Type} [DecidableEq K] {knd : PySem.KeyKind prog w K} {A : Around} {E : Value → Shared → Prop} {s : Shared}

/-- x in d.values() -/
theorem in_values {v d : Addr} {kvs : List (K × Value)} {ep : Nat} {x : Value} {Q : Value → Shared → Prop} (hh : A.handled = none) (hv : s.heap.IsValuesView v d) (hm : s.heap.DictAt knd d kvs ep)
    (e : Value → Bool) (he : ∀ kv ∈ kvs, ∀ s, SeqAt.EqAt A.in1 s kv.2 x (e kv.2)) (hb : ∀ b, stdlibNamesSay? (.ref v) b = none)
    (h : ∀ h' tk, s.heap.StaysIn h' → Q (.bool ((kvs.map (·.2)).any e)) { s with heap := h', toks := tk }) :
    wpAny (model prog w) A (compareOp .In x (.ref v)) Q E s := by
  show wpAny _ A (do return .bool (← contains (.ref v) x)) Q E s
  refine wpAny_bind ?_
  unfold contains
  refine wpAny_holding ?_
  rw [hb]
  dsimp only
  refine wpAny_bind (wpAny_specialOf hv.typeIs vals_nocontains ?_)
  rw [if_neg (by simp)]
  refine wpAny_bind (wpAny_callSpecialUnlessNone?_none hv.typeIs vals_nocontains ?_)
  dsimp only
  refine wpAny_bind (wpAny_rule ?_)
  refine wpAny_bind (wpAny_tryCatch (wpAny_pyIter_values hv hm ?_))
  have hd : d < s.heap.objs.size := by
    obtain ⟨o, _, ho, _⟩ := hm
    exact Heap.lt_size ho
  have k1 : s.heap.StaysIn (s.heap.push { cls := .type "dict_valueiterator", data := .fields #[.ref d, .int 0 0, .int kvs.length 0, .int ep 0] }) := fun b o e => Heap.get?_push_of_some _ e
  refine wpAny_bind (wpAny_runValue (citer_code (Walks.dictValues (knd := knd) (A := A.in1) hh s.heap.objs.size d (Nat.ne_of_lt hd) kvs ep) (fun i => ((kvs[i]?).map fun kv => e kv.2).getD false) ?_ _ 0 rfl (Nat.zero_le _) ?_ ?_))
  · rintro i v' s' ⟨k, hk⟩
    rw [hk]
    exact he _ (List.mem_of_getElem? hk) s'
  · exact ⟨⟨_, Heap.get?_push_size _ rfl, rfl, rfl⟩, hm.at' fun o e => k1 _ _ e⟩
  · intro h' tk hk
    refine wpAny_pure (wpAny_pure ?_)
    have e1 : ((List.range kvs.length).drop 0).any (fun i => ((kvs[i]?).map fun kv => e kv.2).getD false) = (kvs.map (·.2)).any e := by
      rw [List.drop_zero, Bool.eq_iff_iff, List.any_eq_true, List.any_eq_true]
      constructor
      · rintro ⟨i, hi, h1⟩
        have hi' : i < kvs.length := by simpa using hi
        rw [List.getElem?_eq_getElem hi'] at h1
        exact ⟨_, List.mem_map_of_mem (List.getElem_mem hi'), h1⟩
      · rintro ⟨v', hv', h1⟩
        obtain ⟨kv, hkv, rfl⟩ := List.mem_map.mp hv'
        obtain ⟨i, hi⟩ := List.getElem?_of_mem hkv
        refine ⟨i, by simpa using (List.getElem?_eq_some_iff.mp hi).1, ?_⟩
        rw [hi]
        exact h1
    have := h h' tk fun b o e => hk b o (fun hm => Nat.ne_of_lt (Heap.lt_size e) (List.mem_singleton.mp hm)) (k1 _ _ e)
    rw [← e1] at this
    exact this
end
end Mine
end

section
open PySem PySem.W PyProof.Rows PySem.Calls
set_option maxRecDepth 100000
set_option maxHeartbeats 8000000
namespace Mine
/-! No rule of the walker takes these calls: it stops ahead of them at once. -/
local macro_rules | `(tactic| k_steps) => `(tactic| repeat' (first | (k_unfold; (try dsimp only)) | (k_end; wrow_close) | ((fail_if_success (with_reducible show wpAny _ _ (getMethod _ _ _) _ _ _)); walk1) | (dsimp only; (fail_if_success (with_reducible show wpAny _ _ (getMethod _ _ _) _ _ _)); walk1) | (leave1; try dsimp only) | fail "no step"))
theorem fillLine (P : Params) : PySem.Challenge.rw_yh0005_01 = PySem.Challenge.rw_yh0005_01 → hd.heap_1 P = hd.heap_1 P := by
  k_fill
  intro _
  rfl


theorem args_dvals (a : Value) : argsOk "dict.values" ⟨[a], []⟩ := by unfold argsOk; kernel_rfl

theorem dictOf_keeps {prog : Program} {w : World} {h h' : Heap} {d : Addr} {kvs : List (Int × Value)} (hd : h.DictOf (intKind prog w) d kvs) (hk : h.StaysIn h') : h'.DictOf (intKind prog w) d kvs :=
  let ⟨o, es, ep, ho, r⟩ := hd; ⟨o, es, ep, hk _ _ ho, r⟩

theorem fr_up {h₀ h h' : Heap} {L : Addr} {m : Str → Option Value} (F : Fr h₀ L h m) (hk : h.StaysIn h') : Fr h₀ L h' m := ⟨F.ns.keeps hk, fun b o e => hk _ _ (F.keep b o e), F.above⟩

theorem off_fr {h₀ h h' : Heap} {L a : Addr} {m : Str → Option Value} (F : Fr h₀ L h m) (hk : ∀ b o, b ≠ a → h.get? b = some o → h'.get? b = some o) (hL : L ≠ a) (h0 : h₀.get? a = none) : Fr h₀ L h' m := by
  obtain ⟨oL, es, ep, hL', r⟩ := F.ns
  exact ⟨⟨oL, es, ep, hk _ _ hL hL', r⟩, fun b o e => hk _ _ (fun q => by rw [q, h0] at e; cases e) (F.keep _ _ e), F.above⟩

section
variable {prog : Program} {w : World} {A : Around} {E : Value → Shared → Prop} {s : Shared} {env : Env}
/-- d.values() -/
theorem values_call {d : Addr} {kvs : List (Int × Value)} {pos : Pos} {Q : Value → Shared → Prop} (hd : s.heap.DictOf (intKind prog w) d kvs) (hsys : (d == sysModules) = false)
    (h : Q (.ref s.heap.objs.size) { s with heap := s.heap.push { cls := .type "dict_values", data := .fields #[.ref d] } }) :
    wpAny (model prog w) A (callWith pos (.builtin "dict.values") [.ref d] (backTo pos (starEach [] env)) []) Q E s :=
  Calls.callWith_builtin rfl (PyProof.Rows.evalArgs_none (call_meetsIn F.slot_dict_values hd.typeIs F.entry_dict_values (args_dvals _) (meets_dict_values (intKind prog w) d hsys) ⟨⟨kvs, hd⟩, h⟩))
end

/-- the ports that are not 0 -/
noncomputable def nz (ps : List (Option Int)) : List Int := (ps.filterMap id).filter (· != 0)

theorem port_eq : ∀ {x : Option Int} {v : Value}, isPort x v ↔ isPort' x v
  | none, _ => Iff.rfl
  | some _, _ => Iff.rfl

theorem passed_ints : ∀ {ps : List (Option Int)} {kvs : List (Int × Value)}, Paired isPort ps (kvs.map (·.2)) → IntsAre (passed kvs) (nz ps) := by
  intro ps
  induction ps with
  | nil =>
    intro kvs h
    cases kvs with
    | nil => exact .nil
    | cons a r => cases h
  | cons p ps ih =>
    intro kvs h
    cases kvs with
    | nil => cases h
    | cons a kvs =>
      obtain ⟨k, v⟩ := a
      cases h with
      | cons h t =>
        cases p with
        | none =>
          have e : v = .none := h
          subst e
          have ih := ih t
          exact ih
        | some p =>
          obtain ⟨u, e⟩ : ∃ u, v = .int p u := h
          subst e
          have ih := ih t
          unfold passed nz at ih ⊢
          simp only [List.map_cons, List.filter_cons, List.filterMap_cons, id]
          by_cases hp : (p != 0) = true
          · rw [if_pos (show passes (.int p u) = true from hp), if_pos hp]
            exact .cons _ _ ih
          · rw [if_neg (show ¬ passes (.int p u) = true from hp), if_neg hp]
            exact ih
theorem ints_at {vs : List Value} {ns : List Int} (h : IntsAre vs ns) : ∀ {i : Nat} {v : Value}, vs[i]? = some v → ∃ t, v = .int (ns.getD i 0) t := by
  induction h with
  | nil => intro i v e; simp at e
  | cons n t r ih =>
    intro i v e
    cases i with
    | zero => cases e; exact ⟨t, rfl⟩
    | succ i =>
      obtain ⟨u, h⟩ := ih (by simpa using e)
      exact ⟨u, by simpa using h⟩
theorem argBest_best {val : Nat → Int} : ∀ {n : Nat}, argBest (fun i j => decide (val i > val j)) n ≤ n ∧ ∀ j, j ≤ n → val j ≤ val (argBest (fun i j => decide (val i > val j)) n)
  | 0 => ⟨Nat.le_refl _, fun j h => by rw [Nat.le_zero.mp h]; exact Int.le_refl _⟩
  | n + 1 => by
    obtain ⟨h1, h2⟩ := argBest_best (val := val) (n := n)
    simp only [argBest]
    by_cases hb : val (n + 1) > val (argBest (fun i j => decide (val i > val j)) n)
    · rw [if_pos (by simpa using hb)]
      refine ⟨Nat.le_refl _, fun j hj => ?_⟩
      rcases Nat.lt_or_ge n j with h | h
      · rw [show j = n + 1 by omega]; exact Int.le_refl _
      · have := h2 j h
        omega
    · rw [if_neg (by simpa using hb)]
      refine ⟨by omega, fun j hj => ?_⟩
      rcases Nat.lt_or_ge n j with h | h
      · rw [show j = n + 1 by omega]; omega
      · exact h2 j h

theorem nz_best {ps : List (Option Int)} (hb : ∀ p, some p ∈ ps → 0 ≤ p ∧ p < 100000) (hn : 0 < (nz ps).length) {M : Int}
    (e : M = (nz ps).getD (argBest (fun i j => decide ((nz ps).getD i 0 > (nz ps).getD j 0)) ((nz ps).length - 1)) 0) :
    M ∈ [0] ++ ps.filterMap id ∧ (∀ a, a ∈ [0] ++ ps.filterMap id → a ≤ M) ∧ 0 < M ∧ M < 100000 := by
  obtain ⟨h1, h2⟩ := argBest_best (val := fun i => (nz ps).getD i 0) (n := (nz ps).length - 1)
  have hm : M ∈ nz ps := by
    rw [e]
    exact kso_getD (by omega)
  have hm2 : M ∈ ps.filterMap id ∧ M ≠ 0 := by
    unfold nz at hm
    obtain ⟨a, b⟩ := List.mem_filter.mp hm
    exact ⟨a, by simpa using b⟩
  have hbM : 0 ≤ M ∧ M < 100000 := by
    obtain ⟨x, hx, hy⟩ := List.mem_filterMap.mp hm2.1
    cases x with
    | none => cases hy
    | some q => cases hy; exact hb M hx
  refine ⟨List.mem_append_right _ hm2.1, fun a ha => ?_, by have := hm2.2; omega, hbM.2⟩
  rcases List.mem_append.mp ha with h | h
  · rw [List.mem_singleton.mp h]; exact hbM.1
  · by_cases h0 : a = 0
    · rw [h0]; exact hbM.1
    · have : a ∈ nz ps := List.mem_filter.mpr ⟨h, by simpa using h0⟩
      obtain ⟨j, hj⟩ := List.getElem?_of_mem this
      obtain ⟨hj1, hj2⟩ := List.getElem?_eq_some_iff.mp hj
      have := h2 j (by omega)
      rw [e]
      simpa [hj2, List.getD_eq_getElem?_getD, hj] using this

theorem nz_none {ps : List (Option Int)} (hn : (nz ps).length = 0) : wideOf ps = 0 := by
  refine wide_zero (M := 0) (by simp) (fun a ha => ?_) rfl
  rcases List.mem_append.mp ha with h | h
  · rw [List.mem_singleton.mp h]; exact Int.le_refl _
  · by_cases h0 : a = 0
    · rw [h0]; exact Int.le_refl _
    · have : a ∈ nz ps := List.mem_filter.mpr ⟨h, by simpa using h0⟩
      rw [List.length_eq_zero_iff.mp hn] at this
      cases this

section
variable {prog : Program} {w : World} {A : Around} {E : Value → Shared → Prop} {s : Shared} {env : Env}
theorem at_values {d : Addr} {kvs : List (Int × Value)} {pos : Pos} {pl : Sem Bool} {Q : Value → Shared → Prop} (hsys : (d == sysModules) = false) (hd : ({α : Prop} → α → α) → s.heap.DictOf (intKind prog w) d kvs)
    (h : ∀ v h' ep, h'.IsValuesView v d → h'.DictAt (intKind prog w) d kvs ep → s.heap.StaysIn h' → Q (.ref v) { s with heap := h' }) :
    wpAny (model prog w) A (getMethod (.ref d) (Str.ofString "values") pl) (fun fx s₂ => wpAny (model prog w) A (callWith pos fx.1 fx.2 (backTo pos (starEach [] env)) []) Q E s₂) E s := by
  have hd := hd id
  refine getMethod_builtin hd.typeIs PySem.F.plainAttrs_dict F.slot_dict_values F.type_dict_values hd.mapOf.noDict ?_
  dsimp only
  refine values_call hd hsys ?_
  have k2 : s.heap.StaysIn (s.heap.push { cls := .type "dict_values", data := .fields #[.ref d] }) := fun b o e => Heap.get?_push_of_some _ e
  obtain ⟨o, es, ep, hat⟩ := dictOf_keeps hd k2
  exact h _ _ ep ⟨_, Heap.get?_push_size _ rfl, rfl, rfl⟩ ⟨o, es, hat⟩ k2
end

theorem line_spec (w : World) {A : Around} {s : Shared} {R : Result → Shared → Prop} {mean : ExcName → Option Value} {mg mb : Str → Option Value} {d : Addr} {kvs : List (Int × Value)} {ps : List (Option Int)}
    (C : Cx w mean mg mb s.heap) (hroom : A.depth ≤ 500) (hh : A.handled = none) (hsys : (d == sysModules) = false) (hd : s.heap.DictOf (intKind PySem.Challenge.rw_yh0005_01.row.prog w) d kvs) (hc : Paired isPort ps (kvs.map (·.2))) (hsz : ps.length ≤ 100) (hb : ∀ p, some p ∈ ps → 0 ≤ p ∧ p < 100000)
    (h : ∀ h' tk t', s.heap.StaysIn h' → R (.ok (.ret (.int (wideOf ps) t'))) { s with heap := h', toks := tk }) :
    codeAny (model PySem.Challenge.rw_yh0005_01.row.prog w) A (.call (.ref 111) ⟨[.ref d], []⟩) R s := by
  have X' := C.X
  refine' enter C (fun _ _ e => e) (Nat.le_refl _) ?k1 ?k2 (Nat.lt_of_le_of_lt hroom (by decide)) ?k3 ?k4 ?k5 ?k6 ?k7 ?k8 ?_
  (case k1 => k_is)
  (case k2 => k_is)
  (case k3 => exact BindsTo.of_eq rfl)
  (case k4 => exact locs rfl)
  (case k5 => decide)
  (case k6 => exact rfl)
  (case k7 => exact rfl)
  (case k8 => exact rfl)
  intro L h₁ hL F' hk₁
  have N' : News s.heap L h₁ [] := News.nil
  have T' := C.T
  (try dsimp only)
  (try k_fold)
  k_steps
  have hd₁ : h₁.DictOf (intKind PySem.Challenge.rw_yh0005_01.row.prog w) d kvs := dictOf_keeps hd hk₁
  refine getMethod_builtin hd₁.typeIs PySem.F.plainAttrs_dict F.slot_dict_values F.type_dict_values hd₁.mapOf.noDict ?_
  dsimp only
  refine values_call hd₁ hsys ?_
  refine spliced_none ?_
  dsimp only
  have k2 : h₁.StaysIn (h₁.push { cls := .type "dict_values", data := .fields #[.ref d] }) := fun b o e => Heap.get?_push_of_some _ e
  obtain ⟨o, es, ep, hat⟩ := dictOf_keeps hd₁ k2
  refine call_filter (knd := intKind PySem.Challenge.rw_yh0005_01.row.prog w) (d := d) (kvs := kvs) (ep := ep) ⟨_, Heap.get?_push_size _ rfl, rfl, rfl⟩ ⟨o, es, hat⟩ fun h₃ hf₃ hi₃ hk₃ hs₃ => ?_
  refine spliced_none ?_
  dsimp only
  have F3 : Fr s.heap L h₃ _ := fr_up F' fun b o e => hk₃ _ _ (k2 _ _ e)
  have N3 : News s.heap L h₃ [] := News.nil
  clear N'
  k_steps
  have hp : ∀ kv ∈ kvs, ∃ x, isPort' x kv.2 := fun kv hkv => by
    rcases port_val hc (List.mem_map_of_mem hkv) with e | ⟨p, u, e⟩
    · exact ⟨none, e⟩
    · exact ⟨some p, u, e⟩
  have hI := passed_ints hc
  have hlen : (passed kvs).length = (nz ps).length := hI.length
  have hsd : d < h₁.objs.size := by
    obtain ⟨o', _, _, e, _⟩ := hd₁
    exact Heap.lt_size e
  have hLl : L < h₁.objs.size := F'.ns.lt
  have hLa : L ≠ h₁.objs.size + 1 := Nat.ne_of_lt (Nat.lt_succ_of_lt hLl)
  have ha0 : s.heap.get? (h₁.objs.size + 1) = none := Heap.get?_none_of_le (Nat.le_trans F'.above (Nat.le_of_lt (Nat.lt_succ_of_lt hLl)))
  rw [Heap.size_push] at hf₃ hi₃ hs₃
  refine call_max_dflt (pyIter_filter (it := h₁.objs.size + 1) (by first | exact hf₃ | (rw [Heap.size_push]; exact hf₃)) ?_)
  refine ⟨_, _, _, _, _, _, _, rfl, walks_filter (A := (A.deeper _).in1) (by exact hh) (knd := intKind PySem.Challenge.rw_yh0005_01.row.prog w) (it := h₁.objs.size + 1) (d := d) kvs ep (by rw [Heap.size_push]; exact Nat.succ_ne_self _) (Nat.ne_of_lt (Nat.lt_succ_of_lt hsd)) hp, ⟨by first | exact hf₃ | (rw [Heap.size_push]; exact hf₃), ⟨o, es, hat.1.symm ▸ hk₃ _ _ hat.1, hat.2⟩, 0, hi₃, rfl⟩, ?_, CmpOf.ints_gt (fun i => (nz ps).getD i 0) (fun i v hv => ints_at hI hv), ?_, ?_⟩
  · intro b hb'
    show b < h₃.objs.size
    rw [hs₃]
    rw [Heap.size_push] at hb'
    rcases List.mem_cons.mp hb' with rfl | hb'
    · exact Nat.lt_succ_self _
    · rcases List.mem_cons.mp hb' with rfl | hb'
      · exact Nat.lt_succ_of_lt (Nat.lt_succ_self _)
      · rw [List.mem_singleton.mp hb']
        exact Nat.lt_succ_of_lt (Nat.lt_succ_of_lt (Nat.lt_succ_of_lt hsd))
  · intro v h' tk' hn hv hk
    obtain ⟨t4, rfl⟩ := ints_at hI hv
    rw [hlen] at hn
    generalize hM : (nz ps).getD (argBest (fun i j => decide ((nz ps).getD i 0 > (nz ps).getD j 0)) ((passed kvs).length - 1)) 0 = M
    rw [hlen] at hM
    obtain ⟨q1, q2, q3, q4⟩ := nz_best hb hn hM.symm
    have F5 := off_fr F3 (fun b o hb' e => hk b o (by simpa using hb') e) hLa ha0
    have N5 : News s.heap L h' [] := News.nil
    obtain ⟨⟨l1, l2⟩, l3, l4, l5⟩ := fig_wide (Int.le_of_lt q3) q4
    k_steps
    · exact absurd (by assumption : M = -1) (by omega)
    refine max_two_ints (by exact hh) ?_
    intro h6 tk6 hk6
    have F6 := fr_up (by assumption : Fr s.heap L _ _) hk6
    have N6 : News s.heap L h6 [] := News.nil
    dsimp only
    by_cases c1 : M < 1000
    · rw [if_neg (by have := l3 c1; omega)]
      k_steps
      refine at_values (d := d) (kvs := kvs) hsys (fun hp => dictOf_keeps hd (hp (Fr.keep (by assumption)))) ?_
      intro v7 h7 ep7 hv7 hm7 hk7
      dsimp only
      refine in_values (A := A.deeper _) (by exact hh) hv7 hm7 (fun v => v == .none) ?_ (fun _ => rfl) ?_
      · intro kv hkv s'
        rcases port_val hc (List.mem_map_of_mem hkv) with e | ⟨p, u, e⟩
        · rw [e]; exact SeqAt.EqAt.same _
        · rw [e]; exact SeqAt.EqAt.int_none _ _
      · intro h8 tk8 hk8
        have hany := port_any hc
        rw [List.any_toArray] at hany
        rw [hany]
        have F8 := fr_up (by assumption : Fr s.heap L _ _) fun b o e => hk8 _ _ (hk7 _ _ e)
        have N8 : News s.heap L h8 [] := News.nil
        have hc3 : decide (10 ^ (3 : Int).toNat ≤ M) = false := decide_eq_false (by show ¬ (1000 : Int) ≤ M; omega)
        k_steps
        · dsimp only
          exact fin_wide (s := s) h (by assumption) (wide_three q1 q2 (by omega) rfl hc3 (by assumption) rfl)
        · dsimp only
          exact fin_wide (s := s) h F8 (wide_three q1 q2 (by omega) rfl hc3 (by first | assumption | (simpa using (by assumption : ¬ _ = true))) rfl)
    · have hw : wideOf ps = ((Str.ofString (toString M)).length : Int) := by
        by_cases c2 : M < 10000
        · rw [l4 (by omega) c2]
          exact wide_other q1 q2 (k := 4) (by omega) (by decide) (by decide) (by decide) (fun j a b => decide_eq_true (by obtain rfl : j = 3 := by omega
                                                                                                                          show (1000 : Int) ≤ M
                                                                                                                          omega))
            (decide_eq_false (by show ¬ (10000 : Int) ≤ M; omega))
        · rw [l5 (by omega)]
          exact wide_other q1 q2 (k := 5) (by omega) (by decide) (by decide) (by decide) (fun j a b => decide_eq_true (by obtain rfl | rfl : j = 3 ∨ j = 4 := by omega
                                                                                                                          · show (1000 : Int) ≤ M
                                                                                                                            omega
                                                                                                                          · show (10000 : Int) ≤ M
                                                                                                                            omega))
            (decide_eq_false (by show ¬ (100000 : Int) ≤ M; omega))
      have hge : (4 : Int) ≤ ((Str.ofString (toString M)).length : Int) := by
        by_cases c2 : M < 10000
        · rw [l4 (by omega) c2]; decide
        · rw [l5 (by omega)]; decide
      rw [if_pos (by omega)]
      k_steps
      dsimp only
      exact fin_wide (s := s) h (by assumption) hw
  · intro h' tk' hn hk
    rw [hlen] at hn
    have F5 := off_fr F3 (fun b o hb' e => hk b o (by simpa using hb') e) hLa ha0
    have N5 : News s.heap L h' [] := News.nil
    k_steps
    dsimp only
    exact fin_wide (s := s) h (by assumption) (nz_none hn)
end Mine
end

section
open PySem PySem.W PyProof.Rows PySem.Calls
set_option maxRecDepth 100000
set_option maxHeartbeats 8000000
namespace Mine
/-! No rule of the walker takes these calls: it stops ahead of them at once. -/
local macro_rules | `(tactic| k_steps) => `(tactic| repeat' (first | (k_unfold; (try dsimp only)) | (k_end; wrow_close) | ((fail_if_success (with_reducible show wpAny _ _ (getMethod _ _ _) _ _ _)); walk1) | (dsimp only; (fail_if_success (with_reducible show wpAny _ _ (getMethod _ _ _) _ _ _)); walk1) | (leave1; try dsimp only) | fail "no step"))
theorem fillRight2 (P : Params) : PySem.Challenge.rw_yh0005_01 = PySem.Challenge.rw_yh0005_01 → hd.heap_1 P = hd.heap_1 P := by
  k_fill
  intro _
  rfl

/-- the key of a port -/
noncomputable def keyOf (x : Option Int) (wd : Int) : Int := if wd > 0 then (match x with | none => 19 | some p => 2 * p) else 0

noncomputable abbrev ord1 (m : Str → Option Value) (Po : Addr) : Str → Option Value := fun y => if y = Str.ofString "order" then some (.ref Po) else m y
noncomputable abbrev ord2 (m : Str → Option Value) (Po : Addr) (vk vy : Option Value) : Str → Option Value := bindM (bindM (ord1 m Po) (Str.ofString "k") vk) (Str.ofString "key") vy
theorem ord2_k (m : Str → Option Value) (Po : Addr) (vk vy : Option Value) (a : Value) (y : Str) : (if y = Str.ofString "k" then some a else ord2 m Po vk vy y) = ord2 m Po (some a) vy y := by
  have h1 : Str.ofString "k" ≠ Str.ofString "key" := by decide
  simp only [ord2, bindM]
  by_cases e1 : y = Str.ofString "k"
  · subst e1; simp [h1]
  · simp [e1]
theorem ord2_key (m : Str → Option Value) (Po : Addr) (vk vy : Option Value) (a : Value) (y : Str) : (if y = Str.ofString "key" then some a else ord2 m Po vk vy y) = ord2 m Po vk (some a) y := by
  simp only [ord2, bindM]
  by_cases e1 : y = Str.ofString "key"
  · subst e1; simp
  · simp [e1]
theorem ord2_start (m : Str → Option Value) (Po : Addr) (y : Str) : ord1 m Po y = ord2 m Po (m (Str.ofString "k")) (m (Str.ofString "key")) y := by
  have h1 : Str.ofString "k" ≠ Str.ofString "order" := by decide
  have h2 : Str.ofString "key" ≠ Str.ofString "order" := by decide
  simp only [ord2, bindM]
  by_cases e1 : y = Str.ofString "key"
  · subst e1; simp [h2]
  · by_cases e2 : y = Str.ofString "k"
    · subst e2; simp [e1, h1]
    · simp [e1, e2]

theorem news2a {h₀ h : Heap} {L a b : Addr} {x y : Obj} {l : List (Addr × Obj)} (h1 : h.get? a = some x ∧ a ≠ L ∧ h₀.get? a = none) (h2 : h.get? b = some y ∧ b ≠ L ∧ h₀.get? b = none) (N : News h₀ L h l) : News h₀ L h ((a, x) :: (b, y) :: l) := fun p hp => by
  rcases List.mem_cons.mp hp with rfl | hp
  · exact h1
  rcases List.mem_cons.mp hp with rfl | hp
  · exact h2
  · exact N p hp
theorem allLt_get {d : Addr} {p : Addr × Obj} : ∀ {l : List (Addr × Obj)}, AllLt d l → p ∈ l → p.1 < d
  | _ :: _, h, hm => (List.mem_cons.mp hm).elim (fun e => e ▸ h.1) fun m => allLt_get h.2 m
/-- pairs of a key and a number -/
noncomputable def PairsAt (h : Heap) (items : List Value) (ks : List Int) : Prop :=
  items.length = ks.length ∧ ∀ (j : Nat) (k : Int), ks[j]? = some k → ∃ (T : Addr) (t u : Tok), items[j]? = some (Value.ref T) ∧ h.IsTuple T #[Value.int k t, Value.int (j : Int) u]
theorem PairsAt.at {h h' : Heap} {items : List Value} {ks : List Int} (X : PairsAt h items ks) (e : ∀ T its, h.IsTuple T its → h'.IsTuple T its) : PairsAt h' items ks :=
  ⟨X.1, fun j k hk => let ⟨T, t, u, h1, h2⟩ := X.2 j k hk; ⟨T, t, u, h1, e _ _ h2⟩⟩
theorem PairsAt.snoc {h : Heap} {items : List Value} {ks : List Int} {T : Addr} {k : Int} {t u : Tok} (X : PairsAt h items ks) (hT : h.IsTuple T #[Value.int k t, Value.int (ks.length : Int) u]) : PairsAt h (items ++ [.ref T]) (ks ++ [k]) := by
  refine ⟨by simp [X.1], fun j k' e => ?_⟩
  by_cases hj : j < ks.length
  · rw [List.getElem?_append_left hj] at e
    obtain ⟨T', t', u', h1, h2⟩ := X.2 j k' e
    exact ⟨T', t', u', by rw [List.getElem?_append_left (by rw [X.1]; exact hj)]; exact h1, h2⟩
  · rw [List.getElem?_append_right (Nat.le_of_not_lt hj)] at e
    have hj' : j - ks.length = 0 := by
      rcases Nat.eq_zero_or_pos (j - ks.length) with h0 | h0
      · exact h0
      · rw [List.getElem?_eq_none (by simp; omega)] at e; cases e
    rw [hj'] at e
    cases e
    have hj2 : j = ks.length := by omega
    subst hj2
    refine ⟨T, t, u, ?_, hT⟩
    rw [List.getElem?_append_right (by rw [X.1]; omega), X.1]
    simp

section
variable {w : World} {A : Around} {s : Shared} {base : Heap} {outer : List Env} {mean : ExcName → Option Value} {mg mb : Str → Option Value} {g : Heap}
  {name qual : Str} {params : Arguments} {body : List Stmt} {scope : Scope} {dV kV doc pm cdv ct oc : Value} {an od : Option Addr} {osl : Array (Option Value)}
  {L Pp : Addr} {hf : Heap} {tkf : Nat} {Q : Flow → Shared → Prop} {m : Str → Option Value} {ps : List (Option Int)}

theorem right_2t {Po : Addr} {itm : List Value} {i key : Int} {ti ty : Tok} {h : Heap} {tk : Nat} (ho : (hd.heap_1 w.params).lookup 191 = some ⟨oc, od, .func (fnOf name qual params body scope dV kV doc pm an cdv ct), osl⟩)
    (C : Cx w mean mg mb g) (F : Fr g L h (ord2 m Po (some (.int i ti)) (some (.int key ty)))) (Oa : PlainL h Po itm.toArray) (hPo0 : g.get? Po = none) (hPoL : Po ≠ L) (hsz : itm.length ≤ 20)
    (done : ∀ h' tk T t' u', Fr g L h' (ord2 m Po (some (.int i ti)) (some (.int key ty))) → (∀ b o, b ≠ L → b ≠ Po → h.get? b = some o → h'.get? b = some o) → PlainL h' Po (itm ++ [PySem.Value.ref T]).toArray → h'.IsTuple T #[PySem.Value.int key t', PySem.Value.int i u'] → Q .next { s with heap := h', toks := tk }) :
    wpAny (model PySem.Challenge.rw_yh0005_01.row.prog w) (A.deeper (envOfC qual scope L 191 cdv)) (execs ((piece [4] body).drop 2) (envOfC qual scope L 191 cdv)) Q (fun _ _ => False) { s with heap := h, toks := tk } := by
  refine (fun (e2 : (hd.heap_1 w.params).lookup 191 = some ⟨_, _, .func (fnOf _ _ _ _ _ _ _ _ _ _ _ _), _⟩) => ?_) (by k_is)
  rw [ho] at e2
  injection e2 with e2
  injection e2 with e3 e4 e5 e6
  injection e5 with e5
  injection e5 with n1 n2 n3 n4 n5
  injection n4 with n4
  subst_vars
  clear ho
  refine wpAny_execs_cons ?_
  have X' := C.X
  have T' := C.T
  have F' := F
  have N' : News g L h (allAt g L h) := allAt_news g L h
  have kb := @kept_same _ _ _ _ F
  k_steps
  refine getMethod_list_of slot_list_append typeOf_append Oa.isList (noDict_plain Oa) ?_
  dsimp only
  k_steps
  rename_i T h1 F1 N1 l1
  have k1 := kb F1 (fun p hp => N1 p (.tail _ hp))
  have Ob : PlainL h1 Po itm.toArray := plain_at Oa fun o e => k1 _ _ hPoL e
  refine list_append_plainL Ob (fun h7 hP7 hs7 => ?_) (by rw [List.size_toArray, sizeLine_eq]; omega)
  have hk7 : ∀ b o, b ≠ Po → h1.get? b = some o → h7.get? b = some o := fun b o hb e => (hs7.2 b hb).trans e
  have hT : T ≠ Po := by
    rintro rfl
    obtain ⟨oz, nz, hz, hc, _⟩ := Ob
    have := (N1 _ (.head _)).1
    rw [hz] at this; cases this; injection hc with hc; exact absurd hc (by decide)
  refine wpAny_execs_nil (done h7 _ T ty ti (off_fr' F1 hk7 hPoL.symm hPo0) (fun b o hb hb' e => hk7 _ _ hb' (k1 _ _ hb e)) (by rw [← List.push_toArray]; exact hP7) ⟨_, hk7 _ _ hT (N1 _ (.head _)).1, rfl, _, rfl⟩)

theorem tuple_keepI {h h' : Heap} {l I : Addr} {items : Array Value} (H : h.IsTuple l items) (hI : FldAt h I) (hk : ∀ b o, b ≠ I → h.get? b = some o → h'.get? b = some o) : h'.IsTuple l items :=
  tuple_at H fun o e => hk _ o (by
    rintro rfl
    obtain ⟨o1, fs, e1, e2⟩ := hI
    obtain ⟨o2, e3, _, n, e4⟩ := H
    rw [e1] at e3; cases e3; rw [e4] at e2; cases e2) e

noncomputable def JB (g hf : Heap) (s : Shared) (L : Addr) (m : Str → Option Value) (Pp Po : Addr) (wd : Int) (t1 : Tok) (items : List Value) (ps : List (Option Int)) (i : Nat) (s' : Shared) : Prop :=
  ∃ h' tk vk vy itm, s' = { s with heap := h', toks := tk } ∧ Fr g L h' (ord2 m Po vk vy) ∧ Cells2 h' L (some (.ref Pp)) (some (.int wd t1)) ∧ PlainL h' Pp items.toArray ∧ PlainL h' Po itm.toArray ∧ PairsAt h' itm ((ps.take i).map fun x => keyOf x wd) ∧ Low L g hf h'

theorem right_2 (ho : (hd.heap_1 w.params).lookup 191 = some ⟨oc, od, .func (fnOf name qual params body scope dV kV doc pm an cdv ct), osl⟩)
    (C : Cx w mean mg mb g) (hroom : A.depth ≤ 310) (hh : A.handled = none) (F : Fr g L hf m) (hc : Cells2 hf L (some (.ref Pp)) none)
    (hP : Ports hf Pp ps) (hPg : g.get? Pp = none) (hsz : ps.length ≤ 20)
    (done : ∀ h' tk Po items vk vy t, Fr g L h' (ord2 m Po vk vy) → Cells2 h' L (some (.ref Pp)) (some (.int (wideOf ps) t)) → Ports h' Pp ps → PlainL h' Po items.toArray → PairsAt h' items (ps.map fun x => keyOf x (wideOf ps)) → g.get? Po = none → Low L g hf h' → Q .next { s with heap := h', toks := tk }) :
    wpAny (model PySem.Challenge.rw_yh0005_01.row.prog w) (A.deeper (envOfC qual scope L 191 cdv)) (execs ((body.drop 2).take 3) (envOfC qual scope L 191 cdv)) Q (fun _ _ => False) { s with heap := hf, toks := tkf } := by
  have hroom' : ∀ {e : Env}, (A.deeper e).depth ≤ 311 := fun {e} => Nat.succ_le_succ hroom
  refine (fun (e2 : (hd.heap_1 w.params).lookup 191 = some ⟨_, _, .func (fnOf _ _ _ _ _ _ _ _ _ _ _ _), _⟩) => ?_) (by k_is)
  rw [ho] at e2
  injection e2 with e2
  injection e2 with e3 e4 e5 e6
  injection e5 with e5
  injection e5 with n1 n2 n3 n4 n5
  injection n4 with n4
  subst_vars
  clear ho
  refine wpAny_execs_cons ?_
  have X' := C.X
  have T' := C.T
  have F' := F
  have hg1 : g.get? (L + 1) = none := Heap.get?_none_of_le (Nat.le_trans F.above (Nat.le_succ L))
  have hg2 : g.get? (L + 2) = none := Heap.get?_none_of_le (Nat.le_trans F.above (Nat.le_add_right L 2))
  have hn1 : L + 1 ≠ L := Nat.ne_of_gt (Nat.lt_succ_self L)
  have hn2 : L + 2 ≠ L := Nat.ne_of_gt (Nat.lt_succ_of_lt (Nat.lt_succ_self L))
  obtain ⟨items, hli, hpi⟩ := hP.ex
  obtain ⟨⟨oc1, hoc1, hdc1⟩, ⟨oc2, hoc2, hdc2⟩⟩ := id hc
  obtain ⟨op, np, hop, hopc, hopd, hops⟩ := id hli
  have hPL : Pp ≠ L := list_neL F hli.isList
  have N' : News g L hf [(L + 1, oc1), (L + 2, oc2), (Pp, op)] := fun p hp => by
    rcases List.mem_cons.mp hp with rfl | hp
    · exact ⟨hoc1, hn1, hg1⟩
    rcases List.mem_cons.mp hp with rfl | hp
    · exact ⟨hoc2, hn2, hg2⟩
    · rw [List.mem_singleton.mp hp]; exact ⟨hop, hPL, hPg⟩
  have hPb := hP.bound
  k_steps
  refine wpAny_call (wide_spec w (C.keeps F.keep) (Nat.le_trans hroom' (by decide)) hli.isList hpi (by exact hh) (by omega) hP.bound fun h1 tk1 t1 hk1 => ?_)
  dsimp only
  have F' : Fr g L h1 m := ⟨F.ns.keeps hk1, fun b o e => hk1 _ _ (F.keep b o e), F.above⟩
  have N' : News g L h1 [(L + 1, oc1), (L + 2, oc2), (Pp, op)] := fun p hp => ⟨hk1 _ _ (N' p hp).1, (N' p hp).2⟩
  k_steps
  have hc1 : Cells2 h1 L (some (.ref Pp)) none := hc.at fun b o _ e => hk1 _ _ e
  refine wpAny_storeName_cell (by rfl) (by rfl) (c := L + 2) (by rfl) hc1.2 fun h2 hv2 hs2 => ?_
  have k2 : ∀ b o, b ≠ L + 2 → h1.get? b = some o → h2.get? b = some o := fun b o hb e => (hs2.2 b hb).trans e
  have F2 : Fr g L h2 m := off_fr' F' k2 hn2.symm hg2
  have hc2 : Cells2 h2 L (some (.ref Pp)) (some (.int (wideOf ps) t1)) := ⟨cell_keep hc1.1 fun o e => k2 _ _ (Nat.ne_of_lt (Nat.lt_succ_self (L + 1))) e, hv2⟩
  have hli2 : PlainL h2 Pp items.toArray := plain_at hli fun o e => k2 _ _ (cell_list hc1.2 (plain_at hli fun o e => hk1 _ _ e).isList).symm (hk1 _ _ e)
  dsimp only
  refine wpAny_execs_cons ?_
  have hP := hP.bound
  clear N' hli hop hc hoc1 hoc2 hdc1 hdc2
  obtain ⟨⟨oc1, hoc1, hdc1⟩, ⟨oc2, hoc2, hdc2⟩⟩ := id hc2
  have F' := F2
  have N' : News g L h2 ((L + 1, oc1) :: (L + 2, oc2) :: allAt g L h2) := news2a ⟨hoc1, hn1, hg1⟩ ⟨hoc2, hn2, hg2⟩ (allAt_news g L h2)
  have kb2 := @kept_same _ _ _ _ F2
  repeat' ((fail_if_success (with_reducible show wpAny _ _ (exec (Stmt.For _ _ _ _ _) _) _ _ _)); walk1)
  rename_i Po h3 l3 h4 F4 N4
  have k4 := kb2 F4 (fun p hp => N4 p (.tail _ (.tail _ (.tail _ hp))))
  have hPo0 : g.get? Po = none := (N4 _ (.head _)).2.2
  have hPoL : Po ≠ L := (N4 _ (.head _)).2.1
  have hPo4 : PlainL h4 Po #[] := ⟨_, _, (N4 _ (.head _)).1, rfl, rfl, rfl⟩
  have hc4 := hc2.at k4
  have hli4 : PlainL h4 Pp items.toArray := plain_at hli2 fun o e => k4 _ _ hPL e
  have F4 : Fr g L h4 (ord1 m Po) := F4
  have hLPo : L < Po := Nat.lt_of_succ_lt l3.1
  have low4 : Low L g hf h4 := fun b o hb _ e => k4 _ _ (Nat.ne_of_lt hb) (k2 _ _ (Nat.ne_of_lt (Nat.lt_trans hb (Nat.lt_succ_of_lt (Nat.lt_succ_self L)))) (hk1 _ _ e))
  have hne : Pp ≠ Po := by
    rintro rfl
    exact absurd l3.2.2 (fun al => by
      obtain ⟨o, _, ho, _⟩ := hli2
      exact absurd (allLt_get al (allAt_mem ho hPL hPg)) (Nat.lt_irrefl _))
  refine for_any ?_ (by intro _; rfl) PassesOwn.never
  have kb4 := @kept_same _ _ _ _ F4
  have F' := F4
  have N' : News g L h4 ((L + 1, oc1) :: (L + 2, oc2) :: allAt g L h4) := news2a ⟨k4 _ _ hn1 hoc1, hn1, hg1⟩ ⟨k4 _ _ hn2 hoc2, hn2, hg2⟩ (allAt_news g L h4)
  have hn : items.length = ps.length := hpi.length.symm
  k_steps
  refine len_list hli4.isList (by simp only [List.size_toArray]; omega) ?_
  simp only [List.size_toArray, hn]
  k_steps
  rename_i h5 tk5 t₁ u₁ v₁ hr5 F5 N5 k5
  have F5 : Fr g L h5 (ord1 m Po) := F5
  have hL5 : L < h5.objs.size := F5.ns.lt
  have h50 : g.get? h5.objs.size = none := Heap.get?_none_of_le (Nat.le_trans F5.above (Nat.le_of_lt hL5))
  have lt5 : ∀ {b : Addr} {o : Obj}, h4.get? b = some o → b ≠ h5.objs.size := fun e => Nat.ne_of_lt (Heap.lt_size (k5 _ _ e))
  refine range_loop (n := ps.length) (JB g hf s L m Pp Po (wideOf ps) t1 items ps) (up_size _) (up_small (by omega)) (by exact hh) hr5 ?_ ?_ ?_ ?_
  · intro h' tk hk
    refine ⟨h', tk, _, _, [], rfl, fr_ex ⟨F5.ns.keeps hk, fun b o e => hk _ _ (F5.keep b o e), F5.above⟩ (fun y => ord2_start m Po y), hc4.at fun b o _ e => hk _ _ (k5 _ _ e), plain_at hli4 fun o e => hk _ _ (k5 _ _ e), plain_at hPo4 fun o e => hk _ _ (k5 _ _ e), ⟨rfl, fun j k e => by simp at e⟩, low4.trans fun b o _ _ e => hk _ _ (k5 _ _ e)⟩
  · rintro i s' h' tk st ⟨ha, tka, vk, vy, itm, rfl, Fa, Ca, La, Oa, Pa, lowA⟩ hk
    have hI : FldAt ha h5.objs.size := ⟨_, _, st, rfl⟩
    exact ⟨h', tk, vk, vy, itm, rfl, off_fr' Fa hk (Nat.ne_of_lt hL5) h50, Ca.keepI hI hk, plain_keepI La hI hk, plain_keepI Oa hI hk, Pa.at fun T its hT => tuple_keepI hT hI hk, lowA.trans fun b o hb _ e => hk _ _ (Nat.ne_of_lt (Nat.lt_trans hb hL5)) e⟩
  · rintro i s' t hi ⟨ha, tka, vk, vy, itm, rfl, Fa, Ca, La, Oa, Pa, lowA⟩ st
    have hi' : i < items.length := by omega
    have ei : (0 + (i : Int) * 1).toNat = i := by omega
    have ei2 : (0 + (i : Int) * 1) = (i : Int) := by omega
    refine wpAny_assign_Name (wpAny_storeName_local (by rfl) Fa.ns (fun hb hnb hsb => ?_) (by rfl))
    have hL0 : g.get? L = none := kts_self Fa
    have kb : ∀ b o, b ≠ L → ha.get? b = some o → hb.get? b = some o := fun b o hb e => hsb.extBut b o hb e
    have Fb : Fr g L hb (ord2 m Po (some (.int (0 + (i : Int) * 1) t)) vy) := fr_ex ⟨hnb, fun b o e => kb b o (fun q => by rw [q, hL0] at e; cases e) (Fa.keep b o e), Fa.above⟩ (fun y => ord2_k _ _ _ _ _ y)
    have Cb := Ca.at kb
    have Lb : PlainL hb Pp items.toArray := plain_at La fun o e => kb _ _ hPL e
    have Ob : PlainL hb Po itm.toArray := plain_at Oa fun o e => kb _ _ hPoL e
    have Pb : PairsAt hb itm _ := Pa.at fun T its hT => tuple_at hT fun o e => kb _ _ (tuple_neL Fa hT) e
    have stb := kb _ _ (Nat.ne_of_gt hL5) st
    have kbb := @kept_same _ _ _ _ Fb
    obtain ⟨⟨od1, hod1, hdd1⟩, ⟨od2, hod2, hdd2⟩⟩ := id Cb
    have F' := Fb
    have N' : News g L hb ((L + 1, od1) :: (L + 2, od2) :: allAt g L hb) := news2a ⟨hod1, hn1, hg1⟩ ⟨hod2, hn2, hg2⟩ (allAt_news g L hb)
    clear N5 F5 F4
    have hport := port_at hpi hi hi'
    have hx : ∀ x, items[i] = x → items.toArray[i]? = some x := fun x e => by rw [List.getElem?_toArray, List.getElem?_eq_getElem hi', e]
    have hlen : itm.length ≤ 20 := by
      have := Pa.1
      rw [List.length_map, List.length_take] at this
      omega
    have fin : ∀ (hz h' : Heap) (tk : Nat) (T : Addr) (t' u' ty : Tok) (key : Int), keyOf ps[i] (wideOf ps) = key → (∀ b o, b ≠ L → hb.get? b = some o → hz.get? b = some o) → Fr g L h' (ord2 m Po (some (.int (0 + (i : Int) * 1) t)) (some (.int key ty))) →
        (∀ b o, b ≠ L → b ≠ Po → hz.get? b = some o → h'.get? b = some o) → PlainL h' Po (itm ++ [PySem.Value.ref T]).toArray → h'.IsTuple T #[PySem.Value.int key t', PySem.Value.int (0 + (i : Int) * 1) u'] →
        JB g hf s L m Pp Po (wideOf ps) t1 items ps (i + 1) { s with heap := h', toks := tk } ∧ IsRangeIter h' h5.objs.size (0 + ((i + 1 : Nat) : Int) * 1) ((ps.length : Int) - ((i + 1 : Nat) : Int)) 1 := by
      intro hz h' tk T t' u' ty key ek kz F' k' O' hT'
      have kk : ∀ b o, b ≠ L → b ≠ Po → hb.get? b = some o → h'.get? b = some o := fun b o h1 h2 e => k' b o h1 h2 (kz b o h1 e)
      have hli := Ob.isList
      refine ⟨⟨h', tk, _, _, itm ++ [.ref T], rfl, F', ⟨cell_keep Cb.1 fun o e => kk _ _ hn1 (cell_list Cb.1 hli) e, cell_keep Cb.2 fun o e => kk _ _ hn2 (cell_list Cb.2 hli) e⟩, plain_at Lb fun o e => kk _ _ hPL hne e, O', ?_, lowA.trans fun b o hb0 _ e => kk _ _ (Nat.ne_of_lt hb0) (Nat.ne_of_lt (Nat.lt_trans hb0 hLPo)) (kb _ _ (Nat.ne_of_lt hb0) e)⟩, ?_⟩
      · have et : (ps.take (i + 1)).map (fun x => keyOf x (wideOf ps)) = (ps.take i).map (fun x => keyOf x (wideOf ps)) ++ [key] := by
          rw [List.take_succ_eq_append_getElem hi, List.map_append, ← ek]; rfl
        rw [et]
        have Pc : PairsAt h' itm ((ps.take i).map fun x => keyOf x (wideOf ps)) := Pb.at fun T its hT => tuple_at hT fun o e => by
          refine kk _ _ (tuple_neL Fb hT) ?_ e
          rintro rfl
          obtain ⟨ot, a1, a2, _⟩ := hT
          obtain ⟨oz, nz, b1, b2, _⟩ := Ob
          rw [a1] at b1; cases b1; rw [a2] at b2; injection b2 with b2; exact absurd b2 (by decide)
        refine Pc.snoc (t := t') (u := u') ?_
        rw [List.length_map, List.length_take, Nat.min_eq_left (Nat.le_of_lt hi), ← ei2]
        exact hT'
      · refine kk _ _ (Nat.ne_of_gt hL5) ?_ stb
        rintro e
        obtain ⟨oz, nz, b1, b2, b3, b4⟩ := Ob
        rw [← e, stb] at b1; cases b1; injection b2 with b2; exact absurd b2 (by decide)
    by_cases hw : (0 : Int) < wideOf ps
    · cases hpx : ps[i] with
      | none =>
        rw [hpx] at hport
        have hv : items[i] = PySem.Value.none := hport
        k_steps
        rename_i h6 F6 N6
        have k6 := kbb F6 (fun p hp => N6 p (.tail _ (.tail _ hp)))
        refine item_listL (x := .none) (plain_at Lb fun o e => k6 _ _ hPL e).isList (by omega) (by omega) (by rw [ei, List.getElem?_eq_getElem hi', hv]) ?_
        dsimp only
        repeat' ((fail_if_success (with_reducible show wpAny _ _ (execs (Stmt.Expr _ _ :: _) _) _ _ _)); walk1)
        (try dsimp only)
        rename_i hz Fz Nz
        have kz := kbb Fz (fun p hp => Nz p (.tail _ (.tail _ hp)))
        have ek : keyOf ps[i] (wideOf ps) = 19 := by rw [hpx]; simp [keyOf, hw]
        refine wpAny_mono (right_2t (s := s) (key := 19) (by k_is) C (fr_ex Fz (fun y => by rw [ord2_key, ord2_key])) (plain_at Ob fun o e => kz _ _ hPoL e) hPo0 hPoL hlen (Q := fun f s₃ => f = .next ∧ JB g hf s L m Pp Po (wideOf ps) t1 items ps (i + 1) s₃ ∧ IsRangeIter s₃.heap h5.objs.size (0 + ((i + 1 : Nat) : Int) * 1) ((ps.length : Int) - ((i + 1 : Nat) : Int)) 1)
          fun h' tk T t' u' F' k' O' hT' => ⟨rfl, fin hz h' tk T t' u' _ _ ek kz F' k' O' hT'⟩) (fun f s₃ hq => ?_) (fun _ _ x => x)
        obtain ⟨rfl, hq1, hq2⟩ := hq
        exact ⟨hq1, hq2⟩
      | some p =>
        rw [hpx] at hport
        obtain ⟨u, hv⟩ : ∃ u, items[i] = PySem.Value.int p u := hport
        k_steps
        rename_i h6 F6 N6
        have k6 := kbb F6 (fun p hp => N6 p (.tail _ (.tail _ hp)))
        refine item_listL (x := .int p u) (plain_at Lb fun o e => k6 _ _ hPL e).isList (by omega) (by omega) (by rw [ei, List.getElem?_eq_getElem hi', hv]) ?_
        dsimp only
        repeat' ((fail_if_success (with_reducible show wpAny _ _ (execs (Stmt.Expr _ _ :: _) _) _ _ _)); walk1)
        refine item_listL (x := .int p u) (plain_at Lb fun o e => k6 _ _ hPL e).isList (by omega) (by omega) (by rw [ei, List.getElem?_eq_getElem hi', hv]) ?_
        dsimp only
        repeat' ((fail_if_success (with_reducible show wpAny _ _ (execs (Stmt.Expr _ _ :: _) _) _ _ _)); walk1)
        (try dsimp only)
        rename_i hz Fz Nz
        have kz := kbb Fz (fun p hp => Nz p (.tail _ (.tail _ hp)))
        have ek : keyOf ps[i] (wideOf ps) = 2 * p := by rw [hpx]; simp [keyOf, hw]
        refine wpAny_mono (right_2t (s := s) (key := 2 * p) (by k_is) C (fr_ex Fz (fun y => by rw [ord2_key, ord2_key])) (plain_at Ob fun o e => kz _ _ hPoL e) hPo0 hPoL hlen (Q := fun f s₃ => f = .next ∧ JB g hf s L m Pp Po (wideOf ps) t1 items ps (i + 1) s₃ ∧ IsRangeIter s₃.heap h5.objs.size (0 + ((i + 1 : Nat) : Int) * 1) ((ps.length : Int) - ((i + 1 : Nat) : Int)) 1)
          fun h' tk T t' u' F' k' O' hT' => ⟨rfl, fin hz h' tk T t' u' _ _ ek kz F' k' O' hT'⟩) (fun f s₃ hq => ?_) (fun _ _ x => x)
        obtain ⟨rfl, hq1, hq2⟩ := hq
        exact ⟨hq1, hq2⟩
    · repeat' ((fail_if_success (with_reducible show wpAny _ _ (execs (Stmt.Expr _ _ :: _) _) _ _ _)); walk1)
      (try dsimp only)
      rename_i hz Fz Nz tkz
      have kz := kbb Fz (fun p hp => Nz p (.tail _ (.tail _ hp)))
      have ek : keyOf ps[i] (wideOf ps) = 0 := by simp [keyOf, hw]
      refine wpAny_mono (right_2t (s := s) (key := 0) (by k_is) C (fr_ex Fz (fun y => by rw [ord2_key])) (plain_at Ob fun o e => kz _ _ hPoL e) hPo0 hPoL hlen (Q := fun f s₃ => f = .next ∧ JB g hf s L m Pp Po (wideOf ps) t1 items ps (i + 1) s₃ ∧ IsRangeIter s₃.heap h5.objs.size (0 + ((i + 1 : Nat) : Int) * 1) ((ps.length : Int) - ((i + 1 : Nat) : Int)) 1)
        fun h' tk T t' u' F' k' O' hT' => ⟨rfl, fin hz h' tk T t' u' _ _ ek kz F' k' O' hT'⟩) (fun f s₃ hq => ?_) (fun _ _ x => x)
      obtain ⟨rfl, hq1, hq2⟩ := hq
      exact ⟨hq1, hq2⟩
  · rintro s' ⟨ha, tka, vk, vy, itm, rfl, Fa, Ca, La, Oa, Pa, lowA⟩
    refine wpAny_execs_nil ?_
    rw [List.take_length] at Pa
    exact done _ _ Po itm vk vy t1 Fa Ca ⟨⟨items, La, hpi⟩, hP⟩ Oa Pa hPo0 lowA
end
end Mine
end

section
open PySem PySem.W PyProof.Rows PySem.Calls
set_option maxRecDepth 100000
set_option maxHeartbeats 4000000
namespace Mine
/-- by key, then by number -/
noncomputable def Lt (K : Nat → Int) (i j : Nat) : Prop := K i < K j ∨ (K i = K j ∧ i < j)
theorem Lt.trans {K : Nat → Int} {a b c : Nat} (h1 : Lt K a b) (h2 : Lt K b c) : Lt K a c := by
  rcases h1 with h1 | ⟨h1, h3⟩ <;> rcases h2 with h2 | ⟨h2, h4⟩
  · exact .inl (Int.lt_trans h1 h2)
  · exact .inl (h2 ▸ h1)
  · exact .inl (h1 ▸ h2)
  · exact .inr ⟨h1.trans h2, Nat.lt_trans h3 h4⟩
theorem Lt.irrefl {K : Nat → Int} {a : Nat} : ¬ Lt K a a := by
  rintro (h | ⟨_, h⟩)
  · exact Int.lt_irrefl _ h
  · exact Nat.lt_irrefl _ h
theorem Lt.asymm {K : Nat → Int} {a b : Nat} (h1 : Lt K a b) : ¬ Lt K b a := fun h2 => Lt.irrefl (h1.trans h2)
theorem lt_or {K : Nat → Int} {a b : Nat} (h : a ≠ b) : Lt K a b ∨ Lt K b a := by
  rcases Int.lt_trichotomy (K a) (K b) with h1 | h1 | h1
  · exact .inl (.inl h1)
  · rcases Nat.lt_or_gt_of_ne h with h2 | h2
    · exact .inl (.inr ⟨h1, h2⟩)
    · exact .inr (.inr ⟨h1.symm, h2⟩)
  · exact .inr (.inl h1)
theorem mid_ok {l r : Nat} (h : ¬ l ≥ r) : l ≤ (l + r) / 2 ∧ (l + r) / 2 < r := ⟨by omega, by omega⟩
theorem mid_f {l r f : Nat} (h : ¬ l ≥ r) (h3 : r - l ≤ f + 1) : (l + r) / 2 - l ≤ f ∧ r - ((l + r) / 2 + 1) ≤ f := ⟨by omega, by omega⟩
theorem shl_ {m f n : Nat} (h : m + (f + 1) ≤ n) : m + 1 + f ≤ n := by rw [Nat.succ_add_eq_add_succ]; exact h
theorem shr_ {m f n : Nat} (h : n ≤ m + 1 + f) : n ≤ m + (f + 1) := by rw [← Nat.succ_add_eq_add_succ]; exact h
theorem lt_ {m f n : Nat} (h : m + (f + 1) ≤ n) : m < n := Nat.lt_of_lt_of_le (Nat.lt_add_of_pos_right (Nat.succ_pos f)) h
theorem ltp_ {m f n : Nat} (h : m + (f + 1) ≤ n) : m - 1 < n := Nat.lt_of_le_of_lt (Nat.sub_le m 1) (lt_ h)
theorem nep_ {m : Nat} (h : 1 ≤ m) : m - 1 ≠ m := Nat.ne_of_lt (Nat.sub_lt h Nat.one_pos)
theorem sub_lt_ {b k : Nat} (h : 0 < b) (hb : b ≤ k) : b - 1 < k := Nat.lt_of_lt_of_le (Nat.sub_lt h Nat.one_pos) hb
noncomputable instance (K : Nat → Int) (i j : Nat) : Decidable (Lt K i j) := by unfold Lt; infer_instance

section
variable {K : Nat → Int} {n : Nat} {p q : Array Nat}
/-- all the numbers, in some order -/
noncomputable def PermOk (n : Nat) (p : Array Nat) : Prop := p.Perm (List.range n).toArray
theorem PermOk.size (h : PermOk n p) : p.size = n := by have := h.size_eq; simpa using this
theorem PermOk.lt (h : PermOk n p) {a : Nat} (ha : a < n) : p.getD a 0 < n := by
  have hs : a < p.size := by rw [h.size]; exact ha
  have e : p.getD a 0 = p[a] := by simp [Array.getD, hs]
  rw [e]
  have hm : p[a] ∈ (List.range n).toArray := h.mem_iff.mp (Array.getElem_mem hs)
  simpa using hm
theorem PermOk.inj (h : PermOk n p) {a b : Nat} (ha : a < n) (hb : b < n) (hab : a ≠ b) : p.getD a 0 ≠ p.getD b 0 := by
  have hsa : a < p.size := by rw [h.size]; exact ha
  have hsb : b < p.size := by rw [h.size]; exact hb
  have ea : p.getD a 0 = p[a] := by simp [Array.getD, hsa]
  have eb : p.getD b 0 = p[b] := by simp [Array.getD, hsb]
  have hp : p.toList.Perm (List.range n) := by simpa using Array.perm_iff_toList_perm.mp h
  have nd : p.toList.Nodup := hp.nodup_iff.mpr List.nodup_range
  rw [ea, eb]
  intro e
  have e' : p.toList[a]'(by simpa using hsa) = p.toList[b]'(by simpa using hsb) := by simpa using e
  exact hab ((List.getElem_inj nd).mp e')

noncomputable def Asc (K : Nat → Int) (p : Array Nat) (k : Nat) : Prop := ∀ a b, a < b → b < k → Lt K (p.getD a 0) (p.getD b 0)
noncomputable def Desc (K : Nat → Int) (p : Array Nat) (k : Nat) : Prop := ∀ a b, a < b → b < k → Lt K (p.getD b 0) (p.getD a 0)

theorem asc_one : Asc K p 1 := fun a b h1 h2 => by omega
theorem asc_succ {m : Nat} (h : Asc K p m) (hm : 1 ≤ m) (hl : Lt K (p.getD (m - 1) 0) (p.getD m 0)) : Asc K p (m + 1) := fun a b h1 h2 => by
  by_cases hb : b < m
  · exact h a b h1 hb
  · have : b = m := by omega
    subst this
    by_cases ha : a = b - 1
    · rw [ha]; exact hl
    · exact (h a (b - 1) (by omega) (by omega)).trans hl
theorem desc_succ {m : Nat} (h : Desc K p m) (hm : 1 ≤ m) (hl : Lt K (p.getD m 0) (p.getD (m - 1) 0)) : Desc K p (m + 1) := fun a b h1 h2 => by
  by_cases hb : b < m
  · exact h a b h1 hb
  · have : b = m := by omega
    subst this
    by_cases ha : a = b - 1
    · rw [ha]; exact hl
    · exact hl.trans (h a (b - 1) (by omega) (by omega))

theorem rev_perm (h : PermOk n p) (m : Nat) : PermOk n (kas_rev p 0 m) := (mirror_perm p 0 m _).trans h
theorem rev_get {m k : Nat} (hm : m ≤ p.size) : (kas_rev p 0 m).getD k 0 = if k < m then p.getD (m - 1 - k) 0 else p.getD k 0 := by
  have e := getElem?_mirror_all (xs := p) (i := 0) (j := m) hm k
  have g : ∀ (x : Array Nat) (k : Nat), x.getD k 0 = (x[k]?).getD 0 := fun x k => by simp
  show (mirror p 0 m ((m - 0) / 2)).getD k 0 = _
  rw [g, e]
  by_cases hk : k < m
  · rw [if_pos ⟨Nat.zero_le _, hk⟩, if_pos hk, g]
    congr 2
    omega
  · rw [if_neg (by omega), if_neg hk, g]
theorem rev_asc {m : Nat} (hm : m ≤ p.size) (h : Desc K p m) : Asc K (kas_rev p 0 m) m := fun a b h1 h2 => by
  rw [rev_get hm, rev_get hm, if_pos (by omega), if_pos h2]
  exact h _ _ (by omega) (by omega)

section
variable {cmp : Nat → Nat → (Bool → Shared → Prop) → Shared → Prop} {s : Shared} (hcmp : ∀ i j C, i < n → j < n → C (decide (Lt K i j)) s → cmp i j C s)
include hcmp

theorem asc_ok {Q : Nat → Shared → Prop} (h : PermOk n p) : ∀ (f m : Nat), 1 ≤ m → m + f ≤ n → Asc K p m →
    (∀ m', m ≤ m' → m' ≤ m + f → Asc K p m' → (m' < m + f → Lt K (p.getD m' 0) (p.getD (m' - 1) 0)) → Q m' s) → (kas_asc p f m).kasWp cmp Q s
  | 0, m, h1, h2, ha, hq => hq m (Nat.le_refl _) (Nat.le_refl _) ha (fun h => absurd h (Nat.lt_irrefl _))
  | f + 1, m, h1, h2, ha, hq => by
    show cmp (p.getD m 0) (p.getD (m - 1) 0) (fun b s' => (if b = true then KasT.ret m else kas_asc p f (m + 1)).kasWp cmp Q s') s
    refine hcmp _ _ _ (h.lt (lt_ h2)) (h.lt (ltp_ h2)) ?_
    by_cases hl : Lt K (p.getD m 0) (p.getD (m - 1) 0)
    · rw [decide_eq_true hl, if_pos rfl]
      exact hq m (Nat.le_refl _) (Nat.le_add_right _ _) ha fun _ => hl
    · rw [decide_eq_false hl, if_neg (by decide)]
      have hl' : Lt K (p.getD (m - 1) 0) (p.getD m 0) := (lt_or (h.inj (ltp_ h2) (lt_ h2) (nep_ h1))).resolve_right hl
      exact asc_ok h f (m + 1) (Nat.le_add_left 1 m) (shl_ h2) (asc_succ ha h1 hl') fun m' a b c d => hq m' (Nat.le_of_succ_le a) (shr_ b) c fun e => d (by rw [Nat.succ_add_eq_add_succ]; exact e)

theorem desc_ok {Q : Array Nat × Nat × Nat → Shared → Prop} (h : PermOk n p) : ∀ (f m : Nat), 1 ≤ m → m + f ≤ n → Desc K p m →
    (∀ m', m ≤ m' → m' ≤ m + f → Desc K p m' → Q (p, m', 0) s) → (kas_desc f p m 0).kasWp cmp Q s
  | 0, m, h1, h2, ha, hq => hq m (Nat.le_refl _) (Nat.le_refl _) ha
  | f + 1, m, h1, h2, ha, hq => by
    show cmp (p.getD m 0) (p.getD (m - 1) 0) (fun b s' => KasT.kasWp cmp (if b = true then (if 0 > 0 then kas_desc f (kas_rev p (m - (0 + 1)) m) (m + 1) 0 else kas_desc f p (m + 1) 0)
      else .ask (p.getD (m - 1) 0) (p.getD m 0) fun d => if d = true then .ret (p, m, 0) else kas_desc f p (m + 1) (0 + 1)) Q s') s
    refine hcmp _ _ _ (h.lt (lt_ h2)) (h.lt (ltp_ h2)) ?_
    by_cases hl : Lt K (p.getD m 0) (p.getD (m - 1) 0)
    · rw [decide_eq_true hl, if_pos rfl, if_neg (Nat.lt_irrefl _)]
      exact desc_ok h f (m + 1) (Nat.le_add_left 1 m) (shl_ h2) (desc_succ ha h1 hl) fun m' a b c => hq m' (Nat.le_of_succ_le a) (shr_ b) c
    · rw [decide_eq_false hl, if_neg (by decide)]
      have hl' : Lt K (p.getD (m - 1) 0) (p.getD m 0) := (lt_or (h.inj (ltp_ h2) (lt_ h2) (nep_ h1))).resolve_right hl
      refine hcmp _ _ _ (h.lt (ltp_ h2)) (h.lt (lt_ h2)) ?_
      rw [decide_eq_true hl']
      dsimp only
      rw [if_pos rfl]
      exact hq m (Nat.le_refl _) (Nat.le_add_right _ _) ha

theorem tail_ok {Q : Nat × Array Nat → Shared → Prop} (h : PermOk n p) {m : Nat} (h1 : 1 ≤ m) (h2 : m ≤ n) (ha : Desc K p m)
    (hq : ∀ m' p', PermOk n p' → 1 ≤ m' → m' ≤ n → Asc K p' m' → Q (m', p') s) : (kas_tail3 m n p).kasWp cmp Q s := by
  unfold kas_tail3
  rw [KasT.kasWp_bind]
  refine asc_ok hcmp (rev_perm h m) (n - m) m h1 (by omega) (rev_asc (by rw [h.size]; exact h2) ha) fun m' a b c _ => ?_
  exact hq m' _ (rev_perm h m) (by omega) (by omega) c

theorem count_ok {Q : Nat × Array Nat → Shared → Prop} (h : PermOk n p) (hn : 1 ≤ n) (hq : ∀ m' p', PermOk n p' → 1 ≤ m' → m' ≤ n → Asc K p' m' → Q (m', p') s) : (kas_count n p).kasWp cmp Q s := by
  unfold kas_count
  rw [KasT.kasWp_bind]
  refine asc_ok hcmp h (n - 1) 1 (Nat.le_refl _) (by omega) asc_one fun m a b c d => ?_
  by_cases e : m = n
  · have : (m == n) = true := by simpa using e
    rw [if_pos this]
    exact hq m p h a (by omega) c
  · have : ¬ ((m == n) = true) := by simpa using e
    rw [if_neg this]
    by_cases e1 : m > 1
    · rw [if_pos e1]
      refine hcmp _ _ _ (h.lt (by omega)) (h.lt (by omega)) ?_
      have hl := c 0 (m - 1) (by omega) (by omega)
      rw [decide_eq_true hl]
      dsimp only
      rw [if_pos rfl]
      exact hq m p h a (by omega) c
    · rw [if_neg e1]
      have em : m = 1 := by omega
      subst em
      have hl := d (by omega)
      unfold kas_descPart
      rw [KasT.kasWp_bind]
      have hd2 : Desc K p 2 := desc_succ (m := 1) (fun a b h1 h2 => by omega) (Nat.le_refl _) hl
      refine desc_ok hcmp h (n - 2) 2 (by omega) (by omega) hd2 fun m' a' b' c' => ?_
      show KasT.kasWp cmp (if 0 > 0 then _ else kas_tail3 m' n p) Q s
      rw [if_neg (Nat.lt_irrefl _)]
      exact tail_ok hcmp h (by omega) (by omega) c' hq

theorem place_ok {Q : Nat → Shared → Prop} (h : PermOk n p) {k : Nat} (hk : k < n) (ha : Asc K p k) : ∀ (f l r : Nat), l ≤ r → r ≤ k → r - l ≤ f →
    (∀ a, a < l → Lt K (p.getD a 0) (p.getD k 0)) → (∀ a, r ≤ a → a < k → Lt K (p.getD k 0) (p.getD a 0)) →
    (∀ l', l' ≤ k → (∀ a, a < l' → Lt K (p.getD a 0) (p.getD k 0)) → (∀ a, l' ≤ a → a < k → Lt K (p.getD k 0) (p.getD a 0)) → Q l' s) → (kas_place p k f l r).kasWp cmp Q s
  | 0, l, r, h1, h2, h3, hl, hr, hq => hq l (Nat.le_trans h1 h2) hl fun a ha' hb => hr a (Nat.le_trans (Nat.sub_eq_zero_iff_le.mp (Nat.le_zero.mp h3)) ha') hb
  | f + 1, l, r, h1, h2, h3, hl, hr, hq => by
    show KasT.kasWp cmp (if l ≥ r then .ret l else .ask (p.getD k 0) (p.getD ((l + r) / 2) 0) fun c => if c = true then kas_place p k f l ((l + r) / 2) else kas_place p k f ((l + r) / 2 + 1) r) Q s
    by_cases e : l ≥ r
    · rw [if_pos e]
      exact hq l (Nat.le_trans h1 h2) hl fun a ha' hb => hr a (Nat.le_trans e ha') hb
    · rw [if_neg e]
      obtain ⟨c1, c2⟩ := mid_ok e
      obtain ⟨c3, c4⟩ := mid_f e h3
      generalize (l + r) / 2 = c at c1 c2 c3 c4 ⊢
      have c5 : c < k := Nat.lt_of_lt_of_le c2 h2
      have c6 : c < n := Nat.lt_trans c5 hk
      refine hcmp _ _ _ (h.lt hk) (h.lt c6) ?_
      by_cases hc : Lt K (p.getD k 0) (p.getD c 0)
      · rw [decide_eq_true hc]
        dsimp only
        rw [if_pos rfl]
        refine place_ok h hk ha f l c c1 (Nat.le_of_lt c5) c3 hl (fun a h1' h2' => ?_) hq
        by_cases ea : a = c
        · rw [ea]; exact hc
        · exact hc.trans (ha _ _ (Nat.lt_of_le_of_ne h1' (Ne.symm ea)) h2')
      · rw [decide_eq_false hc]
        dsimp only
        rw [if_neg (by decide)]
        have hc' : Lt K (p.getD c 0) (p.getD k 0) := (lt_or (h.inj hk c6 (Nat.ne_of_gt c5))).resolve_left hc
        refine place_ok h hk ha f (c + 1) r c2 h2 c4 (fun a h1' => ?_) hr hq
        by_cases ea : a = c
        · rw [ea]; exact hc'
        · exact (ha _ _ (Nat.lt_of_le_of_ne (Nat.le_of_lt_succ h1') ea) c5).trans hc'
omit hcmp in
theorem bubble_get {k l i : Nat} (hk : k < p.size) (hl : l ≤ k) : (bubble p k (k - l)).getD i 0 = if i = l then p.getD k 0 else if l < i ∧ i ≤ k then p.getD (i - 1) 0 else p.getD i 0 := by
  have e := getElem?_bubble (xs := p) (src := k) hk (k - l) (by omega) i
  have g : ∀ (x : Array Nat) (k : Nat), x.getD k 0 = (x[k]?).getD 0 := fun x k => by simp
  have e1 : k - (k - l) = l := by omega
  rw [e1] at e
  rw [g, e]
  by_cases h1 : i = l
  · rw [if_pos h1, if_pos h1, g]
  · rw [if_neg h1, if_neg h1]
    by_cases h2 : l < i ∧ i ≤ k
    · rw [if_pos h2, if_pos h2, g]
    · rw [if_neg h2, if_neg h2, g]

omit hcmp in
theorem bubble_asc {k l : Nat} (hk : k < p.size) (hl : l ≤ k) (ha : Asc K p k) (h1 : ∀ a, a < l → Lt K (p.getD a 0) (p.getD k 0)) (h2 : ∀ a, l ≤ a → a < k → Lt K (p.getD k 0) (p.getD a 0)) : Asc K (bubble p k (k - l)) (k + 1) := fun a b hab hb => by
  rw [bubble_get hk hl, bubble_get hk hl]
  have hbk := Nat.le_of_lt_succ hb
  have hb0 := Nat.zero_lt_of_lt hab
  by_cases ea : a = l
  · subst ea
    rw [if_pos rfl, if_neg (Nat.ne_of_gt hab), if_pos ⟨hab, hbk⟩]
    exact h2 _ (Nat.le_sub_one_of_lt hab) (sub_lt_ hb0 hbk)
  · rw [if_neg ea]
    by_cases eb : b = l
    · subst eb
      rw [if_pos rfl, if_neg (fun q => absurd q.1 (Nat.not_lt.mpr (Nat.le_of_lt hab)))]
      exact h1 _ hab
    · rw [if_neg eb]
      by_cases e1 : l < a ∧ a ≤ k
      · rw [if_pos e1, if_pos ⟨Nat.lt_trans e1.1 hab, hbk⟩]
        exact ha _ _ (Nat.sub_lt_sub_right (Nat.succ_le_of_lt (Nat.zero_lt_of_lt e1.1)) hab) (sub_lt_ hb0 hbk)
      · rw [if_neg e1]
        by_cases e2 : l < b ∧ b ≤ k
        · rw [if_pos e2]
          by_cases e3 : b - 1 = a
          · exact (e1 ⟨Nat.lt_of_le_of_ne (e3 ▸ Nat.le_sub_one_of_lt e2.1) (Ne.symm ea), Nat.le_trans (Nat.le_of_lt hab) hbk⟩).elim
          · exact ha _ _ (Nat.lt_of_le_of_ne (Nat.le_sub_one_of_lt hab) (Ne.symm e3)) (sub_lt_ hb0 hbk)
        · rw [if_neg e2]
          exact ha _ _ hab (Nat.lt_of_lt_of_le (Nat.lt_of_le_of_ne (Nat.le_of_not_lt fun q => e2 ⟨q, hbk⟩) eb) hl)

theorem bin_ok {Q : Array Nat → Shared → Prop} : ∀ (f : Nat) (p : Array Nat) (k : Nat), PermOk n p → k + f = n → Asc K p k →
    (∀ p', PermOk n p' → Asc K p' n → Q p' s) → (kas_bin f p k).kasWp cmp Q s
  | 0, p, k, h, hk, ha, hq => hq p h ((show k = n by omega) ▸ ha)
  | f + 1, p, k, h, hk, ha, hq => by
    show KasT.kasWp cmp ((kas_place p k k 0 k).bind fun l => kas_bin f (bubble p k (k - l)) (k + 1)) Q s
    rw [KasT.kasWp_bind]
    refine place_ok hcmp h (by omega) ha k 0 k (Nat.zero_le _) (Nat.le_refl _) (by omega) (fun a h => absurd h (Nat.not_lt_zero _)) (fun a h1 h2 => by omega) fun l hl h1 h2 => ?_
    exact bin_ok f _ (k + 1) ((bubble_perm p k (k - l)).trans h) (by omega) (bubble_asc (by rw [h.size]; omega) hl ha h1 h2) hq

theorem sort_ok {Q : Array Nat → Shared → Prop} (hn : 1 ≤ n) (hq : ∀ p', PermOk n p' → Asc K p' n → Q p' s) : (kas_sort n).kasWp cmp Q s := by
  unfold kas_sort
  rw [KasT.kasWp_bind]
  refine count_ok hcmp (Array.Perm.refl _) hn fun m p' h h1 h2 ha => ?_
  by_cases e : m < n
  · show KasT.kasWp cmp (if m < n then kas_bin (n - max m 1) p' (max m 1) else .ret p') Q s
    rw [if_pos e, Nat.max_eq_left h1]
    exact bin_ok hcmp (n - m) p' m h (by omega) ha hq
  · show KasT.kasWp cmp (if m < n then kas_bin (n - max m 1) p' (max m 1) else .ret p') Q s
    rw [if_neg e]
    have : m = n := by omega
    exact hq p' h (this ▸ ha)
end
end
end Mine
end

section
open PySem PySem.W PyProof.Rows PySem.Calls
set_option maxRecDepth 100000
set_option maxHeartbeats 4000000
namespace Mine
section
variable {prog : Program} {w : World} {A : Around} {E : Value → Shared → Prop} {s : Shared} {h₀ : Heap} {L : Addr} {m : Str → Option Value}

/-- a pair is less than another -/
theorem pair_lt {T1 T2 : Addr} {a b c d : Int} {t1 t2 t3 t4 : Tok} {C : Bool → Shared → Prop} (h1 : s.heap.IsTuple T1 #[.int a t1, .int b t2]) (h2 : s.heap.IsTuple T2 #[.int c t3, .int d t4])
    (h : C (decide (a < c ∨ (a = c ∧ b < d))) s) : wpAny (model prog w) A (keyLt' (tuples' true) (.ref T1) (.ref T2)) C E s := by
  obtain ⟨o1, e1, _, n1, f1⟩ := h1
  obtain ⟨o2, e2, _, n2, f2⟩ := h2
  refine kat_lt e1 f1 e2 f2 ?_
  show KatLex prog w A true (decide (2 < 2)) C [(.int a t1, .int c t3), (.int b t2, .int d t4)] 0 s
  refine kat_cons (SeqAt.EqAt.int_int a t1 c t3 prog w _ _ ?_)
  by_cases hac : a = c
  · have : (a == c) = true := by simpa using hac
    rw [this]
    refine kat_yes (kat_cons (SeqAt.EqAt.int_int b t2 d t4 prog w _ _ ?_))
    by_cases hbd : b = d
    · have : (b == d) = true := by simpa using hbd
      rw [this]
      refine kat_yes (kat_nil ?_)
      have e : decide (a < c ∨ (a = c ∧ b < d)) = decide (2 < 2) := by
        rw [decide_eq_false (by omega), decide_eq_false (by omega)]
      rw [← e]; exact h
    · have : (b == d) = false := by simpa using hbd
      rw [this]
      refine kat_no ?_
      show wpAny (model prog w) A (oneLt' false (.int b t2) (.int d t4)) C _ s
      refine kat_one _ _ (lt_int ?_)
      have e : decide (a < c ∨ (a = c ∧ b < d)) = decide (b < d) := by
        by_cases hb : b < d
        · rw [decide_eq_true hb, decide_eq_true (.inr ⟨hac, hb⟩)]
        · rw [decide_eq_false hb, decide_eq_false (by omega)]
      show C _ s
      rw [← e]; exact h
  · have : (a == c) = false := by simpa using hac
    rw [this]
    refine kat_no ?_
    show wpAny (model prog w) A (oneLt' true (.int a t1) (.int c t3)) C _ s
    refine oneLt_int ?_
    have e : decide (a < c ∨ (a = c ∧ b < d)) = decide (a < c) := by
      by_cases hb : a < c
      · rw [decide_eq_true hb, decide_eq_true (.inl hb)]
      · rw [decide_eq_false hb, decide_eq_false (by omega)]
    rw [← e]; exact h

theorem pairs_firsts {h : Heap} : ∀ {items : List Value} {fs : List Value}, items.length = fs.length →
    (∀ (j : Nat) (f : Value), fs[j]? = some f → ∃ (T : Addr) (v2 : Value), items[j]? = some (Value.ref T) ∧ h.IsTuple T #[f, v2]) → KatTups h items fs := by
  intro items
  induction items with
  | nil =>
    intro fs hl _
    cases fs with
    | nil => exact .nil
    | cons f fs => cases hl
  | cons v vs ih =>
    intro fs hl hx
    cases fs with
    | nil => cases hl
    | cons f fs =>
      obtain ⟨T, v2, h1, o, ho, hc, n, hd⟩ := hx 0 f rfl
      have : v = .ref T := by
        have h1' : some v = some (PySem.Value.ref T) := h1
        injection h1'
      subst this
      exact .cons ho hc hd rfl (ih (by simpa using hl) fun j f' e => hx (j + 1) f' e)
theorem list_choose {α : Type} {P : Nat → α → Prop} : ∀ {n : Nat}, (∀ j, j < n → ∃ x, P j x) → ∃ l : List α, l.length = n ∧ ∀ j x, l[j]? = some x → P j x
  | 0, _ => ⟨[], rfl, fun j x e => by simp at e⟩
  | n + 1, h => by
    obtain ⟨l, h1, h2⟩ := list_choose (n := n) fun j hj => h j (by omega)
    obtain ⟨x, hx⟩ := h n (by omega)
    refine ⟨l ++ [x], by simp [h1], fun j y e => ?_⟩
    by_cases hj : j < n
    · rw [List.getElem?_append_left (by omega)] at e
      exact h2 j y e
    · rw [List.getElem?_append_right (by omega)] at e
      have : j = n := by
        have := (List.getElem?_eq_some_iff.mp e).1
        simp at this
        omega
      subst this
      rw [h1, Nat.sub_self] at e
      injection e with e
      exact e ▸ hx

theorem sorted_pairs {l : Addr} {items : List Value} {ks : List Int} {Q : Value → Shared → Prop} (F : Fr h₀ L s.heap m) (hl : s.heap.IsList l items.toArray) (X : PairsAt s.heap items ks) (h2 : 2 ≤ items.length) (h64 : items.length < 64)
    (hQ : ∀ D h' p, PermOk items.length p → Asc (fun i => ks.getD i 0) p items.length → PlainL h' D (p.toList.map fun i => items.getD i Value.none).toArray → Fr h₀ L h' m → (∀ b o, b ≠ L → s.heap.get? b = some o → h'.get? b = some o) → h₀.get? D = none → D ≠ L → Q (.ref D) { s with heap := h' }) :
    wpAny (model prog w) A (call (.builtin "sorted") [.ref l]) Q E s := by
  have N := allAt_news h₀ L s.heap
  refine kat_sorted F N hl h2 h64 fun D e1 h' F' N' hlt => ?_
  have kk := kept_same F F' (fun p hp => N' p (.tail _ hp))
  have X' : PairsAt h' items ks := X.at fun T its hT => tuple_at hT fun o e => kk _ o (tuple_neL F hT) e
  have hkl : ks.length = items.length := X.1.symm
  have firsts : KatTups h' items (ks.map fun k => Value.int k 0) → True := fun _ => trivial
  -- the first items
  obtain ⟨fs, hfl, hfs, hfi⟩ : ∃ fs : List Value, fs.length = items.length ∧ (∀ (j : Nat) (f : Value), fs[j]? = some f → ∃ (T : Addr) (v2 : Value), items[j]? = some (Value.ref T) ∧ h'.IsTuple T #[f, v2]) ∧ ∀ v ∈ fs, ∃ k t, v = PySem.Value.int k t := by
    obtain ⟨fs, f1, f2⟩ := list_choose (n := items.length) (P := fun j f => ∃ (T : Addr) (v2 : Value) (k : Int) (t : Tok), f = PySem.Value.int k t ∧ items[j]? = some (Value.ref T) ∧ h'.IsTuple T #[f, v2]) fun j hj => by
      obtain ⟨T, t, u, g1, g2⟩ := X'.2 j ks[j] (List.getElem?_eq_getElem (by omega))
      exact ⟨_, T, _, _, t, rfl, g1, g2⟩
    refine ⟨fs, f1, fun j f e => ?_, fun v hv => ?_⟩
    · obtain ⟨T, v2, k, t, _, g1, g2⟩ := f2 j f e
      exact ⟨T, v2, g1, g2⟩
    · obtain ⟨j, hj⟩ := List.getElem?_of_mem hv
      obtain ⟨T, v2, k, t, g, _⟩ := f2 j v hj
      exact ⟨k, t, g⟩
  refine kat_kind (T := .type "int") (pairs_firsts hfl.symm hfs) (by omega) (fun v hv => ?_) (by decide) ?_
  · obtain ⟨k, t, rfl⟩ := hfi v hv
    exact Looks.of_pure rfl
  have hb : (Value.type "int" != Value.type "tuple") = true := by decide
  rw [hb]
  refine sort_ok (K := fun i => ks.getD i 0) (fun i j C hi hj hc => ?_) (by omega) fun p hp ha => ?_
  · obtain ⟨T1, t1, u1, g1, g2⟩ := X'.2 i ks[i] (List.getElem?_eq_getElem (by omega))
    obtain ⟨T2, t2, u2, g3, g4⟩ := X'.2 j ks[j] (List.getElem?_eq_getElem (by omega))
    show wpAny (model prog w) A.in1.in1 (keyLt' (tuples' true) (items.getD i Value.none) (items.getD j Value.none)) C _ _
    rw [List.getD_eq_getElem?_getD, List.getD_eq_getElem?_getD, g1, g3]
    refine pair_lt g2 g4 ?_
    have e : decide (Lt (fun i => ks.getD i 0) i j) = decide (ks[i] < ks[j] ∨ (ks[i] = ks[j] ∧ (i : Int) < (j : Int))) := by
      congr 1
      unfold Lt
      have e1 : ks.getD i 0 = ks[i] := by rw [List.getD_eq_getElem?_getD, List.getElem?_eq_getElem (by omega)]; rfl
      have e2 : ks.getD j 0 = ks[j] := by rw [List.getD_eq_getElem?_getD, List.getElem?_eq_getElem (by omega)]; rfl
      simp only [e1, e2, Int.ofNat_lt]
    rw [← e]; exact hc
  · refine KasFin.intro F' N' (UpdF.head fun q hq => Nat.ne_of_lt (hlt q hq)) fun h'' c F'' N'' => ?_
    have kk2 := kept_same F F'' (fun p hp => N'' p (.tail _ hp))
    have hD := N'' _ (.head _)
    exact hQ D h'' p hp ha ⟨_, _, hD.1, rfl, rfl, rfl⟩ F'' kk2 hD.2.2 hD.2.1

/-- a list of one is sorted as it stands -/
theorem sort_single {a : Addr} {v : Value} {n : Nat} {P : Fin → Shared → Prop} (ho : s.heap.get? a = some (seqObj "list" [v].toArray n))
    (h : P (.done (.ret .none)) { s with heap := sortedHeap s.heap a [v] ((arrOf (SortSt.mk' general' ([v].toArray.zip [v].toArray) #[] 7 none)).map (·.2)) }) :
    wpAny (model prog w) A (Builtin.«list.sort» ⟨[.ref a], []⟩) P E s := by
  rw [list_sort_plain]
  have ha : a < s.heap.objs.size := Heap.lt_size ho
  refine wpAny_bind (listItems_at ho rfl (wpAny_bind (listUpdate_at ho rfl ?_)))
  obtain ⟨e1, ho1⟩ : ∃ e1, (s.heap.update a (Obj.mapSeq fun _ => #[])).get? a = some (seqObj "list" #[] e1) := ⟨_, get?_update_seq ho (fun _ => #[])⟩
  refine wpAny_bind (seqEpoch_at ho1 rfl (wpAny_bind (wpAny_newTuple (wpAny_bind (wpAny_newList (wpAny_holding ?_))))))
  have ho6 : (((s.heap.update a (Obj.mapSeq fun _ => #[])).push (seqObj "tuple" [v].toArray 0)).push (seqObj "list" #[] 0)).get? a = some (seqObj "list" #[] e1) := by
    rw [Heap.get?_push_ne _ _ _ (by rw [size_push', Heap.size_update]; exact Nat.ne_of_lt (Nat.lt_succ_of_lt ha)), Heap.get?_push_ne _ _ _ (by rw [Heap.size_update]; exact Nat.ne_of_lt ha)]
    exact ho1
  show wpAny (model prog w) A _ P E { s with heap := ((s.heap.update a (Obj.mapSeq fun _ => #[])).push (seqObj "tuple" [v].toArray 0)).push (seqObj "list" #[] 0) }
  dsimp only
  have h2 : [v].toArray.size < 2 := by simp
  rw [if_pos h2, if_pos h2]
  refine wpAny_bind (wpAny_pure ?_)
  rw [StateT.run_pure]
  refine wpAny_bind (wpAny_pure ?_)
  dsimp only
  refine wpAny_bind (seqEpoch_at ho6 rfl (wpAny_bind (listUpdate_at ho6 rfl ?_ (hsz2 := by rw [Array.size_map]; show (pairsOf [v]).size ≤ _; rw [pairsOf_size, sizeLine_eq]; simp))))
  simp only [bne_self_eq_false, Bool.false_eq_true, if_false]
  exact wpAny_pure h

theorem sorted_single {l : Addr} {v : Value} {Q : Value → Shared → Prop} (hl : s.heap.IsList l [v].toArray)
    (h : Q (.ref (s.heap.objs.size + 1)) { s with heap := sortedAll s.heap [v] #[v] }) : wpAny (model prog w) A (call (.builtin "sorted") [.ref l]) Q E s := by
  refine Calls.call_function_entry kind_sorted plain_sorted entry_sorted (args_sorted1 _) ?_
  unfold Builtin.«sorted»
  refine wpAny_bind (m := checkCount "sorted" 1 1 _) (wpAny_pure ?_)
  refine wpAny_bind (collect_list hl ?_ (by rw [sizeLine_eq]; simp))
  refine wpAny_bind (wpAny_newList ?_)
  have hsz : ((s.heap.push (seqObj "list" #[] 0)).update s.heap.objs.size (Obj.mapSeq (· ++ [v].toArray))).objs.size = s.heap.objs.size + 1 := by
    rw [Heap.size_update, size_push']
  have hoL : (((s.heap.push (seqObj "list" #[] 0)).update s.heap.objs.size (Obj.mapSeq (· ++ [v].toArray))).push (seqObj "list" [v].toArray 0)).get? (s.heap.objs.size + 1) = some (seqObj "list" [v].toArray 0) := by
    rw [← hsz]; exact Heap.get?_push_size _ rfl
  show wpAny _ _ _ _ _ { s with heap := ((s.heap.push (seqObj "list" #[] 0)).update s.heap.objs.size (Obj.mapSeq (· ++ [v].toArray))).push (seqObj "list" [v].toArray 0) }
  rw [hsz]
  have em : (arrOf (SortSt.mk' general' ([v].toArray.zip [v].toArray) #[] 7 none)).map (·.2) = #[v] := by
    show ([v].toArray.zip [v].toArray).map (·.2) = #[v]
    apply Array.ext
    · simp
    · intro i h1 h2
      simp
  refine wpAny_bind (wpAny_holding (wpAny_call_entry slot_list_sort ⟨_, hoL, rfl⟩ entry_list_sort (sort_single hoL ?_) (args_list_sort _)))
  rw [em]
  exact ⟨_, rfl, wpAny_pure ⟨_, rfl, h⟩⟩

/-- sorted, whatever the length -/
theorem sorted_any {l : Addr} {items : List Value} {ks : List Int} {Q : Value → Shared → Prop} (F : Fr h₀ L s.heap m) (hl : s.heap.IsList l items.toArray) (X : PairsAt s.heap items ks) (h1 : 1 ≤ items.length) (h64 : items.length < 64)
    (hQ : ∀ D h' p, PermOk items.length p → Asc (fun i => ks.getD i 0) p items.length → PlainL h' D (p.toList.map fun i => items.getD i Value.none).toArray → Fr h₀ L h' m → (∀ b o, b ≠ L → s.heap.get? b = some o → h'.get? b = some o) → h₀.get? D = none → D ≠ L → Q (.ref D) { s with heap := h' }) :
    wpAny (model prog w) A (call (.builtin "sorted") [.ref l]) Q E s := by
  by_cases h2 : 2 ≤ items.length
  · exact sorted_pairs F hl X h2 h64 hQ
  · obtain ⟨v, rfl⟩ : ∃ v, items = [v] := by
      match items, h1, h2 with
      | [v], _, _ => exact ⟨v, rfl⟩
      | _ :: _ :: _, _, h => exact absurd (by simp) h
    have hLs := F.ns.lt
    have kk : ∀ b o, s.heap.get? b = some o → (sortedAll s.heap [v] #[v]).get? b = some o := fun b o e => sortedAll_old e
    obtain ⟨e, he⟩ := sortedAll_at s.heap [v] #[v]
    refine sorted_single hl (hQ _ _ #[0] (Array.Perm.refl _) (fun a b h1 h2 => by simp at h2; omega) ⟨_, e, he, rfl, rfl, rfl⟩ ⟨F.ns.keeps kk, fun b o e => kk _ _ (F.keep b o e), F.above⟩ (fun b o _ e => kk b o e)
      (Heap.get?_none_of_le (Nat.le_trans F.above (Nat.le_succ_of_le (Nat.le_of_lt hLs)))) (Nat.ne_of_gt (Nat.lt_succ_of_lt hLs)))
end
end Mine
end

section
open PySem PySem.W PyProof.Rows PySem.Calls
set_option maxRecDepth 100000
set_option maxHeartbeats 8000000
namespace Mine
/-- what a comprehension's own objects are -/
noncomputable def OwnAt (h : Heap) (X : Addr) : Prop := FldAt h X ∨ (∃ m, h.Ns X m) ∨ ∃ zs, h.PlainList X zs

/-- a fact on the values that a comprehension made -/
structure Stable (K : List Value → Heap → Prop) : Prop where
  own : ∀ ys h h' X, K ys h → OwnAt h X → (∀ b o, b ≠ X → h.get? b = some o → h'.get? b = some o) → K ys h'
  keeps : ∀ ys h h', K ys h → h.StaysIn h' → K ys h'

theorem tuple_own {h h' : Heap} {X T : Addr} {its : Array Value} (H : h.IsTuple T its) (hX : OwnAt h X) (hk : ∀ b o, b ≠ X → h.get? b = some o → h'.get? b = some o) : h'.IsTuple T its := by
  obtain ⟨o, h1, h2, n, h3⟩ := H
  refine ⟨o, hk _ _ ?_ h1, h2, n, h3⟩
  rintro rfl
  rcases hX with ⟨o', fs, e1, e2⟩ | ⟨m, o', es, ep, e1, e2, _⟩ | ⟨zs, c, e1⟩
  · rw [h1] at e1; cases e1; rw [h3] at e2; cases e2
  · rw [h1] at e1; cases e1; rw [h3] at e2; cases e2
  · have e := congrArg Obj.cls (Option.some.inj (h1.symm.trans e1))
    rw [h2] at e
    injection e with e
    exact absurd e (by decide)

section
variable {prog : Program} {w : World} {A : Around} {E : Value → Shared → Prop} {s : Shared} {env : Env}

/-- the element of a turn -/
noncomputable def EltGen (prog : Program) (w : World) (A : Around) (elt : Expr) (scope : Scope) (cl : List (Str × Addr)) (env : Env) (I : Addr) (s₂ : Shared) (n : Nat) (P : Nat → Value → Prop) (B : Heap → (Str → Option Value) → Value → Prop) (K : List Value → Heap → Prop) : Prop :=
  ∀ C s₃ m₃ E' ys v, s₂.heap.get? C = none → s₃.heap.Ns C m₃ → B s₃.heap m₃ v → P ys.length v → ys.length < n → K ys s₃.heap → (∀ b o, b ≠ I → s₂.heap.get? b = some o → s₃.heap.get? b = some o) → s₃.gens = s₂.gens → s₃.os = s₂.os → s₃.drawn = s₂.drawn →
    wpAny (model prog w) A (eval elt (compEnvC scope cl C env)) (fun y s₄ => ∃ h₄ tk₄, s₄ = { s₃ with heap := h₄, toks := tk₄ } ∧ s₃.heap.StaysIn h₄ ∧ K (ys ++ [y]) h₄) E' s₃

/-- how a value goes to the names -/
noncomputable def TgtGen (prog : Program) (w : World) (A : Around) (target : Expr) (scope : Scope) (cl : List (Str × Addr)) (env : Env) (I : Addr) (s₂ : Shared) (P : Nat → Value → Prop) (B : Heap → (Str → Option Value) → Value → Prop) : Prop :=
  ∀ C s₃ m₃ E' i v (Q : Unit → Shared → Prop), s₃.heap.Ns C m₃ → P i v → (∀ b o, b ≠ I → s₂.heap.get? b = some o → s₃.heap.get? b = some o) →
    (∀ h₄ tk₄ m₄, h₄.Ns C m₄ → B h₄ m₄ v → (∀ b o, b ≠ C → s₃.heap.get? b = some o → h₄.get? b = some o) → Q () { s₃ with heap := h₄, toks := tk₄ }) →
    wpAny (model prog w) A (assign target (compEnvC scope cl C env) v) Q E' s₃

noncomputable def JG (I D C : Addr) (n : Nat) (St : Nat → Heap → Prop) (K : List Value → Heap → Prop) (s s₂ : Shared) (k : Nat) (s' : Shared) : Prop :=
  ∃ h' tk m' ys, s' = { s with heap := h', toks := tk } ∧ ys.length ≤ n ∧ k = n + 1 - ys.length ∧ St ys.length h' ∧ h'.PlainList D ys.toArray ∧ h'.Ns C m' ∧ K ys h' ∧
      (∀ b o, b ≠ I → s₂.heap.get? b = some o → h'.get? b = some o)

theorem compTurn_gen {R : Result → Shared → Prop} {elt target : Expr} {scope : Scope} {cl : List (Str × Addr)} {I D C : Addr} {fp : List Addr} {n : Nat} {P : Nat → Value → Prop} {St : Nat → Heap → Prop} {s₂ : Shared}
    {K : List Value → Heap → Prop} {B : Heap → (Str → Option Value) → Value → Prop}
    (W : Walks prog w A I fp [I] n P St) (hfld : ∀ i h, St i h → FldAt h I)
    (hDC : D ≠ C) (hDf : D ∉ fp) (hCf : C ∉ fp) (hC0 : s₂.heap.get? C = none) (hD0 : s₂.heap.get? D = none)
    (hg : s.gens = s₂.gens) (hos : s.os = s₂.os) (hdr : s.drawn = s₂.drawn)
    (hK : Stable K) (ht : TgtGen prog w A target scope cl env I s₂ P B) (he : EltGen prog w A elt scope cl env I s₂ n P B K)
    (hR : ∀ h' tk m' ys, h'.Ns C m' → h'.PlainList D ys.toArray → K ys h' → ys.length = n →
      (∀ b o, b ≠ I → s₂.heap.get? b = some o → h'.get? b = some o) → R (.ok .next) { s with heap := h', toks := tk })
    (hsz : n ≤ 1000) (E₁ : Value → Shared → Prop) (k : Nat) (s' : Shared) (hJ : JG I D C n St K s s₂ k s')
    (go : ∀ v s₁ (Q' : Unit → Shared → Prop) i, St i s₁.heap → Q' () s₁ → wpAny (model prog w) A (letOwnedTupleGo target (.ref I) v) Q' E₁ s₁) :
    wpAny (model prog w) A (pyNext (.ref I)) (fun r s₁ => match r with
      | none => R (.ok .next) s₁
      | some v => wpAny (model prog w) A (letOwnedTupleGo target (.ref I) v) (fun _ s₁' => wpAny (model prog w) A (assign target (compEnvC scope cl C env) v) (fun _ s₂' =>
          wpAny (model prog w) A (eval elt (compEnvC scope cl C env)) (fun x s₄ =>
              wpAny (model prog w) A (call (.builtin "list.append") [.ref D, x]) (fun _ s₅ => ∃ m, m < k ∧ JG I D C n St K s s₂ m s₅) E₁ s₄) E₁ s₂') E₁ s₁') E₁ s₁) E₁ s' := by
  obtain ⟨H, tk, m', ys, rfl, hle, rfl, hst', hacc', hn', hM, hk⟩ := hJ
  have hIf : I ∈ fp := W.sub I (List.mem_singleton.mpr rfl)
  have hCI : C ≠ I := fun e => hCf (e ▸ hIf)
  have hDI : D ≠ I := fun e => hDf (e ▸ hIf)
  by_cases hlt : ys.length < n
  · refine W.item ys.length _ _ _ hlt hst' fun v h₁ tk₁ hPv hst₁ hk₁ => ?_
    have k₁ : ∀ b o, b ≠ I → H.get? b = some o → h₁.get? b = some o := fun b o hb e => hk₁ b o (by simpa using hb) e
    have hM₁ := hK.own _ _ _ _ hM (.inl (hfld _ _ hst')) k₁
    have hn₁ := hn'.at' fun o e => k₁ _ o hCI e
    have kk₁ : ∀ b o, b ≠ I → s₂.heap.get? b = some o → h₁.get? b = some o := fun b o hb e => k₁ b o hb (hk b o hb e)
    refine go v _ _ _ hst₁ ?_
    refine ht C _ _ _ _ v _ hn₁ hPv kk₁ fun h₂ tk₂ m₂ hn₂ hB₂ k₂ => ?_
    have hM₂ := hK.own _ _ _ _ hM₁ (.inr (.inl ⟨_, hn₁⟩)) k₂
    have hst₂ : St (ys.length + 1) h₂ := W.frame _ _ _ hst₁ fun b hb o e => k₂ b o (fun h => hCf (h ▸ hb)) e
    have hacc₂ : h₂.PlainList D ys.toArray := (hacc'.at fun o e => k₁ _ o hDI e).at fun o e => k₂ _ o hDC e
    have kk : ∀ b o, b ≠ I → s₂.heap.get? b = some o → h₂.get? b = some o := fun b o hb e => k₂ b o (fun h => by rw [h, hC0] at e; cases e) (kk₁ b o hb e)
    refine wpAny_mono (he C _ _ _ ys v hC0 hn₂ hB₂ hPv hlt hM₂ kk hg hos hdr) (fun y s₄ h₄' => ?_) fun _ _ e => e
    obtain ⟨h₄, tk₄, rfl, k₄, hM₄⟩ := h₄'
    have hacc₄ := hacc₂.at fun o e => k₄ _ o e
    refine wpAny_list_append_plain (hsz := by simp only [List.size_toArray]; exact Nat.le_trans (Nat.le_of_lt hlt) (Nat.le_trans hsz (by decide))) hacc₄ fun h₅ hl₅ hs₅ => ?_
    have k₅ : ∀ b o, b ≠ D → h₄.get? b = some o → h₅.get? b = some o := fun b o hb e => hs₅.extBut b o hb e
    refine ⟨n + 1 - (ys.length + 1), by omega, h₅, tk₄, _, ys ++ [y], rfl, by simp; omega, by simp, ?_, by rw [← List.push_toArray]; exact hl₅, (hn₂.keeps k₄).sameBut hs₅ hDC.symm, hK.own _ _ _ _ hM₄ (.inr (.inr ⟨_, hacc₄⟩)) k₅, ?_⟩
    · rw [List.length_append, List.length_singleton]
      exact W.frame _ _ _ (W.frame _ _ _ hst₂ fun b _ o e => k₄ b o e) fun b hb o e => k₅ b o (fun h => hDf (h ▸ hb)) e
    · intro b o hb e
      exact k₅ b o (fun h => by rw [h, hD0] at e; cases e) (k₄ _ _ (kk b o hb e))
  · have hin : ys.length = n := by omega
    refine W.done _ _ _ (hin ▸ hst') fun h₁ tk₁ hk₁ => ?_
    have k₁ : ∀ b o, b ≠ I → H.get? b = some o → h₁.get? b = some o := fun b o hb e => hk₁ b o (by simpa using hb) e
    exact hR h₁ tk₁ m' ys (hn'.at' fun o e => k₁ _ o hCI e) (hacc'.at fun o e => k₁ _ o hDI e) (hK.own _ _ _ _ hM (.inl (hfld _ _ hst')) k₁) hin fun b o hb e => k₁ b o hb (hk b o hb e)

/-- x in the names: a plain name -/
theorem tgt_name {x : Str} {px : Pos} {scope : Scope} {cl : List (Str × Addr)} {I : Addr} {s₂ : Shared} {P : Nat → Value → Prop} (hx : scope.names.lookup x = some .local) (hkind : scope.kind = .function) :
    TgtGen prog w A (.Name x px) scope cl env I s₂ P (fun _ m v => m x = some v) := by
  intro C s₃ m₃ E' i v Q hn _ _ hq
  refine wpAny_assign_Name (wpAny_storeName_local (env := compEnvC scope cl C env) (lookup_relabel_local hx) hn (fun h₂ hn₂ hs₂ => ?_) (by
    show ((relabel scope env).kind == .class || ((relabel scope env).kind == .module && _)) = false
    have : (relabel scope env).kind = .function := hkind
    rw [this]; rfl))
  exact hq h₂ _ _ hn₂ (by simp) fun b o hb e => hs₂.extBut b o hb e

/-- xa, xb in the names: a pair -/
theorem tgt_pair {xa xb : Str} {pa pb pt : Pos} {kt : Nat} {scope : Scope} {cl : List (Str × Addr)} {I : Addr} {s₂ : Shared} {P : Nat → Value → Prop} (hh : A.handled = none) (ha : scope.names.lookup xa = some .local) (hb : scope.names.lookup xb = some .local) (hab : xa ≠ xb) (hkind : scope.kind = .function)
    (hT : ∀ i v, P i v → ∃ T v1 v2, v = .ref T ∧ T ≠ I ∧ s₂.heap.IsTuple T #[v1, v2]) :
    TgtGen prog w A (.Tuple [.Name xa pa, .Name xb pb] kt pt) scope cl env I s₂ P (fun h m v => ∃ T v1 v2, v = .ref T ∧ h.IsTuple T #[v1, v2] ∧ m xa = some v1 ∧ m xb = some v2) := by
  intro C s₃ m₃ E' i v Q hn hP kk hq
  obtain ⟨T, v1, v2, rfl, hTI, o, ho, hc, nT, hd⟩ := hT i v hP
  have hT3 : s₃.heap.IsTuple T #[v1, v2] := ⟨o, kk _ _ hTI ho, hc, nT, hd⟩
  have hp : ((compEnvC scope cl C env).scope.kind == .class || ((compEnvC scope cl C env).scope.kind == .module && (compEnvC scope cl C env).locals != (compEnvC scope cl C env).globals)) = false := by
    show ((relabel scope env).kind == .class || ((relabel scope env).kind == .module && _)) = false
    have : (relabel scope env).kind = .function := hkind
    rw [this]; rfl
  refine wpAny_assign_Tuple hh hT3 (by rfl) (by rfl) fun h₁ he => ?_
  have k1 : s₃.heap.StaysIn h₁ := fun b o e => he b o (Nat.ne_of_lt (Heap.lt_size e)) e
  show wpAny _ _ (assignInOrder [assign (.Name xa pa) (compEnvC scope cl C env), assign (.Name xb pb) (compEnvC scope cl C env)] [v1, v2]) _ _ _
  simp only [assignInOrder]
  have hn1 : h₁.Ns C m₃ := hn.keeps k1
  refine wpAny_bind (wpAny_holding (wpAny_assign_Name (wpAny_storeName_local (env := compEnvC scope cl C env) (lookup_relabel_local ha) hn1 (fun h₂ hn₂ hs₂ => ?_) hp)))
  refine wpAny_bind (wpAny_holding (wpAny_assign_Name (wpAny_storeName_local (env := compEnvC scope cl C env) (lookup_relabel_local hb) (by exact hn₂) (fun h₃ hn₃ hs₃ => wpAny_pure ?_) hp)))
  have k3 : ∀ b o, b ≠ C → h₁.get? b = some o → h₃.get? b = some o := fun b o hb e => hs₃.extBut b o hb (hs₂.extBut b o hb e)
  refine hq h₃ _ _ hn₃ ⟨T, v1, v2, rfl, tuple_own ⟨o, k1 _ _ (kk _ _ hTI ho), hc, nT, hd⟩ (.inr (.inl ⟨_, hn1⟩)) k3, ?_, ?_⟩ fun b o hb e => k3 b o hb (k1 _ _ e)
  · simp [hab]
  · simp

/-- the loop of a comprehension -/
noncomputable def LoopRule (prog : Program) (w : World) (A : Around) (elt target iter : Expr) (scope : Scope) (cl : List (Str × Addr)) (env : Env) (pos : Pos) (C : Addr) : Prop :=
  ∀ (R : Result → Shared → Prop) (I D : Addr) (J : Nat → Shared → Prop) (n : Nat) (s : Shared),
    (∀ k s', J k s' → wpAny (model prog w) A (pyNext (.ref I)) (fun r s₁ => match r with
      | none => R (.ok .next) s₁
      | some v => wpAny (model prog w) A (letOwnedTupleGo target (.ref I) v) (fun _ s₁' => wpAny (model prog w) A (assign target (compEnvC scope cl C env) v) (fun _ s₂' =>
          wpAny (model prog w) A (eval elt (compEnvC scope cl C env)) (fun x s₄ =>
              wpAny (model prog w) A (call (.builtin "list.append") [.ref D, x]) (fun _ s₅ => ∃ m, m < k ∧ J m s₅) (notedBy (model prog w) A (compEnvC scope cl C env) fun e s' => R (.error e) s') s₄) (notedBy (model prog w) A (compEnvC scope cl C env) fun e s' => R (.error e) s') s₂') (notedBy (model prog w) A (compEnvC scope cl C env) fun e s' => R (.error e) s') s₁')
          (notedBy (model prog w) A (compEnvC scope cl C env) fun e s' => R (.error e) s') s₁) (notedBy (model prog w) A (compEnvC scope cl C env) fun e s' => R (.error e) s') s') → J n s →
    codeAny (model prog w) A (.compLoop (.ListComp elt [⟨target, iter, [], 0⟩] scope pos) 0 (.ref I) (.ref D) (compEnvC scope cl C env)) R s

theorem rule_pair {elt iter : Expr} {elts : List Expr} {kt : Nat} {pt : Pos} {scope : Scope} {cl : List (Str × Addr)} {pos : Pos} {C : Addr} : LoopRule prog w A elt (.Tuple elts kt pt) iter scope cl env pos C :=
  fun R I D J n s turn hJ => LCp.codeAny_compLoop_pair J turn n hJ

theorem pure_wp {α β : Type} {M : Model} {A : Around} {a : α} {t : α → Sem β} {Q : β → Shared → Prop} {E : Value → Shared → Prop} {s : Shared} (h : wpAny M A (pure a : Sem α) (fun a s' => wpAny M A (t a) Q E s') E s) : wpAny M A (t a) Q E s := fun Γ p hΓ => by
  have := h Γ p hΓ
  rw [Sem.wp_pure'] at this
  exact this Γ p hΓ

theorem rule_name {elt iter : Expr} {x : Str} {px : Pos} {scope : Scope} {cl : List (Str × Addr)} {pos : Pos} {C : Addr} : LoopRule prog w A elt (.Name x px) iter scope cl env pos C := by
  intro R I D J n s turn hJ
  refine codeAny_compLoop_tests J (fun k s' hk => wpAny_mono (turn k s' hk) (fun r s₁ h => ?_) fun _ _ e => e) n hJ
  cases r with
  | none => exact h
  | some v =>
    have q := pure_wp (M := model prog w) (t := fun _ => assign (.Name x px) (compEnvC scope cl C env) v) (show wpAny (model prog w) A (pure () : Sem Unit) _ _ s₁ from h)
    refine wpAny_mono q (fun _ s₂ h₂ => ?_) fun _ _ e => e
    rw [List.forIn_nil]
    refine wpAny_pure ?_
    rw [if_pos rfl]
    exact h₂

theorem comp_block {elt iter target : Expr} {scope : Scope} {cl : List (Str × Addr)} {pos : Pos} {s₂ : Shared} {I : Addr} {fp : List Addr} {n : Nat} {P : Nat → Value → Prop} {St : Nat → Heap → Prop}
    {K : List Value → Heap → Prop} {B : Heap → (Str → Option Value) → Value → Prop} {RR : Value → Addr → Result → Shared → Prop}
    (W : Walks prog w A I fp [I] n P St) (hfld : ∀ i h, St i h → FldAt h I) (hrule : ∀ C, LoopRule prog w A elt target iter scope cl env pos C)
    (hcell : ∀ z ∈ scope.names, z.2 ≠ .cell) (hkind : scope.kind = .function) (hst : St 0 s₂.heap) (hfp : ∀ b ∈ fp, b < s₂.heap.objs.size) (hsz : n ≤ 1000)
    (hgo : ∀ v s₁ (Q' : Unit → Shared → Prop) E' i, St i s₁.heap → Q' () s₁ → wpAny (model prog w) A (letOwnedTupleGo target (.ref I) v) Q' E' s₁)
    (hK : Stable K) (hK0 : ∀ h', s₂.heap.StaysIn h' → K [] h') (ht : TgtGen prog w A target scope cl env I s₂ P B) (he : EltGen prog w A elt scope cl env I s₂ n P B K)
    (hRR : ∀ D C h' tk m' ys, s₂.heap.get? D = none → s₂.heap.get? C = none → D ≠ C → h'.Ns C m' → h'.PlainList D ys.toArray → K ys h' → ys.length = n →
      (∀ b o, b ≠ I → s₂.heap.get? b = some o → h'.get? b = some o) → RR (.ref D) C (.ok .next) { s₂ with heap := h', toks := tk }) :
    wpAny (model prog w) A (newList []) (fun acc s₃ => wpAny (model prog w) A (newFunctionEnv scope env.globals cl [] env.qual none .none (some env)) (fun cenv s₄ =>
      codeAny (model prog w) A (.compStart (.ListComp elt [⟨target, iter, [], 0⟩] scope pos) 0 (.ref I) acc { cenv with scope := relabel scope env }) (RR acc cenv.locals) s₄) E s₃) E s₂ := by
  refine wpAny_newObj_type (wpAny_newFunctionEnv hcell (by intro y hy; simp at hy) (fun h₁ hns₁ hsb₁ => ?_) hkind)
  dsimp only at hns₁ hsb₁ ⊢
  generalize hH2 : s₂.heap.push { cls := .type "list", dict := none, data := .seq ([] : List Value).toArray } = H2 at hns₁ hsb₁ ⊢
  have hC : H2.objs.size = s₂.heap.objs.size + 1 := by rw [← hH2, Heap.size_push]
  have hDC : s₂.heap.objs.size ≠ H2.objs.size := by rw [hC]; exact Nat.ne_of_lt (Nat.lt_succ_self _)
  have below : ∀ b, b < s₂.heap.objs.size → b ≠ H2.objs.size := fun b hb => by rw [hC]; exact Nat.ne_of_lt (Nat.lt_succ_of_lt hb)
  have hDf : s₂.heap.objs.size ∉ fp := fun hm => Nat.lt_irrefl _ (hfp _ hm)
  have hCf : H2.objs.size ∉ fp := fun hm => by have := hfp _ hm; rw [hC] at this; exact Nat.lt_irrefl _ (Nat.lt_of_succ_lt this)
  have old : s₂.heap.StaysIn h₁ := fun b o e => hsb₁.extBut b o (below b (Heap.lt_size e)) (Heap.get?_push_of_some _ (hH2 ▸ Heap.get?_push_of_some _ e))
  have hacc : h₁.PlainList s₂.heap.objs.size #[] := ⟨_, hsb₁.extBut _ _ hDC (Heap.get?_push_of_some _ (hH2 ▸ Heap.get?_push_size _ rfl))⟩
  have hst₁ : St 0 h₁ := W.frame _ _ _ hst fun b _ o e => old b o e
  have hC0 : s₂.heap.get? H2.objs.size = none := Heap.get?_none_of_le (by rw [hC]; exact Nat.le_succ _)
  have hD0 : s₂.heap.get? s₂.heap.objs.size = none := Heap.get?_none_of_le (Nat.le_refl _)
  have loop : codeAny (model prog w) A (.compLoop (.ListComp elt [⟨target, iter, [], 0⟩] scope pos) 0 (.ref I) (.ref s₂.heap.objs.size) (compEnvC scope cl H2.objs.size env)) (RR (.ref s₂.heap.objs.size) H2.objs.size) { s₂ with heap := h₁, toks := s₂.toks + ([] : List (Str × Value)).length } := by
    refine hrule H2.objs.size _ I s₂.heap.objs.size (JG I s₂.heap.objs.size H2.objs.size n St K { s₂ with heap := h₁, toks := s₂.toks + ([] : List (Str × Value)).length } s₂) (n + 1) _ (fun k s' hJ => ?_) ⟨h₁, _, _, [], rfl, Nat.zero_le _, rfl, hst₁, hacc, hns₁, hK0 _ old, fun b o _ e => old b o e⟩
    exact compTurn_gen (s := { s₂ with heap := h₁, toks := s₂.toks + ([] : List (Str × Value)).length }) W hfld hDC hDf hCf hC0 hD0 rfl rfl rfl hK ht he (fun h' tk m' ys hn hp hk hl hkp => hRR _ _ h' tk m' ys hD0 hC0 hDC hn hp hk hl hkp) hsz _ k s' hJ (fun v s₁ Q' i h1 h2 => hgo v s₁ Q' _ i h1 h2)
  exact codeAny_compStart_list loop (W.self 0 _ _ _ hst₁ loop)

/-- y = [elt for target in iter] -/
theorem assign_comp_gen {elt iter target : Expr} {y : Str} {py : Pos} {scope : Scope} {cl : List (Str × Addr)} {pos spos : Pos} {Q : Flow → Shared → Prop}
    (hsw : swapsWith (.ListComp elt [⟨target, iter, [], 0⟩] scope pos) (some (.Name y py)) spos.line env = pure true)
    (hclos : closureFor scope env = pure cl) (hcell : ∀ z ∈ scope.names, z.2 ≠ .cell) (hkind : scope.kind = .function)
    (hnames : ∀ z ∈ scope.names, z.2 = .local → scope.names.lookup z.1 = some .local)
    (hrule : ∀ C, LoopRule prog w A elt target iter scope cl env pos C)
    (hy : env.kindOf y = some .local) (hp : (env.scope.kind == .class || (env.scope.kind == .module && env.locals != env.globals)) = false)
    (h : wpAny (model prog w) A (eval iter env) (fun xv s₁ => wpAny (model prog w) A (pyIter xv) (fun it s₂ => ∃ I fp n P St K B m, it = .ref I ∧ Walks prog w A I fp [I] n P St ∧ n ≤ 1000 ∧ St 0 s₂.heap ∧ (∀ b ∈ fp, b < s₂.heap.objs.size) ∧
      (∀ i h, St i h → FldAt h I) ∧ (∀ v s₁ (Q' : Unit → Shared → Prop) E' i, St i s₁.heap → Q' () s₁ → wpAny (model prog w) A (letOwnedTupleGo target (.ref I) v) Q' E' s₁) ∧
      Stable K ∧ (∀ h', s₂.heap.StaysIn h' → K [] h') ∧ TgtGen prog w A target scope cl env I s₂ P B ∧ EltGen prog w A elt scope cl env I s₂ n P B K ∧ env.locals ≠ I ∧ s₂.heap.Ns env.locals m ∧
      (∀ D h' tk ys, s₂.heap.get? D = none → h'.PlainList D ys.toArray → K ys h' → ys.length = n →
        h'.Ns env.locals (fun z => if z = y then some (.ref D) else m z) → (∀ b o, b ≠ env.locals → b ≠ I → s₂.heap.get? b = some o → h'.get? b = some o) → Q .next { s₂ with heap := h', toks := tk })) E s₁) E s)
    (hs : ∀ x, foldedSetIterable iter env x = pure x := by intro _; rfl) :
    wpAny (model prog w) A (exec (.Assign [.Name y py] (.ListComp elt [⟨target, iter, [], 0⟩] scope pos) spos) env) Q E s := by
  rw [exec_Assign_Name_used _ _ _ _ hsw]
  refine wpAny_bind (wpAny_standAt (wpAny_bind ?_))
  show wpAny _ A (do let _ ← comprehension (.ListComp elt [⟨target, iter, [], 0⟩] scope pos) scope env _ (newList []) false (eval iter env) (some (assign (.Name y py) env))) _ _ s
  refine wpAny_bind (wpAny_mono (wpAny_comprehension_free (use := some (assign (.Name y py) env)) (Q := fun _ s' => Q .next s') rfl hs hclos hkind hnames
    (wpAny_mono h (fun xv s₁ h₁ => wpAny_mono h₁ (fun it s₂ h₂ => ?_) fun _ _ e => e) fun _ _ e => e)) (fun _ s' hq => wpAny_pure (wpAny_pure hq)) fun _ _ e => e)
  obtain ⟨I, fp, n, P, St, K, B, m, rfl, W, hsz, hst, hfp, hfld, hgo, hK, hK0, ht, he, hLI, hn, hQ⟩ := h₂
  refine comp_block W hfld hrule hcell hkind hst hfp hsz hgo hK hK0 ht he fun D C h' tk m' ys hD0 hC0 hDC hnC hpl hk hlen hkp => ?_
  have hLC : env.locals ≠ C := by rintro e; obtain ⟨o, _, _, ho, _⟩ := hn; rw [e, hC0] at ho; cases ho
  have hLD : env.locals ≠ D := by rintro e; obtain ⟨o, _, _, ho, _⟩ := hn; rw [e, hD0] at ho; cases ho
  have hL' : h'.Ns env.locals m := hn.at' fun o e => hkp _ o hLI e
  show wpAny _ A (assign (.Name y py) env (.ref D)) _ _ _
  refine wpAny_assign_Name (wpAny_storeName_local hy hL' (fun h₂ hn₂ hs₂ => ?_) hp)
  have k₂ : ∀ b o, b ≠ env.locals → h'.get? b = some o → h₂.get? b = some o := fun b o hb e => hs₂.extBut b o hb e
  refine ⟨m', hnC.sameBut hs₂ hLC.symm, fun h₃ hs₃ => ?_⟩
  have k₃ : ∀ b o, b ≠ C → h₂.get? b = some o → h₃.get? b = some o := fun b o hb e => hs₃.extBut b o hb e
  refine hQ D h₃ _ ys hD0 ((hpl.at fun o e => k₂ _ o hLD.symm e).at fun o e => k₃ _ o hDC e) ?_ hlen (hn₂.sameBut hs₃ hLC) fun b o hbL hbI e => k₃ b o (fun q => by rw [q, hC0] at e; cases e) (k₂ b o hbL (hkp b o hbI e))
  exact hK.own _ _ _ _ (hK.own _ _ _ _ hk (.inr (.inl ⟨_, hL'⟩)) k₂) (.inr (.inl ⟨_, hnC.sameBut hs₂ hLC.symm⟩)) k₃

/-- [elt for target in iter], as a value -/
theorem eval_comp_gen {elt iter target : Expr} {scope : Scope} {cl : List (Str × Addr)} {pos : Pos} {Q : Value → Shared → Prop}
    (hclos : closureFor scope env = pure cl) (hcell : ∀ z ∈ scope.names, z.2 ≠ .cell) (hkind : scope.kind = .function)
    (hnames : ∀ z ∈ scope.names, z.2 = .local → scope.names.lookup z.1 = some .local)
    (hrule : ∀ C, LoopRule prog w A elt target iter scope cl env pos C)
    (h : wpAny (model prog w) A (eval iter env) (fun xv s₁ => wpAny (model prog w) A (pyIter xv) (fun it s₂ => ∃ I fp n P St K B, it = .ref I ∧ Walks prog w A I fp [I] n P St ∧ n ≤ 1000 ∧ St 0 s₂.heap ∧ (∀ b ∈ fp, b < s₂.heap.objs.size) ∧
      (∀ i h, St i h → FldAt h I) ∧ (∀ v s₁ (Q' : Unit → Shared → Prop) E' i, St i s₁.heap → Q' () s₁ → wpAny (model prog w) A (letOwnedTupleGo target (.ref I) v) Q' E' s₁) ∧
      Stable K ∧ (∀ h', s₂.heap.StaysIn h' → K [] h') ∧ TgtGen prog w A target scope cl env I s₂ P B ∧ EltGen prog w A elt scope cl env I s₂ n P B K ∧
      (∀ D h' tk ys, s₂.heap.get? D = none → h'.PlainList D ys.toArray → K ys h' → ys.length = n →
        (∀ b o, b ≠ I → s₂.heap.get? b = some o → h'.get? b = some o) → Q (.ref D) { s₂ with heap := h', toks := tk })) E s₁) E s)
    (hs : ∀ x, foldedSetIterable iter env x = pure x := by intro _; rfl) :
    wpAny (model prog w) A (eval (.ListComp elt [⟨target, iter, [], 0⟩] scope pos) env) Q E s := by
  rw [eval_ListComp]
  refine wpAny_comprehension_free (use := none) rfl hs hclos hkind hnames (wpAny_mono h (fun xv s₁ h₁ => wpAny_mono h₁ (fun it s₂ h₂ => ?_) fun _ _ e => e) fun _ _ e => e)
  obtain ⟨I, fp, n, P, St, K, B, rfl, W, hsz, hst, hfp, hfld, hgo, hK, hK0, ht, he, hQ⟩ := h₂
  refine comp_block W hfld hrule hcell hkind hst hfp hsz hgo hK hK0 ht he fun D C h' tk m' ys hD0 hC0 hDC hnC hpl hk hlen hkp => ?_
  refine ⟨m', hnC, fun h₃ hs₃ => ?_⟩
  have k₃ : ∀ b o, b ≠ C → h'.get? b = some o → h₃.get? b = some o := fun b o hb e => hs₃.extBut b o hb e
  exact hQ D h₃ _ ys hD0 (hpl.at fun o e => k₃ _ o hDC e) (hK.own _ _ _ _ hk (.inr (.inl ⟨_, hnC⟩)) k₃) hlen fun b o hb e => k₃ b o (fun q => by rw [q, hC0] at e; cases e) (hkp b o hb e)
end
end Mine
end

section
open PySem PySem.W PyProof.Rows PySem.Calls
set_option maxRecDepth 100000
set_option maxHeartbeats 8000000
namespace Mine
theorem fillRight3 (P : Params) : PySem.Challenge.rw_yh0005_01 = PySem.Challenge.rw_yh0005_01 → hd.heap_1 P = hd.heap_1 P := by
  k_fill
  intro _
  rfl

/-- numbers in some order -/
noncomputable def NumsAt (ys : List Value) (ord : List Nat) : Prop := ys.length = ord.length ∧ ∀ (j k : Nat), ord[j]? = some k → ∃ t, ys[j]? = some (Value.int (k : Int) t)

section
variable {w : World} {A : Around} {s : Shared} {base : Heap} {outer : List Env} {mean : ExcName → Option Value} {mg mb : Str → Option Value} {g : Heap}
  {name qual : Str} {params : Arguments} {body : List Stmt} {scope : Scope} {dV kV doc pm cdv ct oc : Value} {an od : Option Addr} {osl : Array (Option Value)}
  {L Pp Po : Addr} {hf : Heap} {tkf : Nat} {Q : Flow → Shared → Prop} {m : Str → Option Value} {ps : List (Option Int)} {items : List Value} {ks : List Int}

theorem right_3 (ho : (hd.heap_1 w.params).lookup 191 = some ⟨oc, od, .func (fnOf name qual params body scope dV kV doc pm an cdv ct), osl⟩)
    (C : Cx w mean mg mb g) (hh : A.handled = none) (F : Fr g L hf m) (hmo : m (Str.ofString "order") = some (.ref Po))
    (hPo : PlainL hf Po items.toArray) (hX : PairsAt hf items ks) (h1 : 1 ≤ items.length) (h20 : items.length ≤ 20)
    (done : ∀ h' tk Do ys p, PermOk items.length p → Asc (fun i => ks.getD i 0) p items.length → Fr g L h' (fun z => if z = Str.ofString "order" then some (.ref Do) else m z) → PlainL h' Do ys.toArray → NumsAt ys p.toList →
      (∀ b o, b ≠ L → hf.get? b = some o → h'.get? b = some o) → g.get? Do = none → Do ≠ L → Q .next { s with heap := h', toks := tk }) :
    wpAny (model PySem.Challenge.rw_yh0005_01.row.prog w) (A.deeper (envOfC qual scope L 191 cdv)) (execs ((body.drop 5).take 1) (envOfC qual scope L 191 cdv)) Q (fun _ _ => False) { s with heap := hf, toks := tkf } := by
  refine (fun (e2 : (hd.heap_1 w.params).lookup 191 = some ⟨_, _, .func (fnOf _ _ _ _ _ _ _ _ _ _ _ _), _⟩) => ?_) (by k_is)
  rw [ho] at e2
  injection e2 with e2
  injection e2 with e3 e4 e5 e6
  injection e5 with e5
  injection e5 with n1 n2 n3 n4 n5
  injection n4 with n4
  subst_vars
  clear ho
  refine wpAny_execs_cons ?_
  refine assign_comp_gen (cl := []) (by rfl) (by rfl) (by decide) (by rfl) (by decide) (fun _ => rule_pair) (by rfl) (by rfl) ?_
  have X' := C.X
  have T' := C.T
  have F' := F
  have N' : News g L hf (allAt g L hf) := allAt_news g L hf
  k_steps
  refine name_local' F.ns hmo ?_ (by rfl) (by rfl) (by decide)
  refine args_nil ?_
  refine sorted_any F hPo.isList hX h1 (by omega) fun D h3 p hp ha hD F3 k3 hD0 hDL => ?_
  refine wpAny_pyIter_list hD.isList ?_
  have k4 : h3.StaysIn (h3.push { cls := .type "list_iterator", data := .fields #[.ref D, .int 0 0] }) := fun b o e => Heap.get?_push_of_some _ e
  have hDlt : D < h3.objs.size := hD.lt
  have hne : D ≠ h3.objs.size := Nat.ne_of_lt hDlt
  have hL3 : L < h3.objs.size := F3.ns.lt
  have hlen : p.toList.length = items.length := by rw [Array.length_toList, hp.size]
  have hX3 : PairsAt h3 items ks := hX.at fun T its hT => tuple_at hT fun o e => k3 _ o (tuple_neL F hT) e
  have hval : ∀ (i : Nat) (v : Value), (p.toList.map fun i => items.getD i Value.none).toArray[i]? = some v → ∃ (k : Nat) (T : Addr) (t u : Tok), p.toList[i]? = some k ∧ v = .ref T ∧ h3.IsTuple T #[.int (ks.getD k 0) t, .int (k : Int) u] := by
    intro i v e
    rw [List.getElem?_toArray, List.getElem?_map] at e
    cases hk : p.toList[i]? with
    | none => rw [hk] at e; cases e
    | some k =>
      rw [hk] at e
      have hkn : k < items.length := by
        obtain ⟨hi, hk'⟩ := List.getElem?_eq_some_iff.mp hk
        have hlt := hp.lt (a := i) (by rw [← hlen]; exact hi)
        have e2 : p.getD i 0 = k := by
          have : i < p.size := by simpa using hi
          simp [Array.getD, this]
          simpa using hk'
        rw [e2] at hlt; exact hlt
      have hkk : k < ks.length := by rw [← hX.1]; exact hkn
      obtain ⟨T, t, u, g1, g2⟩ := hX3.2 k ks[k] (List.getElem?_eq_getElem hkk)
      refine ⟨k, T, t, u, rfl, ?_, ?_⟩
      · simp only [Option.map_some, List.getD_eq_getElem?_getD, g1] at e
        injection e with e; exact e.symm
      · rw [List.getD_eq_getElem?_getD, List.getElem?_eq_getElem hkk]; exact g2
  refine ⟨_, _, _, _, _, fun ys _ => NumsAt ys (p.toList.take ys.length), _, _, rfl, Walks.list (by exact hh) h3.objs.size D hne _, by rw [List.size_toArray, List.length_map]; omega, ⟨⟨_, Heap.get?_push_size _ rfl, rfl, rfl⟩, hD.isList.at fun o e => k4 _ _ e⟩, ?_, ?_, ?_, ⟨fun _ _ _ _ a _ _ => a, fun _ _ _ a _ => a⟩, fun _ _ => ⟨by simp, fun j k e => by simp at e⟩,
    tgt_pair (by exact hh) (by rfl) (by rfl) (by decide) (by rfl) ?_, ?_, Nat.ne_of_lt hL3, (F3.ns.keeps k4), ?_⟩
  · intro b hb
    show b < (h3.push _).objs.size
    rw [Heap.size_push]
    rcases List.mem_cons.mp hb with rfl | hb
    · exact Nat.lt_succ_self _
    · rw [List.mem_singleton.mp hb]; exact Nat.lt_succ_of_lt hDlt
  · rintro i h ⟨⟨o, e, _, hd⟩, _⟩
    exact ⟨o, _, e, hd⟩
  · rintro v s₁ Q' E' i ⟨⟨o, ho, hc, hd⟩, _⟩ hq
    unfold letOwnedTupleGo
    cases v with
    | ref T =>
      dsimp only
      refine wpAny_bind (wpAny_load ho ?_)
      rw [hc, hd]
      exact wpAny_pure hq
    | _ => exact wpAny_pure hq
  · intro i v hv
    obtain ⟨k, T, t, u, hk, rfl, hT⟩ := hval i v hv
    obtain ⟨o, a1, a2, n, a3⟩ := hT
    exact ⟨T, _, _, rfl, Nat.ne_of_lt (Heap.lt_size a1), o, k4 _ _ a1, a2, n, a3⟩
  · intro Cc s₃ m₃ E' ys v hC0 hn hB hP hlt hK hk hgn hos hdr
    obtain ⟨T, v1, v2, rfl, hT, hb1, hb2⟩ := hB
    obtain ⟨k, T', t, u, hpk, eT, hT'⟩ := hval _ _ hP
    injection eT with eT
    subst eT
    have hv2 : v2 = .int (k : Int) u := by
      obtain ⟨o, a1, a2, n, a3⟩ := hT'
      obtain ⟨o', b1, b2, n', b3⟩ := hT
      have := hk _ _ (Nat.ne_of_lt (Heap.lt_size a1)) (k4 _ _ a1)
      rw [b1] at this; cases this
      rw [b3] at a3
      injection a3 with a3 _
      have := congrArg (fun x : Array Value => x[1]?) a3
      simpa using this
    subst hv2
    refine wpAny_Name (wpAny_loadName_local (by rfl) (by rfl) hn hb2 ?_) (by decide)
    refine ⟨_, _, rfl, fun _ _ e => e, ?_⟩
    have hi : ys.length < p.toList.length := by
      obtain ⟨hi, _⟩ := List.getElem?_eq_some_iff.mp hpk
      exact hi
    have et : p.toList.take (ys ++ [Value.int (k : Int) u]).length = p.toList.take ys.length ++ [k] := by
      rw [List.length_append, List.length_singleton, List.take_succ_eq_append_getElem hi]
      congr 1
      rw [List.getElem?_eq_getElem hi] at hpk
      injection hpk with hpk
      rw [hpk]
    show NumsAt _ _
    rw [et]
    have hl' : (p.toList.take ys.length).length = ys.length := by rw [List.length_take]; omega
    refine ⟨by simp [hl'], fun j k' e => ?_⟩
    by_cases hj : j < ys.length
    · rw [List.getElem?_append_left (by omega)] at e
      obtain ⟨t', ht'⟩ := hK.2 j k' e
      exact ⟨t', by rw [List.getElem?_append_left hj]; exact ht'⟩
    · rw [List.getElem?_append_right (by omega), hl'] at e
      have hj' : j - ys.length = 0 := by
        rcases Nat.eq_zero_or_pos (j - ys.length) with h0 | h0
        · exact h0
        · rw [List.getElem?_eq_none (by simp; omega)] at e; cases e
      rw [hj'] at e
      injection e with e
      subst e
      exact ⟨u, by rw [List.getElem?_append_right (by omega), hj']; rfl⟩
  · intro Do h5 tk5 ys hDo0 hpl hK hlen5 hns5 hk5
    have hn' : ys.length = items.length := by simpa [hlen] using hlen5
    have hK' : NumsAt ys p.toList := by
      have : p.toList.take ys.length = p.toList := List.take_of_length_le (by omega)
      rw [this] at hK; exact hK
    have kk : ∀ b o, b ≠ L → hf.get? b = some o → h5.get? b = some o := fun b o hb e => hk5 b o hb (Nat.ne_of_lt (Heap.lt_size (k3 b o hb e))) (k4 _ _ (k3 b o hb e))
    have hDo3 : h3.get? Do = none := by
      cases q : h3.get? Do with
      | none => rfl
      | some o => rw [show Heap.get? _ Do = some o from k4 _ _ q] at hDo0; cases hDo0
    have hDog : g.get? Do = none := by
      cases q : g.get? Do with
      | none => rfl
      | some o => rw [F3.keep _ _ q] at hDo3; cases hDo3
    have hDoL : Do ≠ L := by
      rintro rfl
      obtain ⟨o, _, _, e, _⟩ := F3.ns
      rw [hDo3] at e; cases e
    refine wpAny_execs_nil (done h5 _ Do ys p hp ha ⟨hns5, fun b o e => ?_, F3.above⟩ ?_ hK' kk hDog hDoL)
    · exact kk b o (fun q => by rw [q] at e; rw [kts_self F] at e; cases e) (F.keep _ _ e)
    · obtain ⟨c, hc⟩ := hpl
      exact ⟨_, _, hc, rfl, rfl, rfl⟩
end
end Mine
end

section
open PySem PySem.W PyProof.Rows PySem.Calls
set_option maxRecDepth 100000
set_option maxHeartbeats 8000000
namespace Mine
theorem fillGen (P : Params) : PySem.Challenge.rw_yh0005_01 = PySem.Challenge.rw_yh0005_01 → hd.heap_1 P = hd.heap_1 P := by
  k_fill
  intro _
  rfl
section
variable {prog : Program} {w : World} {A : Around} {E : Value → Shared → Prop} {s : Shared} {mean : ExcName → Option Value} {mg mb : Str → Option Value} {env : Env}

/-- a built-in name, met anywhere -/
theorem name_boot {x : Str} {v : Value} {pos : Pos} {Q : Value → Shared → Prop} (C : Cx w mean mg mb s.heap) (hn : nsIn (hd.heap_1 w.params) mainGlobals x = some none) (hb : bootBuiltins x = some v) (h : Q v s)
    (hne : x ≠ "__name__") (hg : env.globals = mainGlobals) (hbi : env.builtins = builtinsNs) (hk : env.scope.kind = .function) (hx : env.kindOf x = some .globalImplicit) (hd : (x == ("__debug__" : Str)) = false) :
    wpAny (model prog w) A (eval (.Name x pos) env) Q E s :=
  Name_function_global hk hx (loadGlobal_builtin (hg ▸ C.T.g) (mg_none_of C.X C.T.g hn) (hbi ▸ C.T.b) ((C.T.builtins _ hne).trans hb) h) hd

theorem name_local {x : Str} {v : Value} {pos : Pos} {m : Str → Option Value} {Q : Value → Shared → Prop} (hn : s.heap.Ns env.locals m) (hv : m x = some v) (h : Q v s)
    (hk : env.scope.kind = .function) (hx : env.kindOf x = some .local) (hd : (x == ("__debug__" : Str)) = false) : wpAny (model prog w) A (eval (.Name x pos) env) Q E s :=
  wpAny_Name (wpAny_loadName_local hk hx hn hv h) hd

/-- a code table of the text's, whatever it bears -/
noncomputable def TabOk (h : Heap) (P : Addr) : Prop := ∃ ps, h.get? P = some (tabObj ps) ∧ TriplesOk ps.toList

theorem TabOk.keeps {h h' : Heap} {P : Addr} (T : TabOk h P) (hk : ∀ o, h.get? P = some o → h'.get? P = some o) : TabOk h' P := let ⟨ps, a, b⟩ := T; ⟨ps, hk _ a, b⟩

theorem genexp_code {c P : Addr} {pos : Pos} {qual : Str} {scope : Scope} {Q : Value → Shared → Prop} {M : Model} (hc : env.code = .ref c) (X : (hd.heap_1 w.params).In s.heap) (hcd : codeHdIn (hd.heap_1 w.params) c P = true) (T : TabOk s.heap P)
    (h : ∀ code h' tk, Heap.ExtBut P s.heap h' → TabOk h' P → s.heap.objs.size ≤ h'.objs.size → Q code { s with heap := h', toks := tk }) : wpAny M A (genexprCode env pos qual scope) Q E s := by
  obtain ⟨ps, hP, htr⟩ := T
  obtain ⟨o, vs, file, tf, flags, tg, inF, text, tt, ho, hcl, hd, h11, h2, h18, h7, h9, h10, hne⟩ := codeHd_of_K X hcd
  have hIs : s.heap.IsCode c P ps := ⟨o, vs, file, tf, flags, tg, inF, text, tt, _, ho, hd, h2, h18, h7, h9, h10, hP, rfl, htr, hne⟩
  have hTab : s.heap.TableAt c P ps := ⟨⟨o, vs, ho, hcl, hd, h11⟩, hP⟩
  cases hf : codeAmong pos ps.toList with
  | some c' =>
    refine wpAny_genexprCode_hit hc hIs hf ?_
    exact h c' s.heap s.toks (fun _ _ _ e => e) ⟨ps, hP, htr⟩ (Nat.le_refl _)
  | none =>
    refine wpAny_genexprCodeX hc hIs hTab hf fun c' h' tk he hge hlt hIs' _ hTab' _ => ?_
    obtain ⟨_, _, _, _, _, _, _, _, _, op, _, _, _, _, _, _, _, hop, hpd, htr', _⟩ := hIs'
    refine h (.ref c') h' tk he ⟨_, hTab'.2, htr'⟩ (Nat.le_trans hge (Nat.le_of_lt hlt))

theorem kind_iter : builtinKind "list.__iter__" = some .slot ∨ builtinKind "list.__iter__" = some .method := by first | exact .inl (by decide +kernel) | exact .inr (by decide +kernel)
theorem split_iter : splitId "list.__iter__" = some ("list", "__iter__") := by decide +kernel

/-- iter(self) -/
theorem iter_acc {a d : Addr} {items : Array Value} {n : Nat} {Q : Value → Shared → Prop} (X : (hd.heap_1 w.params).In s.heap) (ho : s.heap.get? a = some (accObj d items n))
    (h : Q (.ref s.heap.objs.size) { s with heap := s.heap.push { cls := .type "list_iterator", data := .fields #[.ref a, .int 0 0] } }) : wpAny (model prog w) A (pyIter (.ref a)) Q E s := by
  obtain ⟨hp, g, dr, tk, os⟩ := s
  have hT : Looks (model prog w) hp (typeOf (.ref a)) (.ref 100) := type_acc (s := ⟨hp, g, dr, tk, os⟩) ho rfl
  have hL : Looks (model prog w) hp (isInstance (.ref a) (.type "list")) true := isList_acc (s := ⟨hp, g, dr, tk, os⟩) X ho rfl
  have hI := looks_findIn (M := model prog w) X (find_iter _)
  have hB := slot_list_iter.bind (.ref a)
  unfold pyIter specialOf
  refine wpAny_bind (wpAny_bind (hT.at (hI.at ?_)))
  have fin : ∀ {A' : Around} {E' : Value → Shared → Prop} {Q' : Value → Shared → Prop}, Q' (.ref hp.objs.size) ⟨hp.push { cls := .type "list_iterator", data := .fields #[.ref a, .int 0 0] }, g, dr, tk, os⟩ →
      wpAny (model prog w) A' (call (.builtin "list.__iter__") [.ref a]) Q' E' ⟨hp, g, dr, tk, os⟩ := by
    intro A' E' Q' hq
    refine call_list kind_iter split_iter slot_list_iter.plain entry_list_iter hL (args_list_iter _) ?_
    show wpAny _ _ (do ret (← newFields "list_iterator" [.ref a, rawInt 0])) _ _ _
    exact wpAny_bind (wpAny_newObj_type (wpAny_pure ⟨_, rfl, hq⟩))
  dsimp only
  refine wpAny_bind ?_
  unfold callSpecialIfBoundUnlessNone?
  refine wpAny_holding (wpAny_bind ?_)
  simp only [bindSpecialIfBound?]
  unfold specialOf
  refine wpAny_bind (wpAny_bind (hT.at (hI.at ?_)))
  dsimp only
  refine wpAny_bind (wpAny_askSetting (wpAny_ite ?_))
  have go : wpAny (model prog w) A (call (.builtin "list.__iter__") [.ref a] >>= fun v => pure (some v)) (fun r s' => wpAny (model prog w) A
      (match r with
        | some it => do
          match ← specialOf it "__next__" with
          | none => rule "iter.non-iterator"; raiseError "TypeError" s!"iter() returned non-iterator of type '{← typeNameOf it}'"
          | some _ => pure it
        | none => do
          match ← bindSpecialIfBound? (.ref a) "__getitem__" with
          | none => rule "iter.not-iterable"; raiseError "TypeError" s!"'{← typeNameOf (.ref a)}' object is not iterable"
          | some _ => rule "iter.getitem-fallback"; newFields "iterator" [.ref a, ← mkInt 0]) Q E s') E ⟨hp, g, dr, tk, os⟩ := by
    refine wpAny_bind (fin (wpAny_pure ?_))
    dsimp only
    have hTi : (⟨hp.push { cls := .type "list_iterator", data := .fields #[.ref a, .int 0 0] }, g, dr, tk, os⟩ : Shared).TypeIs (.ref hp.objs.size) "list_iterator" := ⟨_, Heap.get?_push_size _ rfl, rfl⟩
    exact wpAny_bind (wpAny_specialOf hTi slot_listiter_next.lookup (wpAny_pure h))
  split
  · rw [hB]
    exact wpAny_bind (wpAny_pure (wpAny_pure (by exact go)))
  · rw [hB]
    refine wpAny_tryCatch (wpAny_bind (wpAny_pure (wpAny_pure ?_)))
    exact go

theorem passing_all (n : Nat) : passing (fun _ => true) n 0 = List.range n := by simp [passing]

theorem builtins_for {globals running : Addr} {Q : Addr → Shared → Prop} (C : Cx w mean mg mb s.heap) (hg : globals = mainGlobals) (h : Q builtinsNs s) : wpAny (model prog w) A (builtinsFor globals running) Q E s := by
  obtain ⟨bm, ob, M⟩ := bmod_of_top C.T
  subst hg
  exact wpAny_builtinsFor M.ns M.name M.ne M.obj M.cls M.dict M.data h

/-- (elt for xa, xb in self): the generator over a sheet -/
theorem gen_sheet {elt iter : PySem.Expr} {xa xb : Str} {pa pb pt pos : Pos} {kt : Nat} {scope : Scope} {L c P a d : Addr} {h₀ : Heap} {m : Str → Option Value} {vs : List Value} {ps : List (Str × Str)} {n : Nat} {F : Nat → Value → Prop} {Q : Value → Shared → Prop}
    (C : Cx w mean mg mb h₀) (Fh : Fr h₀ L s.heap m) (T : TabOk s.heap P) (hcode : env.code = .ref c) (hcd : codeHdIn (hd.heap_1 w.params) c P = true) (hPL : P < L) (hP0 : h₀.get? P = none) (hglob : env.globals = mainGlobals)
    (G : AllBare s.gens) (hh : A.handled = none) (hroom : A.depth < recursionLimit) (ho : s.heap.get? a = some (accObj d vs.toArray n)) (S : Sheet s.heap vs ps)
    (hco : scope.isCoroutine = false) (hclos : closureFor scope env = pure []) (hcell : ∀ y ∈ scope.names, y.2 ≠ .cell) (h0 : scope.names.lookup (".0" : Str) = some NameKind.local)
    (hxa : scope.names.lookup xa = some .local) (hxb : scope.names.lookup xb = some .local) (hab : xa ≠ xb) (hkind : scope.kind = .function) (hs : ∀ x, genFold iter env x = pure x)
    (hself : ∀ Q' : Value → Shared → Prop, Q' (.ref a) s → wpAny (model prog w) A (eval iter env) Q' E s)
    (helt : ∀ (code : Value) (Cc : Addr) (A' : Around) (E' : Value → Shared → Prop) (i : Nat) (x y : Str) (t u : Tok) (s₂ : Shared) (m₂ : Str → Option Value), A'.handled = none → A'.depth ≤ A.depth + 1 → A'.units ≤ A.units + 8 → ps[i]? = some (x, y) →
      s₂.heap.Ns Cc m₂ → m₂ xa = some (.str x t) → m₂ xb = some (.str y u) → h₀.StaysIn s₂.heap →
      wpAny (model prog w) A' (eval elt (genEnv scope [] Cc code builtinsNs env)) (fun v s₃ => F i v ∧ Keeps s₂ s₃) E' s₂)
    (h : ∀ q s₅, Fr h₀ L s₅.heap m → AllBare s₅.gens → s₅.os = s.os → TabOk s₅.heap P → (∀ b o, b ≠ P → s.heap.get? b = some o → s₅.heap.get? b = some o) →
      Gen prog w A L q ps.length (fun j v => ∃ i, (List.range ps.length)[j]? = some i ∧ F i v) s₅ → Q (.ref q) s₅) :
    wpAny (model prog w) A (eval (.GeneratorExp elt [⟨.Tuple [.Name xa pa, .Name xb pb] kt pt, iter, [], 0⟩] scope pos) env) Q E s := by
  have X : (hd.heap_1 w.params).In s.heap := C.X.keeps Fh.keep
  have hLlt : L < s.heap.objs.size := Fh.ns.lt
  refine wpAny_GeneratorExp_walksQTD hh hco hclos hcell h0 hxa hxb hab hkind hroom (hself _ ?_) hs
  refine iter_acc X ho ⟨?_, ?_⟩
  · exact (C.T.nolimit.keeps Fh.keep).push _
  have k1 : s.heap.StaysIn (s.heap.push { cls := .type "list_iterator", data := .fields #[.ref a, .int 0 0] }) := fun b o e => Heap.get?_push_of_some _ e
  refine genexp_code (s := { s with heap := _ }) hcode (X.keeps k1) hcd (T.keeps fun o e => k1 _ _ e) fun code h₃ tk₃ hx₃ T₃ hsz₃ => ?_
  have k3 : ∀ b o, b ≠ P → s.heap.get? b = some o → h₃.get? b = some o := fun b o hb e => hx₃ b o hb (k1 _ _ e)
  have k03 : h₀.StaysIn h₃ := fun b o e => k3 b o (fun q => by rw [q, hP0] at e; cases e) (Fh.keep _ _ e)
  refine builtins_for (C.keeps k03) hglob ?_
  dsimp only at hsz₃
  rw [Heap.size_push] at hsz₃
  have hne : ∀ b o, s.heap.get? b = some o → b ≠ s.heap.objs.size := fun b o e => Nat.ne_of_lt (Heap.lt_size e)
  have hI : s.heap.objs.size ∉ refsIn vs := fun hm => by
    obtain ⟨o, e, _⟩ := S.lt _ hm
    exact hne _ _ e rfl
  have hPo : ∀ {b : Addr} {o : Obj}, s.heap.get? b = some o → o.cls ≠ .none → b ≠ P := fun {b o} e hc q => by
    obtain ⟨ps', hP, _⟩ := T
    rw [q, hP] at e; cases e; exact hc rfl
  have haP : a ≠ P := hPo ho (by simp)
  have S₃ : Sheet h₃ vs ps := S.on fun b hb o e => by
    obtain ⟨o', e', hc⟩ := S.lt b hb
    refine k3 b o (hPo e' (by rw [hc]; simp)) e
  have hit : h₃.IsListIter s.heap.objs.size a 0 := ⟨_, hx₃ _ _ (Nat.ne_of_gt (Nat.lt_trans hPL hLlt)) (Heap.get?_push_size _ rfl), rfl, rfl⟩
  refine ⟨s.heap.objs.size, s.heap.objs.size :: a :: refsIn vs, [s.heap.objs.size], ps.length, _, _, _, fun _ => true, F, rfl, (fun A' hA => walksU_sheet hA _ a (hne _ _ ho) hI), ?_, ⟨hit, ⟨_, _, k3 _ _ haP ho, rfl⟩, S₃⟩, ?_, ?_, ?_, ?_, ?_⟩
  · rintro i vals ⟨x, y, t, u, _, rfl⟩
    exact ⟨_, _, rfl⟩
  · intro b hb
    have hs3 : s.heap.objs.size < h₃.objs.size := Nat.lt_of_succ_le hsz₃
    rcases List.mem_cons.mp hb with rfl | hb
    · exact hs3
    · rcases List.mem_cons.mp hb with rfl | hb
      · exact Nat.lt_trans (Heap.lt_size ho) hs3
      · obtain ⟨o, e, _⟩ := S.lt b hb
        exact Nat.lt_trans (Heap.lt_size e) hs3
  · exact (C.keeps k03).T.nolimit
  · intro hm
    have := List.mem_singleton.mp hm
    obtain ⟨_, hn, _⟩ := C.T.nolimit
    have h1 := hn.lt
    rw [this] at h1
    exact Nat.lt_irrefl _ (Nat.lt_trans hLlt (Nat.lt_of_lt_of_le h1 Fh.above))
  · intro href hhref
    have k4 : ∀ s₂ : Shared, (∀ b ∈ List.range h₃.objs.size, b ∉ [s.heap.objs.size] → ∀ o, href.get? b = some o → s₂.heap.get? b = some o) → h₀.StaysIn s₂.heap := fun s₂ hkp b o e => by
      have hb := Heap.lt_size e
      exact hkp b (List.mem_range.mpr (Heap.lt_size (k03 _ _ e))) (fun hm => by rw [List.mem_singleton.mp hm] at hb; exact Nat.lt_irrefl _ (Nat.lt_trans hLlt (Nat.lt_of_lt_of_le hb Fh.above))) o (hhref _ _ (k03 _ _ e))
    constructor
    · intro A' E' i va vb s₂ m₂ _ _ _ _ _ _ _ _
      rw [List.forIn_nil]
      exact wpAny_pure ⟨rfl, s₂.heap, s₂.toks, rfl, fun _ _ e => e⟩
    · intro A' E' i va vb s₂ m₂ hA hD hU hP _ hn hma hmb hkp
      obtain ⟨x, y, t, u, hi, hv⟩ := hP
      cases hv
      exact helt code _ A' E' i x y t u s₂ m₂ hA hD hU hi hn hma hmb (k4 s₂ hkp)
  · intro q h₅ tk gs hgb hag hsz₅ hk₅ W hat
    rw [passing_all, List.length_range] at W
    have k5 : ∀ b o, b ≠ P → s.heap.get? b = some o → h₅.get? b = some o := fun b o hb e => hk₅ _ _ (k3 b o hb e)
    have F₅ : Fr h₀ L h₅ m := by
      have hLP : L ≠ P := Nat.ne_of_gt hPL
      obtain ⟨oL, es, ep, hL', r⟩ := Fh.ns
      exact ⟨⟨oL, es, ep, k5 _ _ hLP hL', r⟩, fun b o e => hk₅ _ _ (k03 _ _ e), Fh.above⟩
    refine h q _ F₅ (G.push hgb) rfl (T₃.keeps fun o e => hk₅ _ _ e) k5 ⟨_, _, _, _, W, ?_, (fun i s' st => st.1.typeIs), List.mem_cons_self, ?_, ?_⟩
    · exact hat
    · intro b hb
      show b < h₅.objs.size
      rw [hsz₅]
      rcases List.mem_cons.mp hb with rfl | hb
      · exact Nat.lt_succ_self _
      · rcases List.mem_cons.mp hb with rfl | hb
        · exact Nat.lt_succ_of_lt hag
        · exact Nat.lt_succ_of_lt (Nat.lt_trans (List.mem_range.mp hb) hag)
    · intro b hb
      have hs3 : s.heap.objs.size < h₃.objs.size := Nat.lt_of_succ_le hsz₃
      rcases List.mem_cons.mp hb with rfl | hb
      · exact Nat.lt_trans hLlt hs3
      · rw [List.mem_singleton.mp hb]; exact hLlt
end
end Mine
end

section
open PySem PySem.W PyProof.Rows PySem.Calls
set_option maxRecDepth 100000
set_option maxHeartbeats 8000000
namespace Mine
theorem fillAccSum (P : Params) : PySem.Challenge.rw_yh0005_01 = PySem.Challenge.rw_yh0005_01 → hd.heap_1 P = hd.heap_1 P := by
  k_fill
  intro _
  rfl
section
variable {prog : Program} {w : World} {A : Around} {E : Value → Shared → Prop} {s : Shared} {h₀ : Heap} {L Kb q : Addr} {m : Str → Option Value} {n : Nat} {Fv : Nat → Value → Prop} {Q : Value → Shared → Prop}

theorem args_sum2 (a b : Value) : argsOk "sum" ⟨[a, b], []⟩ := by unfold argsOk; kernel_rfl

/-- sum(gen, 0) -/
theorem sum2 {u : Tok} (Fh : Fr h₀ L s.heap m) (G : AllBare s.gens) (X : Gen prog w A Kb q n Fv s) (hLK : L ≤ Kb) (val : Nat → Int) (hval : ∀ j v, Fv j v → ∃ t, v = .int (val j) t)
    (hQ : ∀ s' t', Fr h₀ L s'.heap m → AllBare s'.gens → s'.os = s.os → (∀ b o, b ≤ Kb → s.heap.get? b = some o → s'.heap.get? b = some o) → Q (.int (preSum val n) t') s') :
    wpAny (model prog w) A (call (.builtin "sum") [.ref q, .int 0 u]) Q E s := by
  obtain ⟨fp, wr, g, St, W, hst, hty, hmem, hfp, hwr⟩ := X
  have W := W.in4_1
  refine call_function_tree F.kind_sum F.plain_sum F.entry_sum (args_sum2 _ _) ?_
  unfold Builtin.«sum»
  simp only [List.length_cons, List.length_nil]
  rw [if_neg (by decide)]
  refine wpAny_bind (wpAny_of_eq (show Builtin.Builtins.bindParams "sum" ["start"] 0 ⟨[.int 0 u], []⟩ = pure [some (.int 0 u)] from rfl) ?_)
  refine wpAny_bind (W.self 0 _ _ _ hst ?_)
  dsimp only
  have hTi : ∀ i t (s : Shared), s.TypeIs (.int i t) "int" := fun _ _ _ => typeIs_int _ _ _
  have i1 := PySem.sub_int_str
  have i2 := sub_int_bytes
  have i3 := sub_int_bytearray
  refine wpAny_bind ?_
  repeat (first | wp_step | dsimp only)
  have hSf : s.heap.objs.size ∉ fp := fun hm => Nat.lt_irrefl _ (hfp _ hm)
  refine ⟨plainId_quiet F.plain_sum_loop _, codeAny_sum_loopAnyS W val hval s.heap.objs.size hSf n 0 _ s.toks 0 0 (.inl rfl) rfl (Nat.zero_le _)
    (W.frame 0 s _ _ hst (Nat.le_succ _) fun b _ o e => Heap.get?_push_of_some _ e) (Heap.get?_push_size _ rfl) fun s' t' hm => ?_⟩
  have hm' := hm.drop_new (Nat.le_succ _)
  exact hQ s' t' (Fh.moved hm' fun b hb => Nat.lt_of_le_of_lt hLK (hwr b hb)) (G.movedS hm') hm'.os fun b o hb e => hm'.heap b o (fun hmem => Nat.lt_irrefl _ (Nat.lt_of_lt_of_le (hwr b hmem) hb)) e
end
end Mine
end

section
open PySem PySem.W PyProof.Rows PySem.Calls
set_option maxRecDepth 100000
set_option maxHeartbeats 8000000
namespace Mine
theorem fillLen (P : Params) : PySem.Challenge.rw_yh0005_01 = PySem.Challenge.rw_yh0005_01 → hd.heap_1 P = hd.heap_1 P := by
  k_fill
  intro _
  rfl

noncomputable def lenOf (ps : List (Str × Str)) (j : Nat) : Int := match ps[j]? with | some p => p.1.length + p.2.length | none => 0

/-- the texts of a sheet are short -/
noncomputable def Short (ps : List (Str × Str)) : Prop := ps.length ≤ 1000 ∧ ∀ p ∈ ps, p.1.length ≤ 100 ∧ p.2.length ≤ 100

section
variable {prog : Program} {w : World} {A : Around} {E : Value → Shared → Prop} {s : Shared} {mean : ExcName → Option Value} {mg mb : Str → Option Value} {env : Env}
theorem len_name {x y : Str} {t : Tok} {m : Str → Option Value} {np xp pos : Pos} {Q : Value → Shared → Prop} (C : Cx w mean mg mb s.heap) (hn : s.heap.Ns env.locals m) (hv : m x = some (.str y t)) (hy : y.length ≤ 100)
    (hq : Q (.int y.length (s.toks + 1)) { s with toks := s.toks + 1 + 1 }) (hl : nsIn (hd.heap_1 w.params) mainGlobals (Str.ofString "len") = some none)
    (hg : env.globals = mainGlobals) (hbi : env.builtins = builtinsNs) (hk : env.scope.kind = .function) (hx : env.kindOf x = some .local) (hxl : env.kindOf (Str.ofString "len") = some .globalImplicit) (hd : (x == ("__debug__" : Str)) = false) :
    wpAny (model prog w) A (eval (.Call (.Name (Str.ofString "len") np) [.Name x xp] [] pos) env) Q E s := by
  refine Call_ (name_boot C hl (v := .builtin "len") (by first | rfl | kernel_rfl | boot_by_name) ?_ (by decide) hg hbi hk hxl (by decide)) rfl
  refine callWith_builtin1 (spliced_more (name_local hn hv ?_ hk hx hd) rfl) rfl rfl
  exact spliced_none (P.len_str (by omega) hq)
end

theorem gen_toks {prog : Program} {w : World} {A : Around} {K a : Addr} {n : Nat} {F : Nat → Value → Prop} {s : Shared} (X : Gen prog w A K a n F s) {k : Tok} (hk : s.toks ≤ k) : Gen prog w A K a n F { s with toks := k } := by
  obtain ⟨fp, wr, g, St, W, h1, h2, h3, h4, h5⟩ := X
  exact ⟨fp, wr, g, St, W, W.frame 0 s _ _ h1 hk (fun _ _ _ e => e), h2, h3, h4, h5⟩
theorem len_spec (w : World) {A : Around} {s : Shared} {R : Result → Shared → Prop} {mean : ExcName → Option Value} {mg mb : Str → Option Value} {a : Addr} {vs : List Value} {ps : List (Str × Str)}
    (C : Cx w mean mg mb (s.heap.hide 62)) (hroom : A.depth ≤ 400) (hh : A.handled = none) (H : AccAt w s.heap a vs.toArray) (S : Sheet s.heap vs ps) (hS : Short ps) (T62 : TabOk s.heap 62) (G : AllBare s.gens)
    (h : ∀ s' t, (s.heap.hide 62).StaysIn s'.heap → TabOk s'.heap 62 → AllBare s'.gens → s'.os = s.os → R (.ok (.ret (.int (preSum (lenOf ps) ps.length) t))) s') :
    codeAny (model PySem.Challenge.rw_yh0005_01.row.prog w) A (.call (.ref 67) ⟨[.ref a], []⟩) R s := by
  have X' := C.X
  obtain ⟨d, n, t1, t2, ho, hdo⟩ := id H
  refine' enter (binds := [(Str.ofString "self", .ref a)]) C (fun b o e => Heap.of_hide e) (Nat.le_of_eq (Heap.hide_size _ _)) ?k1 ?k2 (Nat.lt_of_le_of_lt hroom (by decide)) ?k3 ?k4 ?k5 ?k6 ?k7 ?k8 ?_
  (case k1 => k_is)
  (case k2 => k_is)
  (case k3 => exact BindsTo.of_eq rfl)
  (case k4 => exact locs rfl)
  (case k5 => decide)
  (case k6 => exact rfl)
  (case k7 => exact rfl)
  (case k8 => exact rfl)
  intro L h₁ hL F' hk₁
  have N' : News (s.heap.hide 62) L h₁ [] := News.nil
  have T' := C.T
  (try dsimp only)
  iterate 6 walk1
  have ho₁ := hk₁ _ _ ho
  have hPL : (62 : Addr) < L := by
    obtain ⟨_, e, _⟩ := id T62
    rw [hL]; exact Heap.lt_size e
  refine gen_sheet (P := 62) (d := d) (n := n) (F := fun i v => ∃ t, v = .int (lenOf ps i) t) C F' (T62.keeps fun o e => hk₁ _ _ e) (by rfl) (by first | rfl | kernel_rfl | k_is) hPL (Heap.hide_self _ _) (by rfl) G (by exact hh) (Nat.lt_of_le_of_lt (Nat.succ_le_succ hroom) (by decide)) ho₁ (S.keeps hk₁)
    (by rfl) (by rfl) (by decide) (by rfl) (by rfl) (by rfl) (by decide) (by rfl) (by intro x; rfl) ?_ ?_ ?_
  · intro Q' hq
    exact name_local F'.ns (by rfl) hq (by rfl) (by rfl) (by decide)
  · intro code Cc A' E' i x y t u s₂ m₂ hA hD hU hi hn hma hmb hk₂
    have C₂ := C.keeps hk₂
    have hp := hS.2 _ (List.mem_of_getElem? hi)
    refine wpAny_BinOp (len_name C₂ hn hma hp.1 ?_ (by k_is) (by rfl) (by rfl) (by rfl) (by rfl) (by rfl) (by decide))
    refine len_name (s := { s₂ with toks := _ }) C₂ hn hmb hp.2 ?_ (by k_is) (by rfl) (by rfl) (by rfl) (by rfl) (by rfl) (by decide)
    refine wpAny_add_int ⟨⟨s₂.toks + 1 + 1 + 1 + 1, ?_⟩, s₂.heap, _, rfl, fun _ _ e => e⟩
    simp only [lenOf, hi]
  · intro q s₅ F₅ G₅ os₅ T₅ k₅ W
    have no62 : ∀ (b : Addr) (o : Obj), h₁.get? b = some o → o.cls ≠ .none → b ≠ 62 := fun b o e hc q => by
      obtain ⟨ps', hP, _⟩ := T62
      rw [q, hk₁ _ _ hP] at e; cases e; exact hc rfl
    have ho₅ : s₅.heap.get? a = some (accObj d vs.toArray n) := k₅ _ _ (no62 _ _ ho₁ (by simp)) ho₁
    have hdo₅ : s₅.heap.get? d = some (iniObj w.params t1 t2) := k₅ _ _ (no62 _ _ (hk₁ _ _ hdo) (by simp)) (hk₁ _ _ hdo)
    have I : InstAt s₅.heap a (accObj d vs.toArray n) 100 (some (iniObj w.params t1 t2)) := ⟨ho₅, rfl, rfl, hdo₅⟩
    refine spliced_more (Attribute_any_ (name_local F₅.ns (by rfl) ?_ (by rfl) (by rfl) (by decide))) rfl
    refine attr_ini (C.X.keeps F₅.keep) I (by kernel_rfl) (spliced_none ?_)
    refine sum2 (s := { s₅ with toks := _ }) (Kb := L) F₅ G₅ (gen_toks W (Nat.le_succ _)) (Nat.le_refl _) (lenOf ps) (fun j v hv => ?_) (fun s' t' F'' G'' os'' k'' => ?_)
    · obtain ⟨i, h1, t, h2⟩ := hv
      obtain ⟨hj, rfl⟩ := List.getElem?_eq_some_iff.mp h1
      rw [List.getElem_range] at h2
      exact ⟨t, h2⟩
    · have hn62 : (62 : Addr) ≤ L := Nat.le_of_lt hPL
      refine h s' t' F''.keep ?_ G'' (os''.trans os₅)
      exact T₅.keeps fun o e => k'' _ _ hn62 e
end Mine
end

section
open PySem PySem.W PyProof.Rows PySem.Calls
set_option maxRecDepth 100000
set_option maxHeartbeats 8000000
namespace Mine
theorem fillStr (P : Params) : PySem.Challenge.rw_yh0005_01 = PySem.Challenge.rw_yh0005_01 → hd.heap_1 P = hd.heap_1 P := by
  k_fill
  intro _
  rfl


section
variable {prog : Program} {w : World} {A : Around} {E : Value → Shared → Prop} {s : Shared} {mean : ExcName → Option Value} {mg mb : Str → Option Value} {env : Env}

theorem name_top {x : Str} {v : Value} {pos : Pos} {Q : Value → Shared → Prop} (C : Cx w mean mg mb s.heap) (hn : nsIn (hd.heap_1 w.params) mainGlobals x = some (some v)) (h : Q v s)
    (hg : env.globals = mainGlobals) (hk : env.scope.kind = .function) (hx : env.kindOf x = some .globalImplicit) (hd : (x == ("__debug__" : Str)) = false) :
    wpAny (model prog w) A (eval (.Name x pos) env) Q E s :=
  Name_function_global hk hx (loadGlobal_global (hg ▸ C.T.g) (mg_of C.X C.T.g hn) h) hd

theorem short_join {x y : Str} (hx : x.length ≤ 100) (hy : y.length ≤ 100) : ([x, y].map (·.length)).sum + [x, y].length * (Str.ofString "").length ≤ 16777216 := by
  simp
  have : (Str.ofString "").length = 0 := by decide
  omega

theorem str_app_nil (x : Str) : x ++ Str.ofString "" = x := by
  obtain ⟨c⟩ := x
  show (⟨c ++ #[]⟩ : Str) = ⟨c⟩
  simp
theorem len_app (x y : Str) : (x ++ y).length = x.length + y.length := by
  show (x.cps ++ y.cps).size = _
  simp [Str.length]

theorem txt_join2 (x y : Str) : Txt.join (Str.ofString "") [x, y] = x ++ y := by
  rw [eq_of_beq (join_plain_closes _ _)]
  show x ++ Str.ofString "" ++ y = x ++ y
  rw [str_app_nil]

noncomputable def txOf (ps : List (Str × Str)) (j : Nat) : Str := match ps[j]? with | some p => p.1 ++ p.2 | none => Str.ofString ""

theorem tx_map (ps : List (Str × Str)) : (List.range ps.length).map (txOf ps) = ps.map fun p => p.1 ++ p.2 := by
  apply List.ext_getElem?
  intro j
  by_cases hj : j < ps.length
  · simp [hj, txOf]
  · simp [hj, Nat.le_of_not_lt hj]

theorem sum_le {l : List Nat} {k : Nat} (h : ∀ x ∈ l, x ≤ k) : l.sum ≤ l.length * k := by
  induction l with
  | nil => simp
  | cons a r ih =>
    have h1 := h a List.mem_cons_self
    have h2 := ih fun x hx => h x (List.mem_cons_of_mem _ hx)
    simp only [List.sum_cons, List.length_cons, Nat.add_mul]
    omega

theorem tx_ok {ps : List (Str × Str)} (hS : Short ps) : JoinOk (Str.ofString "") ((List.range ps.length).map (txOf ps)) = true := by
  rw [tx_map]
  refine joinOk_of ?_
  have e : (Str.ofString "").length = 0 := by decide
  have h1 : ((ps.map fun p => p.1 ++ p.2).map (·.length)).sum ≤ ((ps.map fun p => p.1 ++ p.2).map (·.length)).length * 200 := by
    apply sum_le
    intro x hx
    simp only [List.map_map, List.mem_map, Function.comp] at hx
    obtain ⟨p, hp, rfl⟩ := hx
    have := hS.2 p hp
    have e : (p.1 ++ p.2).length = p.1.length + p.2.length := len_app _ _
    omega
  have h2 := hS.1
  simp only [List.length_map] at h1 ⊢
  rw [e]
  omega
end

theorem str_spec (w : World) {A : Around} {s : Shared} {R : Result → Shared → Prop} {mean : ExcName → Option Value} {mg mb : Str → Option Value} {a : Addr} {vs : List Value} {ps : List (Str × Str)}
    (C : Cx w mean mg mb (s.heap.hide 69)) (hroom : A.depth ≤ 400) (hh : A.handled = none) (H : AccAt w s.heap a vs.toArray) (S : Sheet s.heap vs ps) (hS : Short ps) (T69 : TabOk s.heap 69) (G : AllBare s.gens)
    (h : ∀ s' t, (s.heap.hide 69).StaysIn s'.heap → TabOk s'.heap 69 → AllBare s'.gens → s'.os = s.os → R (.ok (.ret (.str (Txt.join (Str.ofString "") (ps.map fun p => p.1 ++ p.2)) t))) s') :
    codeAny (model PySem.Challenge.rw_yh0005_01.row.prog w) A (.call (.ref 74) ⟨[.ref a], []⟩) R s := by
  have X' := C.X
  obtain ⟨d, n, t1, t2, ho, hdo⟩ := id H
  refine' enter (binds := [(Str.ofString "self", .ref a)]) C (fun b o e => Heap.of_hide e) (Nat.le_of_eq (Heap.hide_size _ _)) ?k1 ?k2 (Nat.lt_of_le_of_lt hroom (by decide)) ?k3 ?k4 ?k5 ?k6 ?k7 ?k8 ?_
  (case k1 => k_is)
  (case k2 => k_is)
  (case k3 => exact BindsTo.of_eq rfl)
  (case k4 => exact locs rfl)
  (case k5 => decide)
  (case k6 => exact rfl)
  (case k7 => exact rfl)
  (case k8 => exact rfl)
  intro L h₁ hL F' hk₁
  have N' : News (s.heap.hide 69) L h₁ [] := News.nil
  have T' := C.T
  (try dsimp only)
  iterate 7 walk1
  have ho₁ := hk₁ _ _ ho
  have hPL : (69 : Addr) < L := by
    obtain ⟨_, e, _⟩ := id T69
    rw [hL]; exact Heap.lt_size e
  refine gen_sheet (P := 69) (d := d) (n := n) (F := fun i v => ∃ p t, ps[i]? = some p ∧ v = .str (p.1 ++ p.2) t) C F' (T69.keeps fun o e => hk₁ _ _ e) (by rfl) (by kernel_rfl) hPL (Heap.hide_self _ _) (by rfl) G (by exact hh) (Nat.lt_of_le_of_lt (Nat.succ_le_succ hroom) (by decide)) ho₁ (S.keeps hk₁)
    (by rfl) (by rfl) (by decide) (by rfl) (by rfl) (by rfl) (by decide) (by rfl) (by intro x; rfl) ?_ ?_ ?_
  · intro Q' hq
    exact name_local F'.ns (by rfl) hq (by rfl) (by rfl) (by decide)
  · intro code Cc A' E' i x y t u s₂ m₂ hA hD hU hi hn hma hmb hk₂
    have C₂ := C.keeps hk₂
    have hp := hS.2 _ (List.mem_of_getElem? hi)
    refine Call_method1 rfl rfl rfl (name_top C₂ (v := .str (Str.ofString "") 196) (by kernel_rfl) ?_ (by rfl) (by rfl) (by rfl) (by decide))
    refine ⟨"str", "str.join", F.plainAttrs_str, F.slot_str_join, (by rfl), typeIs_str _ _ _, (fun _ e => nomatch e), ?_⟩
    refine callWith_builtin rfl (evalArgs_plain (Calls.spliced_cons (Tuple_ (spliced_more (name_local hn hma ?_ (by rfl) (by rfl) (by decide)) rfl))))
    refine spliced_more (name_local hn hmb (spliced_none ?_) (by rfl) (by rfl) (by decide)) rfl
    refine wpAny_newTuple (Calls.spliced_nil ?_) (by show (2 : Nat) ≤ sizeLine; decide)
    refine join_tuple (items := #[.str x t, .str y u]) (ys := [x, y]) ⟨_, Heap.get?_push_size _ rfl, rfl, _, rfl⟩ ?_ (short_join hp.1 hp.2) ?_
    · exact .cons _ _ (.cons _ _ .nil)
    · intro t' k
      rw [txt_join2]
      exact ⟨⟨_, _, hi, rfl⟩, _, _, rfl, fun b o e => Heap.get?_push_of_some _ e⟩
  · intro q s₅ F₅ G₅ os₅ T₅ k₅ W
    refine spliced_none ?_
    refine join_rowsK F₅ G₅ W (Nat.le_refl _) (txOf ps) (fun j v hv => ?_) (tx_ok hS) (fun s' t' F'' G'' os'' k'' => ?_) (Nat.le_trans hS.1 (by decide))
    · obtain ⟨i, h1, p, t, h2, h3⟩ := hv
      obtain ⟨hj, rfl⟩ := List.getElem?_eq_some_iff.mp h1
      rw [List.getElem_range] at h2
      exact ⟨t, by rw [h3, txOf, h2]⟩
    · rw [tx_map]
      refine h s' t' F''.keep ?_ G'' (os''.trans os₅)
      exact T₅.keeps fun o e => k'' _ _ (Nat.le_of_lt hPL) e
end Mine
end

section
open PySem PySem.W PyProof.Rows PySem.Calls
set_option maxRecDepth 100000
set_option maxHeartbeats 8000000
namespace Mine
theorem fillRight4 (P : Params) : PySem.Challenge.rw_yh0005_01 = PySem.Challenge.rw_yh0005_01 → hd.heap_1 P = hd.heap_1 P := by
  k_fill
  intro _
  rfl

theorem sheet_snoc2 {h : Heap} {vs : List Value} {ps : List (Str × Str)} {T : Addr} {x y : Str} {t u : Tok} (S : Sheet h vs ps) (e : h.get? T = some { cls := .type "tuple", data := .seq #[.str x t, .str y u] }) : Sheet h (vs ++ [.ref T]) (ps ++ [(x, y)]) := by
  refine ⟨by simp [S.1], fun j x' y' e' => ?_⟩
  by_cases hj : j < ps.length
  · rw [List.getElem?_append_left hj] at e'
    obtain ⟨T', t', u', h1, h2⟩ := S.2 j x' y' e'
    exact ⟨T', t', u', by rw [List.getElem?_append_left (by rw [S.1]; exact hj)]; exact h1, h2⟩
  · rw [List.getElem?_append_right (Nat.le_of_not_lt hj)] at e'
    have hj' : j - ps.length = 0 := by
      rcases Nat.eq_zero_or_pos (j - ps.length) with h0 | h0
      · exact h0
      · rw [List.getElem?_eq_none (by simp; omega)] at e'; cases e'
    rw [hj'] at e'
    cases e'
    refine ⟨T, t, u, ?_, _, e, rfl, _, rfl⟩
    rw [List.getElem?_append_right (by rw [S.1]; omega), S.1, hj']
    rfl
/-- the parts in some order -/
noncomputable def partsIn (ps : List (Option Int)) (wd : Int) (ord : List Nat) : List (Str × Str) := ord.map fun k => (colOf (ps.getD k none) wd, letOf k)

section
variable {w : World} {A : Around} {s : Shared} {base : Heap} {outer : List Env} {mean : ExcName → Option Value} {mg mb : Str → Option Value} {g : Heap}
  {name qual : Str} {params : Arguments} {body : List Stmt} {scope : Scope} {dV kV doc pm cdv ct oc : Value} {an od : Option Addr} {osl : Array (Option Value)}
  {L Pp Do : Addr} {hf : Heap} {tkf : Nat} {Q : Flow → Shared → Prop} {m : Str → Option Value} {ps : List (Option Int)} {items ys : List Value} {ord : List Nat} {wd : Int} {tw : Tok}

theorem name_blt {prog : Program} {env : Env} {x : Str} {v : Value} {pos : Pos} {E : Value → Shared → Prop} {Q : Value → Shared → Prop} (C : Cx w mean mg mb s.heap) (hn : nsIn (hd.heap_1 w.params) mainGlobals x = some none) (hv : bootBuiltins x = some v) (hne : x ≠ "__name__") (h : Q v s)
    (hg : env.globals = mainGlobals) (hb : env.builtins = builtinsNs) (hk : env.scope.kind = .function) (hx : env.kindOf x = some .globalImplicit) (hd : (x == ("__debug__" : Str)) = false) :
    wpAny (model prog w) A (eval (.Name x pos) env) Q E s :=
  Name_function_global hk hx (loadGlobal_builtin (hg ▸ C.T.g) (mg_none_of C.X C.T.g hn) (hb ▸ C.T.b) ((C.T.builtins x hne).trans hv) h) hd

theorem right_4 (ho : (hd.heap_1 w.params).lookup 191 = some ⟨oc, od, .func (fnOf name qual params body scope dV kV doc pm an cdv ct), osl⟩)
    (C : Cx w mean mg mb g) (hh : A.handled = none) (hroom : A.depth ≤ 310) (F : Fr g L hf m) (hmo : m (Str.ofString "order") = some (.ref Do)) (hDo : PlainL hf Do ys.toArray) (hY : NumsAt ys ord) (hDoL : Do ≠ L)
    (hC : Cells2 hf L (some (.ref Pp)) (some (.int wd tw))) (hw : 0 ≤ wd ∧ wd ≤ 5) (hP : Ports hf Pp ps) (hord : ∀ k ∈ ord, k < ps.length) (h20 : ord.length ≤ 20) (hp20 : ps.length ≤ 20)
    (done : ∀ h' tk Dp vs, Fr g L h' (fun z => if z = Str.ofString "parts" then some (.ref Dp) else m z) → PlainL h' Dp vs.toArray → Sheet h' vs (partsIn ps wd ord) →
      (∀ b o, b ≠ L → hf.get? b = some o → h'.get? b = some o) → g.get? Dp = none → Dp ≠ L → Q .next { s with heap := h', toks := tk }) :
    wpAny (model PySem.Challenge.rw_yh0005_01.row.prog w) (A.deeper (envOfC qual scope L 191 cdv)) (execs ((body.drop 6).take 1) (envOfC qual scope L 191 cdv)) Q (fun _ _ => False) { s with heap := hf, toks := tkf } := by
  refine (fun (e2 : (hd.heap_1 w.params).lookup 191 = some ⟨_, _, .func (fnOf _ _ _ _ _ _ _ _ _ _ _ _), _⟩) => ?_) (by k_is)
  rw [ho] at e2
  injection e2 with e2
  injection e2 with e3 e4 e5 e6
  injection e5 with e5
  injection e5 with n1 n2 n3 n4 n5
  injection n4 with n4
  subst_vars
  clear ho
  refine wpAny_execs_cons ?_
  refine assign_comp_gen (cl := [(Str.ofString "wide", L + 2), (Str.ofString "ports", L + 1)]) (by rfl) (by rfl) (by decide) (by rfl) (by decide) (fun _ => rule_name) (by rfl) (by rfl) ?_
  refine name_local' F.ns hmo ?_ (by rfl) (by rfl) (by decide)
  refine wpAny_pyIter_list hDo.isList ?_
  have k4 : hf.StaysIn (hf.push { cls := .type "list_iterator", data := .fields #[.ref Do, .int 0 0] }) := fun b o e => Heap.get?_push_of_some _ e
  have hDlt : Do < hf.objs.size := hDo.lt
  have hne : Do ≠ hf.objs.size := Nat.ne_of_lt hDlt
  have hL3 : L < hf.objs.size := F.ns.lt
  refine ⟨_, _, _, _, _, fun zs h => Sheet h zs (partsIn ps wd (ord.take zs.length)), _, _, rfl, Walks.list (by exact hh) hf.objs.size Do hne _, by rw [List.size_toArray, hY.1]; omega, ⟨⟨_, Heap.get?_push_size _ rfl, rfl, rfl⟩, hDo.isList.at fun o e => k4 _ _ e⟩, ?_, ?_, ?_, ?_, ?_,
    tgt_name (by rfl) (by rfl), ?_, Nat.ne_of_lt hL3, (F.ns.keeps k4), ?_⟩
  · intro b hb
    show b < (hf.push _).objs.size
    rw [Heap.size_push]
    rcases List.mem_cons.mp hb with rfl | hb
    · exact Nat.lt_succ_self _
    · rw [List.mem_singleton.mp hb]; exact Nat.lt_succ_of_lt hDlt
  · rintro i h ⟨⟨o, e, _, hd⟩, _⟩
    exact ⟨o, _, e, hd⟩
  · rintro v s₁ Q' E' i _ hq
    exact wpAny_of_eq (a := ()) rfl hq
  · refine ⟨fun zs h h' X hs hX hk => ⟨hs.1, fun j x y e => ?_⟩, fun zs h h' hs hk => hs.keeps hk⟩
    obtain ⟨T, t, u, e1, e2⟩ := hs.2 j x y e
    exact ⟨T, t, u, e1, tuple_own e2 hX hk⟩
  · intro h' _
    exact ⟨rfl, fun j x y e => by simp [partsIn] at e⟩
  · intro Cc s₃ m₃ E' zs v hC0 hn hB hPv hlt hK hk hgn hos hdr
    have hi : zs.length < ord.length := by
      have : zs.length < ys.toArray.size := hlt
      rw [List.size_toArray, hY.1] at this; exact this
    obtain ⟨tk0, hv0⟩ := hY.2 zs.length ord[zs.length] (List.getElem?_eq_getElem hi)
    have hv : v = .int (ord[zs.length] : Int) tk0 := by
      have e : ys.toArray[zs.length]? = some v := hPv
      rw [List.getElem?_toArray, hv0] at e
      injection e with e; exact e.symm
    subst hv
    have hkp : ord[zs.length] < ps.length := hord _ (List.getElem_mem hi)
    obtain ⟨itemsP, hPl, hPi⟩ := hP.ex
    have hpl' : itemsP.length = ps.length := hPi.length.symm
    have hport := port_at hPi hkp (by omega : ord[zs.length] < itemsP.length)
    have ks3 : ∀ b o, hf.get? b = some o → s₃.heap.get? b = some o := fun b o e => hk b o (Nat.ne_of_lt (Heap.lt_size e)) (k4 _ _ e)
    have C3 : Cx w mean mg mb s₃.heap := C.keeps fun b o e => ks3 _ _ (F.keep _ _ e)
    k_steps
    refine name_top C3 (v := .ref 176) (by kernel_rfl) ?_ (by exact rfl) (by exact rfl) (by kernel_rfl) (by decide)
    refine callWith_K C3.X (by k_is) ?_ (by exact rfl) (by exact rfl)
    have hCs := hC
    have hp1 : s₃.heap.IsCell (L + 1) (some (.ref Pp)) := cell_keep hC.1 fun o e => ks3 _ _ e
    have hp2 : s₃.heap.IsCell (L + 2) (some (.int wd tw)) := cell_keep hC.2 fun o e => ks3 _ _ e
    refine args_cons ?_ (by exact rfl)
    refine wpAny_Subscript_Name_late ?_ (by intro _ _; exact rfl)
    refine wpAny_Name (wpAny_loadName_cell (c := L + 1) (by exact rfl) (by kernel_rfl) (by exact rfl) hp1 ?_) (by decide)
    refine wpAny_Name (wpAny_loadName_local (by exact rfl) (by kernel_rfl) hn hB ?_) (by decide)
    have hPl3 : PlainL s₃.heap Pp itemsP.toArray := plain_at hPl fun o e => ks3 _ _ e
    refine ⟨"list", "list.__getitem__", slot_list_getitem.lookup, hPl3.isList.typeIs, wpAny_getItem_list hPl3.isList (by omega) (by omega) (x := itemsP[ord[zs.length]]) (by rw [List.getElem?_toArray, Int.toNat_natCast, List.getElem?_eq_getElem]) ?_⟩
    refine args_cons ?_ (by exact rfl)
    refine wpAny_Name (wpAny_loadName_cell (c := L + 2) (by exact rfl) (by kernel_rfl) (by exact rfl) hp2 ?_) (by decide)
    refine args_nil ⟨C3.X, ?_⟩
    refine wpAny_call (col_port w C3 (Nat.le_trans (Nat.succ_le_succ hroom) (by decide)) hw.1 (Int.le_trans hw.2 (by decide)) hport (fun p e => hP.bound p (e ▸ List.getElem_mem hkp)) fun h5 tk5 t5 hk5 => ?_)
    dsimp only
    have C5 : Cx w mean mg mb h5 := C3.keeps hk5
    have hn5 : h5.Ns Cc m₃ := hn.keeps hk5
    k_steps
    refine name_blt C5 (v := .builtin "chr") (by k_is) (by kernel_rfl) (by decide) ?_ (by exact rfl) (by exact rfl) (by exact rfl) (by kernel_rfl) (by decide)
    refine callWith_builtin (by exact rfl) (evalArgs_plain ?_)
    refine spliced_cons ?_
    refine wpAny_BinOp (wpAny_Constant_int ?_)
    refine wpAny_Name (wpAny_loadName_local (by exact rfl) (by kernel_rfl) hn5 hB ?_) (by decide)
    k_steps
    refine wpAny_newTuple ?_ (by size_fits)
    have kT : h5.StaysIn (h5.push { cls := .type "tuple", data := .seq [Value.str (colOf ps[ord[zs.length]] wd) t5, Value.str (⟨#[(97 + (ord[zs.length] : Int)).toNat]⟩ : Str) (tk5 + 1 + 1)].toArray }) := fun b o e => Heap.get?_push_of_some _ e
    refine ⟨_, _, rfl, fun b o e => kT _ _ (hk5 _ _ e), ?_⟩
    have eL : (⟨#[(97 + (ord[zs.length] : Int)).toNat]⟩ : Str) = letOf ord[zs.length] := by
      unfold letOf
      congr 2
    have et : partsIn ps wd (ord.take (zs ++ [Value.ref h5.objs.size]).length) = partsIn ps wd (ord.take zs.length) ++ [(colOf ps[ord[zs.length]] wd, letOf ord[zs.length])] := by
      rw [List.length_append, List.length_singleton, List.take_succ_eq_append_getElem hi]
      unfold partsIn
      rw [List.map_append]
      congr 1
      simp only [List.map_cons, List.map_nil, List.getD_eq_getElem?_getD, List.getElem?_eq_getElem hkp, Option.getD_some]
    rw [et]
    refine sheet_snoc2 ((hK.keeps hk5).keeps kT) (t := t5) (u := tk5 + 1 + 1) ?_
    rw [← eL]
    exact Heap.get?_push_size _ rfl
  · intro Dp h5 tk5 zs hDp0 hpl hK hlen5 hns5 hk5
    have hn' : zs.length = ord.length := by rw [hlen5, List.size_toArray, hY.1]
    have hK' : Sheet h5 zs (partsIn ps wd ord) := by
      have : ord.take zs.length = ord := List.take_of_length_le (by omega)
      simpa only [this] using hK
    have kk : ∀ b o, b ≠ L → hf.get? b = some o → h5.get? b = some o := fun b o hb e => hk5 b o hb (Nat.ne_of_lt (Heap.lt_size e)) (k4 _ _ e)
    have hDp3 : hf.get? Dp = none := by
      cases q : hf.get? Dp with
      | none => rfl
      | some o => rw [show Heap.get? _ Dp = some o from k4 _ _ q] at hDp0; cases hDp0
    have hDpg : g.get? Dp = none := by
      cases q : g.get? Dp with
      | none => rfl
      | some o => rw [F.keep _ _ q] at hDp3; cases hDp3
    have hDpL : Dp ≠ L := by
      rintro rfl
      obtain ⟨o, _, _, e, _⟩ := F.ns
      rw [hDp3] at e; cases e
    refine wpAny_execs_nil (done h5 _ Dp zs ⟨hns5, fun b o e => ?_, F.above⟩ ?_ hK' kk hDpg hDpL)
    · exact kk b o (fun q => by rw [q] at e; rw [kts_self F] at e; cases e) (F.keep _ _ e)
    · obtain ⟨c, hc⟩ := hpl
      exact ⟨_, _, hc, rfl, rfl, rfl⟩
end
end Mine
end

section
open PySem PySem.W PyProof.Rows PySem.Calls
set_option maxRecDepth 100000
set_option maxHeartbeats 8000000
namespace Mine
theorem fillRight5 (P : Params) : PySem.Challenge.rw_yh0005_01 = PySem.Challenge.rw_yh0005_01 → hd.heap_1 P = hd.heap_1 P := by
  k_fill
  intro _
  rfl

/-- the text of all parts -/
noncomputable def shownOf (pp : List (Str × Str)) : Str := Txt.join (Str.ofString "") (pp.map fun p => p.1 ++ p.2)
/-- texts -/
noncomputable def TextsAt (zs : List Value) (pp : List (Str × Str)) : Prop := zs.length = pp.length ∧ ∀ (j : Nat) (x y : Str), pp[j]? = some (x, y) → ∃ t, zs[j]? = some (Value.str (x ++ y) t)

theorem strsAre_snoc {y : Str} {t : Tok} {vs : List Value} {ys : List Str} (h : StrsAre vs ys) : StrsAre (vs ++ [.str y t]) (ys ++ [y]) := by
  induction h with
  | nil => exact .cons y t .nil
  | cons a b r ih => exact .cons a b ih
section
variable {w : World} {A : Around} {s : Shared} {base : Heap} {outer : List Env} {mean : ExcName → Option Value} {mg mb : Str → Option Value} {g : Heap}
  {name qual : Str} {params : Arguments} {body : List Stmt} {scope : Scope} {dV kV doc pm cdv ct oc : Value} {an od : Option Addr} {osl : Array (Option Value)}
  {L Dp : Addr} {hf : Heap} {tkf : Nat} {Q : Flow → Shared → Prop} {m : Str → Option Value} {vs : List Value} {pp : List (Str × Str)}

theorem right_5 (ho : (hd.heap_1 w.params).lookup 191 = some ⟨oc, od, .func (fnOf name qual params body scope dV kV doc pm an cdv ct), osl⟩)
    (C : Cx w mean mg mb g) (hh : A.handled = none) (hroom : A.depth ≤ 310) (F : Fr g L hf m) (hmp : m (Str.ofString "parts") = some (.ref Dp)) (hDp : PlainL hf Dp vs.toArray) (hS : Sheet hf vs pp) (hSh : Short pp) (h20 : pp.length ≤ 20)
    (done : ∀ h' tk t, Fr g L h' (fun z => if z = Str.ofString "shown" then some (.str (shownOf pp) t) else m z) →
      (∀ b o, b ≠ L → hf.get? b = some o → h'.get? b = some o) → Q .next { s with heap := h', toks := tk }) :
    wpAny (model PySem.Challenge.rw_yh0005_01.row.prog w) (A.deeper (envOfC qual scope L 191 cdv)) (execs ((body.drop 7).take 1) (envOfC qual scope L 191 cdv)) Q (fun _ _ => False) { s with heap := hf, toks := tkf } := by
  refine (fun (e2 : (hd.heap_1 w.params).lookup 191 = some ⟨_, _, .func (fnOf _ _ _ _ _ _ _ _ _ _ _ _), _⟩) => ?_) (by k_is)
  rw [ho] at e2
  injection e2 with e2
  injection e2 with e3 e4 e5 e6
  injection e5 with e5
  injection e5 with n1 n2 n3 n4 n5
  injection n4 with n4
  subst_vars
  clear ho
  refine wpAny_execs_cons ?_
  have X' := C.X
  have T' := C.T
  have F' := F
  have N' : News g L hf (allAt g L hf) := allAt_news g L hf
  repeat' ((fail_if_success (with_reducible show wpAny _ _ (eval (Expr.ListComp _ _ _ _) _) _ _ _)); walk1)
  clear N' F' X' T'
  refine eval_comp_gen (cl := []) (by exact rfl) (by decide) (by exact rfl) (by decide) (fun _ => rule_pair) ?_
  refine name_local' F.ns hmp ?_ (by exact rfl) (by kernel_rfl) (by decide)
  refine wpAny_pyIter_list hDp.isList ?_
  have k4 : hf.StaysIn (hf.push { cls := .type "list_iterator", data := .fields #[.ref Dp, .int 0 0] }) := fun b o e => Heap.get?_push_of_some _ e
  have hDlt : Dp < hf.objs.size := hDp.lt
  have hne : Dp ≠ hf.objs.size := Nat.ne_of_lt hDlt
  have hL3 : L < hf.objs.size := F.ns.lt
  have hval : ∀ (i : Nat) (v : Value), vs.toArray[i]? = some v → ∃ (hi : i < pp.length) (T : Addr) (t u : Tok), v = .ref T ∧ hf.IsTuple T #[.str pp[i].1 t, .str pp[i].2 u] := by
    intro i v e
    rw [List.getElem?_toArray] at e
    have hi : i < pp.length := by
      rw [← hS.1]; exact (List.getElem?_eq_some_iff.mp e).1
    obtain ⟨T, t, u, g1, g2⟩ := hS.2 i pp[i].1 pp[i].2 (List.getElem?_eq_getElem hi)
    have g1 : vs[i]? = some (PySem.Value.ref T) := g1
    rw [g1] at e
    injection e with e
    exact ⟨hi, T, t, u, e.symm, g2⟩
  refine ⟨_, _, _, _, _, fun zs _ => StrsAre zs ((pp.take zs.length).map fun p => p.1 ++ p.2), _, rfl, Walks.list (by exact hh) hf.objs.size Dp hne _, by rw [List.size_toArray, hS.1]; omega, ⟨⟨_, Heap.get?_push_size _ rfl, rfl, rfl⟩, hDp.isList.at fun o e => k4 _ _ e⟩, ?_, ?_, ?_, ⟨fun _ _ _ _ a _ _ => a, fun _ _ _ a _ => a⟩, fun _ _ => .nil,
    tgt_pair (by exact hh) (by exact rfl) (by exact rfl) (by decide) (by exact rfl) ?_, ?_, ?_⟩
  · intro b hb
    show b < (hf.push _).objs.size
    rw [Heap.size_push]
    rcases List.mem_cons.mp hb with rfl | hb
    · exact Nat.lt_succ_self _
    · rw [List.mem_singleton.mp hb]; exact Nat.lt_succ_of_lt hDlt
  · rintro i h ⟨⟨o, e, _, hd⟩, _⟩
    exact ⟨o, _, e, hd⟩
  · rintro v s₁ Q' E' i ⟨⟨o, ho, hc, hd⟩, _⟩ hq
    unfold letOwnedTupleGo
    cases v with
    | ref T =>
      dsimp only
      refine wpAny_bind (wpAny_load ho ?_)
      rw [hc, hd]
      exact wpAny_pure hq
    | _ => exact wpAny_pure hq
  · intro i v hv
    obtain ⟨hi, T, t, u, rfl, o, a1, a2, n, a3⟩ := hval i v hv
    exact ⟨T, _, _, rfl, Nat.ne_of_lt (Heap.lt_size a1), o, k4 _ _ a1, a2, n, a3⟩
  · intro Cc s₃ m₃ E' zs v hC0 hn hB hPv hlt hK hk hgn hos hdr
    obtain ⟨T, v1, v2, rfl, hT, hb1, hb2⟩ := hB
    obtain ⟨hi, T', t, u, eT, hT'⟩ := hval _ _ hPv
    injection eT with eT
    subst eT
    have hv12 : v1 = .str pp[zs.length].1 t ∧ v2 = .str pp[zs.length].2 u := by
      obtain ⟨o, a1, a2, n, a3⟩ := hT'
      obtain ⟨o', b1, b2, n', b3⟩ := hT
      have := hk _ _ (Nat.ne_of_lt (Heap.lt_size a1)) (k4 _ _ a1)
      rw [b1] at this; cases this
      rw [b3] at a3
      injection a3 with a3 _
      have e0 := congrArg (fun x : Array Value => x[0]?) a3
      have e1 := congrArg (fun x : Array Value => x[1]?) a3
      exact ⟨by simpa using e0, by simpa using e1⟩
    obtain ⟨rfl, rfl⟩ := hv12
    obtain ⟨hx, hy⟩ := hSh.2 _ (List.getElem_mem hi)
    refine wpAny_BinOp ?_
    refine wpAny_Name (wpAny_loadName_local (by exact rfl) (by kernel_rfl) hn hb1 ?_) (by decide)
    refine wpAny_Name (wpAny_loadName_local (by exact rfl) (by kernel_rfl) hn hb2 ?_) (by decide)
    have hl1 : pp[zs.length].1.length + pp[zs.length].2.length ≤ 200 := by omega
    k_steps
    · exact fun _ _ e => e
    · have et : ∀ v : Value, (pp.take (zs ++ [v]).length).map (fun p => p.1 ++ p.2) = (pp.take zs.length).map (fun p => p.1 ++ p.2) ++ [pp[zs.length].1 ++ pp[zs.length].2] := by
        intro v
        rw [List.length_append, List.length_singleton, List.take_succ_eq_append_getElem hi, List.map_append]
        rfl
      show StrsAre _ _
      rw [et]
      exact strsAre_snoc hK
  · intro D h5 tk5 zs hD0 hpl hK hlen5 hk5
    refine args_nil ?_
    have hn' : zs.length = pp.length := by rw [hlen5, List.size_toArray, hS.1]
    have hK' : StrsAre zs (pp.map fun p => p.1 ++ p.2) := by
      have : pp.take zs.length = pp := List.take_of_length_le (by omega)
      simpa only [this] using hK
    have kk : ∀ b o, b ≠ L → hf.get? b = some o → h5.get? b = some o := fun b o hb e => hk5 b o (Nat.ne_of_lt (Heap.lt_size e)) (k4 _ _ e)
    have F5 : Fr g L h5 m := ⟨F.ns.at' fun o e => hk5 _ o (Nat.ne_of_lt hL3) (k4 _ _ e), fun b o e => kk b o (fun q => by rw [q] at e; rw [kts_self F] at e; cases e) (F.keep _ _ e), F.above⟩
    refine join_list (x := Str.ofString "") (ys := pp.map fun p => p.1 ++ p.2) hpl.isList (by simpa using hK') ?_ fun t' k => ?_
    · have hs : ((pp.map fun p => p.1 ++ p.2).map (·.length)).sum ≤ ((pp.map fun p => p.1 ++ p.2).map (·.length)).length * 200 := sum_le fun x hx => by
        obtain ⟨y, hy, rfl⟩ := List.mem_map.mp hx
        obtain ⟨p, hp, rfl⟩ := List.mem_map.mp hy
        have := hSh.2 p hp
        rw [len_app]; omega
      have e0 : (Str.ofString "").length = 0 := by decide
      rw [e0]
      simp only [List.length_map] at hs ⊢
      omega
    · refine wpAny_storeName_local (by exact rfl) F5.ns (fun h7 hn7 hs7 => ?_) (by exact rfl)
      have k7 : ∀ b o, b ≠ L → h5.get? b = some o → h7.get? b = some o := fun b o hb e => hs7.extBut b o hb e
      refine wpAny_execs_nil (done h7 _ t' ⟨hn7, fun b o e => k7 b o (fun q => by rw [q] at e; rw [kts_self F] at e; cases e) (F5.keep _ _ e), F.above⟩ fun b o hb e => k7 _ _ hb (kk _ _ hb e))
end
end Mine
end

section
open PySem PySem.W PyProof.Rows PySem.Calls
set_option maxRecDepth 100000
set_option maxHeartbeats 8000000
namespace Mine
theorem push_spec (w : World) {A : Around} {s : Shared} {R : Result → Shared → Prop} {mean : ExcName → Option Value} {mg mb : Str → Option Value} {a : Addr} {items : Array Value} {u v : Value}
    (C : Cx w mean mg mb (s.heap.hide a)) (hroom : A.depth ≤ 500) (H : AccAt w s.heap a items) (hsz : items.size ≤ 1000)
    (h : ∀ h' tk q, (s.heap.hide a).StaysIn h' → AccAt w h' a (items.push (.ref q)) → h'.get? q = some { cls := .type "tuple", data := .seq #[u, v] } → s.heap.get? q = none → R (.ok (.ret .none)) { s with heap := h', toks := tk }) :
    codeAny (model PySem.Challenge.rw_yh0005_01.row.prog w) A (.call (.ref 45) ⟨[.ref a, u, v], []⟩) R s := by
  refine (?_ : (hd.heap_1 w.params).In (s.heap.hide a) → _) C.X
  k_fill
  intro X'
  obtain ⟨d, n, t1, t2, ho, hdo⟩ := id H
  refine' enter (binds := [(Str.ofString "self", .ref a), (Str.ofString "fws", u), (Str.ofString "string", v)]) C (fun b o e => Heap.of_hide e) (Nat.le_of_eq (Heap.hide_size _ _)) ?k1 ?k2 (Nat.lt_of_le_of_lt hroom (by decide)) ?k3 ?k4 ?k5 ?k6 ?k7 ?k8 ?_
  (case k1 => k_is)
  (case k2 => k_is)
  (case k3 => exact BindsTo.of_eq rfl)
  (case k4 => exact locs rfl)
  (case k5 => decide)
  (case k6 => exact rfl)
  (case k7 => exact rfl)
  (case k8 => exact rfl)
  intro L h₁ hL F' hk₁
  have N' : News (s.heap.hide a) L h₁ [(a, accObj d items n)] := fun p hp => by
    rw [List.mem_singleton.mp hp]
    exact ⟨hk₁ _ _ ho, hL ▸ Nat.ne_of_lt (Heap.lt_size ho), Heap.hide_self _ _⟩
  have T' := C.T
  (try dsimp only)
  (try k_fold)
  have hd₁ : h₁.get? d = some (iniObj w.params t1 t2) := hk₁ _ _ hdo
  iterate 4 walk1
  refine method_acc (X'.keeps F'.keep) ⟨(N' _ (.head _)).1, rfl, rfl, hd₁⟩ (find_append _) (by k_is) (.inr rfl) (look_ini rfl) ?_
  k_steps
  rename_i D h' F' N' l1
  refine append_acc (X'.keeps F'.keep) (N' _ (.tail _ (.head _))).1 (by rw [sizeLine_eq]; omega) ?_
  k_steps
  have e1 : (h'.update a (Obj.mapSeq fun xs => xs.push (.ref D))).get? D = some { cls := .type "tuple", data := .seq #[u, v] } := by
    rw [Heap.get?_update_ne _ _ _ _ (Nat.ne_of_gt l1)]; exact (N' _ (.head _)).1
  have st : (s.heap.hide a).StaysIn (h'.update a (Obj.mapSeq fun xs => xs.push (.ref D))) := fun b o e => by
    have hb : b ≠ a := by rintro rfl; rw [Heap.hide_self] at e; cases e
    rw [Heap.get?_update_ne _ _ _ _ hb]; exact F'.keep b o e
  refine h _ _ D st (H.setItems st fun d' n' e => ?_) e1 ?_
  · rw [ho] at e; cases e
    exact ⟨_, Heap.get?_update_self _ (N' _ (.tail _ (.head _))).1 rfl⟩
  · have := (N' _ (.head _)).2.2
    rwa [Heap.hide_ne _ (Nat.ne_of_gt l1)] at this
end Mine
end

section
open PySem PySem.W PyProof.Rows PySem.Calls
set_option maxRecDepth 100000
set_option maxHeartbeats 8000000
namespace Mine
theorem pop_spec (w : World) {A : Around} {s : Shared} {R : Result → Shared → Prop} {mean : ExcName → Option Value} {mg mb : Str → Option Value} {a : Addr} {items : Array Value} {i : Int} {t : Tok} {args : List Value}
    (C : Cx w mean mg mb (s.heap.hide a)) (hroom : A.depth ≤ 500) (H : AccAt w s.heap a items) (hsz : items.size ≤ 1000) (hi : 0 ≤ i) (hargs : args = [.ref a, .int i t] ∨ (args = [.ref a] ∧ i = 0))
    (h : ∀ h' tk q, (s.heap.hide a).StaysIn h' → AccAt w h' a (items.extract 0 (min i items.size).toNat) → h'.IsList q (items.toList.drop i.toNat).toArray → s.heap.get? q = none → R (.ok (.ret (.ref q))) { s with heap := h', toks := tk }) :
    codeAny (model PySem.Challenge.rw_yh0005_01.row.prog w) A (.call (.ref 53) ⟨args, []⟩) R s := by
  refine (?_ : (hd.heap_1 w.params).In (s.heap.hide a) → _) C.X
  k_fill
  intro X'
  obtain ⟨d, n, t1, t2, ho, hdo⟩ := id H
  have key : ∀ (t' : Tok), (∀ fd o, (hd.heap_1 w.params).lookup 53 = some o → o.data = .func fd → BindsTo s fd ⟨args, []⟩ [(Str.ofString "self", .ref a), (Str.ofString "i", .int i t')]) →
      codeAny (model PySem.Challenge.rw_yh0005_01.row.prog w) A (.call (.ref 53) ⟨args, []⟩) R s := by
    intro t' hb
    refine' enter (binds := [(Str.ofString "self", .ref a), (Str.ofString "i", .int i t')]) C (fun b o e => Heap.of_hide e) (Nat.le_of_eq (Heap.hide_size _ _)) ?k1 ?k2 (Nat.lt_of_le_of_lt hroom (by decide)) ?k3 ?k4 ?k5 ?k6 ?k7 ?k8 ?_
    (case k1 => k_is)
    (case k2 => k_is)
    (case k3 => exact hb _ _ (by k_is) rfl)
    (case k4 => exact locs rfl)
    (case k5 => decide)
    (case k6 => exact rfl)
    (case k7 => exact rfl)
    (case k8 => exact rfl)
    intro L h₁ hL F' hk₁
    have N' : News (s.heap.hide a) L h₁ [(a, accObj d items n)] := fun p hp => by
      rw [List.mem_singleton.mp hp]
      exact ⟨hk₁ _ _ ho, hL ▸ Nat.ne_of_lt (Heap.lt_size ho), Heap.hide_self _ _⟩
    have T' := C.T
    (try dsimp only)
    (try k_fold)
    iterate 9 walk1
    have ho₁ : h₁.get? a = some (accObj d items n) := hk₁ _ _ ho
    refine sliceTail_acc (s := { s with heap := h₁, toks := _ }) F' N' (X'.keeps F'.keep) ho₁ hi hsz ?_
    intro D h₂ F' N' l1 hk₂
    k_steps
    rename_i hA l hB F' N' l2
    dsimp only
    have keep : hB.StaysIn (hB.push { cls := .type "slice", data := .fields #[.int i t', .none, .none] }) := fun b o e => Heap.get?_push_of_some _ e
    have ho₂ := keep _ _ (N'.get (a := a) (.tail _ (.tail _ (.head _))))
    have hl₂ : (hB.push { cls := .type "slice", data := .fields #[.int i t', .none, .none] }).IsList l #[] := ⟨_, keep _ _ (N'.get (a := l) (List.Mem.head _)), rfl, _, rfl⟩
    refine cut_acc (s := { s with heap := hB.push _, toks := _ }) (X'.keeps fun b o e => keep _ _ (F'.keep b o e)) ho₂ ⟨_, Heap.get?_push_size _ rfl, rfl, rfl⟩ hl₂ hi ?_ hsz
    dsimp only
    have hLa : L ≠ a := fun e => (N' _ (.tail _ (.tail _ (.head _)))).2.1 e.symm
    have F' := fr_upd (a := a) (f := Obj.mapSeq fun xs => xs.extract 0 (min i items.size).toNat ++ #[] ++ xs.extract items.size xs.size) (F'.push { cls := .type "slice", data := .fields #[.int i t', .none, .none] }) (Heap.hide_self _ _) hLa
    k_steps
    have hDa : D ≠ a := (l1 : h₁.objs.size < D) |> fun l e => absurd (Heap.lt_size ho₁) (by rw [← e]; exact Nat.lt_asymm l)
    have st : (s.heap.hide a).StaysIn ((hB.push { cls := .type "slice", data := .fields #[.int i t', .none, .none] }).update a (Obj.mapSeq fun xs => xs.extract 0 (min i items.size).toNat ++ #[] ++ xs.extract items.size xs.size)) := F'.keep
    refine h _ _ D st (H.setItems st fun d' n' e => ?_) ⟨listOf (items.toList.drop i.toNat).toArray 0, ?_, rfl, 0, rfl⟩ ?_
    · rw [ho] at e; cases e
      have ea : items.extract 0 (min i items.size).toNat ++ #[] ++ items.extract items.size items.size = items.extract 0 (min i items.size).toNat := by simp
      have e2 := Heap.get?_update_self (Obj.mapSeq fun xs => xs.extract 0 (min i items.size).toNat ++ #[] ++ xs.extract items.size xs.size) ho₂ rfl
      have e3 : ∃ n', Obj.mapSeq (fun xs => xs.extract 0 (min i items.size).toNat ++ #[] ++ xs.extract items.size xs.size) (accObj d items n) = accObj d (items.extract 0 (min i items.size).toNat) n' := by
        simp only [Obj.mapSeq, ea]
        exact ⟨_, rfl⟩
      obtain ⟨n', e3⟩ := e3
      exact ⟨n', e2.trans (by rw [e3])⟩
    · rw [Heap.get?_update_ne _ _ _ _ hDa]
      exact keep _ _ (N'.get (a := D) (.tail _ (.head _)))
    · have := (N' _ (.tail _ (.head _))).2.2
      rwa [Heap.hide_ne _ hDa] at this
  have e53 : ∃ o, (hd.heap_1 w.params).lookup 53 = some o := ⟨_, by k_is⟩
  rcases hargs with rfl | ⟨rfl, rfl⟩
  · refine key t fun fd o e1 e2 => ?_
    obtain rfl := Option.some.inj (e1.symm.trans (by k_is))
    cases e2
    exact binds_K (X'.keeps (fun b o e => Heap.of_hide e)) rfl (by k_is) rfl rfl rfl
  · refine key 229 fun fd o e1 e2 => ?_
    obtain rfl := Option.some.inj (e1.symm.trans (by k_is))
    cases e2
    exact binds_K (X'.keeps (fun b o e => Heap.of_hide e)) rfl (by k_is) rfl rfl rfl
end Mine
end

section
open PySem PySem.W PyProof.Rows PySem.Calls
set_option maxRecDepth 100000
set_option maxHeartbeats 8000000
namespace Mine
theorem fillRows (P : Params) : PySem.Challenge.rw_yh0005_01 = PySem.Challenge.rw_yh0005_01 → hd.heap_1 P = hd.heap_1 P := by
  k_fill
  intro _
  rfl

theorem elt_makes {w : World} {A : Around} {mean : ExcName → Option Value} {mg mb : Str → Option Value} {g : Heap} {I : Addr} {s₂ : Shared} {np pos : Pos} {scope : Scope} {env : Env}
    (C : Cx w mean mg mb g) (hroom : A.depth ≤ 400) (hI : g.get? I = none) (hg : g.StaysIn s₂.heap) (hglob : env.globals = mainGlobals) (hsc : scope.kind = .function)
    (hkind : ∀ Ca, (compEnv scope Ca env).kindOf (Str.ofString "_Accumulator") = some .globalImplicit) :
    EltMakes PySem.Challenge.rw_yh0005_01.row.prog w A (.Call (.Name (Str.ofString "_Accumulator") np) [] [] pos) scope env I s₂ := by
  intro Ca s₃ m₃ E' _ hk
  have C₃ : Cx w mean mg mb s₃.heap := C.keeps fun b o e => hk b o (fun q => by rw [q, hI] at e; cases e) (hg _ _ e)
  refine Call_ (name_top C₃ (v := .ref 100) (by kernel_rfl) ?_ hglob hsc (hkind Ca) (by decide)) rfl
  refine callWith_K0 C₃.X (by first | k_is | kernel_rfl) ?_
  refine wpAny_call (make_spec w C₃ hroom fun h' tk q hk' H hq => ?_)
  exact ⟨q, h', tk, rfl, rfl, hk', H, hq⟩
end Mine
end

section
open PySem PySem.W PyProof.Rows PySem.Calls
set_option maxRecDepth 100000
set_option maxHeartbeats 8000000
namespace Mine
/-! No rule of the walker takes these calls: it stops ahead of them at once. -/
local macro_rules | `(tactic| k_steps) => `(tactic| repeat' (first | (k_unfold; (try dsimp only)) | (k_end; wrow_close) | ((fail_if_success (with_reducible show wpAny _ _ (getMethod _ _ _) _ _ _)); walk1) | (dsimp only; (fail_if_success (with_reducible show wpAny _ _ (getMethod _ _ _) _ _ _)); walk1) | (leave1; try dsimp only) | fail "no step"))
theorem fillLay (P : Params) : PySem.Challenge.rw_yh0005_01 = PySem.Challenge.rw_yh0005_01 → hd.heap_1 P = hd.heap_1 P := by
  k_fill
  intro _
  rfl

section
variable {w : World} {A : Around} {s : Shared} {mean : ExcName → Option Value} {mg mb : Str → Option Value} {P d q D : Addr} {wd : Int} {t5 : Tok} {vk vk3 : Option Value} {ts : Tok} {vr vl vc vp : Option Value}
  {name qual : Str} {params : Arguments} {body : List Stmt} {scope : Scope} {dV kV doc pm cdv ct oc : Value} {an od : Option Addr} {osl : Array (Option Value)}
  {L b0 : Addr} {o0 : Obj} {as : List Addr} {rows : List (List (Str × Str))} {hf : Heap} {tkf : Nat} {Q : Flow → Shared → Prop} {qs : List (Str × Str)}

theorem fr_ext' {h₀ h : Heap} {L : Addr} {m m' : Str → Option Value} (F : Fr h₀ L h m) (e : ∀ y, m y = m' y) : Fr h₀ L h m' := (funext e : m = m') ▸ F
theorem len_flat {α : Type} {l : List α} : ∀ {rows : List (List α)}, l ∈ rows → l.length ≤ rows.flatten.length
  | r :: rs, h => by
    rw [List.flatten_cons, List.length_append]
    rcases List.mem_cons.mp h with rfl | h
    · omega
    · have := len_flat h; omega
theorem sheet_snoc' {h : Heap} {vs : List Value} {ps : List (Str × Str)} {T : Addr} {x y : Str} {t u : Tok} (S : Sheet h vs ps) (e : h.get? T = some { cls := .type "tuple", data := .seq #[.str x t, .str y u] }) : Sheet h (vs ++ [.ref T]) (ps ++ [(x, y)]) := by
  refine ⟨by simp [S.1], fun j x' y' e' => ?_⟩
  by_cases hj : j < ps.length
  · rw [List.getElem?_append_left hj] at e'
    obtain ⟨T', t', u', h1, h2⟩ := S.2 j x' y' e'
    exact ⟨T', t', u', by rw [List.getElem?_append_left (by rw [S.1]; exact hj)]; exact h1, h2⟩
  · rw [List.getElem?_append_right (Nat.le_of_not_lt hj)] at e'
    have hj' : j - ps.length = 0 := by
      rcases Nat.eq_zero_or_pos (j - ps.length) with h0 | h0
      · exact h0
      · rw [List.getElem?_eq_none (by simp; omega)] at e'; cases e'
    rw [hj'] at e'
    cases e'
    refine ⟨T, t, u, ?_, _, e, rfl, _, rfl⟩
    rw [List.getElem?_append_right (by rw [S.1]; omega), S.1, hj']
    rfl
noncomputable def J5 (w : World) (s : Shared) (L P d q D : Addr) (wd : Int) (t5 : Tok) (vk vk3 : Option Value) (ts : Tok) (vp : Option Value) (as : List Addr) (rows : List (List (Str × Str))) (b0 : Addr) (o0 : Obj) (i : Nat) (s' : Shared) : Prop :=
  ∃ h' tk vr vl vc, s' = { s with heap := h', toks := tk } ∧ Desk w s.heap h' L q (m5 P d q D wd t5 vk vk3 ts vr vl vc vp) as (rows.take i).flatten (List.replicate i [] ++ rows.drop i) [(b0, o0)] [(D, (as.map .ref).toArray)] []

noncomputable def J6 (w : World) (s : Shared) (L P d q D : Addr) (wd : Int) (t5 : Tok) (vk vk3 : Option Value) (ts : Tok) (vr vp : Option Value) (as : List Addr) (rows : List (List (Str × Str))) (b0 : Addr) (o0 : Obj) (i : Nat) (bi : Addr) (oi : Obj)
    (l : Addr) (vr0 : List Value) (k : Nat) (s' : Shared) : Prop :=
  ∃ h' tk vl vc, s' = { s with heap := h', toks := tk } ∧ Desk w s.heap h' L q (m5 P d q D wd t5 vk vk3 ts vr vl vc vp) as ((rows.take i).flatten ++ (rows.getD i []).take k) (List.replicate (i + 1) [] ++ rows.drop (i + 1)) [(bi, oi), (b0, o0)] [(l, vr0.toArray), (D, (as.map .ref).toArray)] [(vr0, rows.getD i [])]

theorem lay_rows (ho : (hd.heap_1 w.params).lookup 181 = some ⟨oc, od, .func (fnOf name qual params body scope dV kV doc pm an cdv ct), osl⟩)
    (C : Cx w mean mg mb s.heap) (hroom : A.depth ≤ 350) (hh : A.handled = none)
    (K : Desk w s.heap hf L q (m5 P d q D wd t5 vk vk3 ts vr vl vc vp) as [] rows [(b0, o0)] [(D, (as.map .ref).toArray)] []) (h12 : as.length = 12) (hsz : rows.flatten.length ≤ 20)
    (done : ∀ h' tk vr vl vc, Desk w s.heap h' L q (m5 P d q D wd t5 vk vk3 ts vr vl vc vp) as rows.flatten (List.replicate 12 []) [(b0, o0)] [(D, (as.map .ref).toArray)] [] → Q .next { s with heap := h', toks := tk }) :
    wpAny (model PySem.Challenge.rw_yh0005_01.row.prog w) (A.deeper (envOf qual scope L 181 cdv)) (execs ((piece [7] body).drop 1) (envOf qual scope L 181 cdv)) Q (fun _ _ => False) { s with heap := hf, toks := tkf } := by
  have hroom' : ∀ {e : Env}, (A.deeper e).depth ≤ 400 := fun {e} => Nat.le_trans (Nat.succ_le_succ hroom) (by decide)
  have X' := C.X
  have T' := C.T
  refine (fun (e2 : (hd.heap_1 w.params).lookup 181 = some ⟨_, _, .func (fnOf _ _ _ _ _ _ _ _ _ _ _ _), _⟩) => ?_) (by k_is)
  rw [ho] at e2
  injection e2 with e2
  injection e2 with e3 e4 e5 e6
  injection e5 with e5
  injection e5 with n1 n2 n3 n4 n5
  injection n4 with n4
  subst_vars
  clear ho
  (try dsimp only [piece, List.drop])
  have hL0 : s.heap.get? L = none := Heap.get?_none_of_le K.F.above
  have hLf : L < hf.objs.size := K.F.ns.lt
  have hI0 : s.heap.get? hf.objs.size = none := Heap.get?_none_of_le (Nat.le_trans K.F.above (Nat.le_of_lt hLf))
  refine wpAny_execs_cons ?_
  refine for_any ?_ (by intro _; rfl) PassesOwn.never
  refine name_local' K.F.ns (by rfl) ?_ (by rfl) (by rfl) (by decide)
  have hDl := K.Ls _ (List.mem_singleton.mpr rfl)
  have hb0 : ∀ {h' : Heap}, h'.get? b0 = some o0 → True := fun _ => trivial
  have hrl : as.length = rows.length := K.M.1
  refine name_loop (J5 w s L P d q D wd t5 vk vk3 ts vp as rows b0 o0) (by exact hh) hDl ?_ ?_ ?_ ?_
  · intro h' tk hk
    exact ⟨h', tk, vr, vl, vc, rfl, by simpa using K.keeps hk⟩
  · rintro i s' h' tk hI ⟨ha, tka, vr, vl, vc, rfl, Ka⟩ hk
    refine ⟨h', tk, vr, vl, vc, rfl, Ka.keepI hI hI0 (fun p hp => ?_) hk⟩
    have hx := K.X p hp
    exact Nat.ne_of_lt (Heap.lt_size hx.1)
  · rintro i s' v hv ⟨ha, tka, vr, vl, vc, rfl, Ka⟩ it1 it2
    have hi : i < as.length := by
      have := (Array.getElem?_eq_some_iff.mp hv).1
      simpa using this
    have hi' : i < rows.length := hrl ▸ hi
    have hv' : v = .ref as[i] := by
      have : (as.map PySem.Value.ref).toArray[i]? = some (.ref as[i]) := by simp [hi]
      rw [this] at hv
      injection hv with e; exact e.symm
    subst hv'
    obtain ⟨oi, hoi, hci, hdi⟩ := id it1
    have Kb := Ka.addX (p := (hf.objs.size, oi)) hoi ⟨_, hdi⟩
    refine wpAny_assign_Name (wpAny_storeName_local (by rfl) Kb.F.ns (fun hg hng hsg => ?_) (by rfl))
    have kg : ∀ b o, b ≠ L → ha.get? b = some o → hg.get? b = some o := fun b o hb e => hsg.extBut b o hb e
    have Fg : Fr s.heap L hg (m5 P d q D wd t5 vk vk3 ts (some (.ref as[i])) vl vc vp) := fr_ext' ⟨hng, fun b o e => kg b o (fun q => by rw [q, hL0] at e; cases e) (Kb.F.keep b o e), Kb.F.above⟩ (fun y => n4_row _ _ _ _ _ _ y)
    have Kg := Kb.keepL Fg rfl kg
    have hri : (List.replicate i ([] : List (Str × Str)) ++ rows.drop i)[i]? = some rows[i] := by
      rw [List.getElem?_append_right (by simp)]
      simp
    have hgi : ∀ b, (∃ o, hg.get? b = some o) → b < hg.objs.size := fun b ⟨o, e⟩ => Heap.lt_size e
    refine wpAny_execs_cons ?_
    refine for_any ?_ (by intro _; rfl) PassesOwn.never
    have Ng := allAt_news s.heap L hg
    have F' := Kg.F
    have N' : News s.heap L hg (allAt s.heap L hg) := Ng
    k_steps
    have Kh := Kg.kb (by assumption) (by assumption) (by rfl)
    obtain ⟨vr0, Ha0, Sa0⟩ := Kh.M.2 i as[i] rows[i] (List.getElem?_eq_getElem hi) hri
    obtain ⟨dq, nq, tq, uq, Iq⟩ := Ha0.inst
    refine method_acc (C.keeps Kh.F.keep).X Iq (find_pop_from _) (by kernel_rfl) (.inl rfl) (look_ini (by decide)) ?_
    dsimp only
    refine callWith_K0 (C.keeps Kh.F.keep).X (by first | k_is | kernel_rfl) ?_
    have hlr : rows[i].length ≤ 20 := by
      refine Nat.le_trans ?_ hsz
      exact len_flat (List.getElem_mem hi')
    have hvs : vr0.length ≤ 20 := by rw [Sa0.1]; exact hlr
    have hma := List.getElem_mem hi
    refine wpAny_call (pop_spec w (C.off Kh.F.keep (Kh.as0 _ hma)) (Nat.le_trans hroom' (by decide)) Ha0 (by simp only [List.size_toArray]; omega) (Int.le_refl 0) (t := 0) (.inr ⟨rfl, rfl⟩) fun hp tkp l hkp Hp hlp hl0 => ?_)
    dsimp only
    have hlp' : hp.IsList l vr0.toArray := by simpa using hlp
    have Hp0 : AccAt w hp as[i] ([] : List Value).toArray := by
      have : vr0.toArray.extract 0 (min 0 (vr0.toArray.size : Int)).toNat = ([] : List Value).toArray := by
        rw [Int.min_eq_left (Int.natCast_nonneg _)]; simp
      rw [this] at Hp; exact Hp
    have Kp := ((Kh.addS (p := (vr0, rows[i])) Sa0).setRow (ps' := []) (List.getElem?_eq_getElem hi) Ha0 hkp Hp0 ⟨rfl, fun j x y e => by simp at e⟩).addL (p := (l, vr0.toArray)) hlp'
    have er : (List.replicate i ([] : List (Str × Str)) ++ rows.drop i).set i [] = List.replicate (i + 1) [] ++ rows.drop (i + 1) := by
      rw [List.set_append_right _ _ (by simp), List.length_replicate, Nat.sub_self, List.drop_eq_getElem_cons hi', List.set_cons_zero, List.replicate_succ', List.append_assoc]
      rfl
    rw [er] at Kp
    have hgd : rows.getD i [] = rows[i] := by rw [List.getD_eq_getElem?_getD, List.getElem?_eq_getElem hi']; rfl
    have hLp : L < hp.objs.size := Kp.F.ns.lt
    have hIp : s.heap.get? hp.objs.size = none := Heap.get?_none_of_le (Nat.le_trans Kp.F.above (Nat.le_of_lt hLp))
    refine pair_loop (J6 w s L P d q D wd t5 vk vk3 ts (some (.ref as[i])) vp as rows b0 o0 i hf.objs.size oi l vr0) (by exact hh) hlp' ?_ ?_ ?_ ?_
    · intro h' tk hk
      exact ⟨h', tk, vl, vc, rfl, by rw [hgd]; simpa using Kp.keeps hk⟩
    · rintro k s' h' tk hI ⟨ha, tka, vl, vc, rfl, Ka⟩ hk
      refine ⟨h', tk, vl, vc, rfl, Ka.keepI hI hIp (fun p hp' => ?_) hk⟩
      exact Nat.ne_of_lt (Heap.lt_size (Kp.X p hp').1)
    · rintro k s' v hv ⟨hc, tkc, vl, vc, rfl, Kc⟩ jt1 jt2
      have Sc0 := Kc.S _ (.head _)
      rw [hgd] at Kc
      have hk' : k < rows[i].length := by
        rw [← Sa0.1]
        have := (Array.getElem?_eq_some_iff.mp hv).1
        simpa using this
      rw [hgd] at Sc0
      obtain ⟨T, tx, ty, hvT, hT⟩ := Sc0.2 k rows[i][k].1 rows[i][k].2 (List.getElem?_eq_getElem hk')
      have hv' : v = .ref T := by
        have hvT : vr0[k]? = some (PySem.Value.ref T) := hvT
        rw [List.getElem?_toArray, hvT] at hv
        injection hv with e; exact e.symm
      subst hv'
      obtain ⟨oj, hoj, hcj, hdj⟩ := id jt1
      have Kc := Kc.addX (p := (hp.objs.size, oj)) hoj ⟨_, hdj⟩
      refine pair_assign (by exact hh) Kc.F hT (by rfl) (by rfl) (by rfl) fun hd tkd Fd kd => ?_
      have Fd : Fr s.heap L hd (m5 P d q D wd t5 vk vk3 ts (some (.ref as[i])) (some (.str rows[i][k].2 ty)) (some (.str rows[i][k].1 tx)) vp) := fr_ext' Fd (fun y => n4_pair _ _ _ _ _ _ _ y)
      have Kd := Kc.keepL Fd rfl kd
      have F' := Kd.F
      have N' : News s.heap L hd (allAt s.heap L hd) := allAt_news s.heap L hd
      k_steps
      have Ke := Kd.kb (by assumption) (by assumption) (by rfl)
      obtain ⟨vq, Hq, Sq⟩ := Ke.H
      obtain ⟨dq2, nq2, tq2, uq2, Iq2⟩ := Hq.inst
      refine method_acc (C.keeps Ke.F.keep).X Iq2 (find_push _) (by kernel_rfl) (.inl rfl) (look_ini (by decide)) ?_
      dsimp only
      k_steps
      have hlq : vq.length ≤ 40 := by
        rw [Sq.1, List.length_append]
        have e1 : (rows.take i).flatten.length ≤ 20 := by
          refine Nat.le_trans ?_ hsz
          have : rows.flatten = (rows.take i).flatten ++ (rows.drop i).flatten := by rw [← List.flatten_append, List.take_append_drop]
          rw [this, List.length_append]; omega
        have e2 : (rows[i].take k).length ≤ 20 := Nat.le_trans (List.length_take_le _ _) (by omega)
        omega
      refine wpAny_call (push_spec w (C.off Ke.F.keep Ke.q0) (Nat.le_trans hroom' (by decide)) Hq (by simp only [List.size_toArray]; omega) fun he tke T2 hke He hT2 hT20 => ?_)
      dsimp only
      have Kz := Ke.setQ (vs' := vq ++ [.ref T2]) (qs' := ((rows.take i).flatten ++ rows[i].take k) ++ [(rows[i][k].1, rows[i][k].2)]) Hq hke (by rw [List.push_toArray] at He; exact He) (sheet_snoc' (Sq.keep1 Hq hke) hT2)
      refine wpAny_execs_nil ⟨⟨he, tke, some (.str rows[i][k].2 ty), some (.str rows[i][k].1 tx), rfl, ?_⟩, ?_, ?_⟩
      · have et : rows[i].take (k + 1) = rows[i].take k ++ [(rows[i][k].1, rows[i][k].2)] := List.take_succ_eq_append_getElem hk'
        rw [hgd, et, ← List.append_assoc]
        exact Kz.dropX
      · exact ⟨oj, (Kz.X _ (.head _)).1, hcj, hdj⟩
      · exact Kz.Ls _ (.head _)
    · rintro s' ⟨ha, tka, vl, vc, rfl, Ka⟩
      refine wpAny_execs_nil ?_
      dsimp only at Ka ⊢
      have hsz' : vr0.toArray.size = rows[i].length := by simp [Sa0.1]
      rw [hsz', hgd, List.take_length] at Ka
      have ek : (rows.take (i + 1)).flatten = (rows.take i).flatten ++ rows[i] := by
        rw [List.take_succ_eq_append_getElem hi', List.flatten_append]; simp
      refine ⟨⟨ha, tka, some (.ref as[i]), vl, vc, rfl, ?_⟩, ?_, ?_⟩
      · rw [ek]; exact Ka.dropX.dropL.dropS
      · exact ⟨oi, (Ka.X _ (.head _)).1, hci, hdi⟩
      · exact Ka.Ls _ (.tail _ (.head _))
  · rintro s' ⟨ha, tka, vr, vl, vc, rfl, Ka⟩
    refine wpAny_execs_nil ?_
    have hsz' : (as.map PySem.Value.ref).toArray.size = rows.length := by simp [hrl]
    have e12 : rows.length = 12 := hrl ▸ h12
    dsimp only at Ka ⊢
    rw [hsz', e12] at Ka
    refine done _ _ vr vl vc ?_
    rw [List.take_of_length_le (by omega), List.drop_eq_nil_of_le (by omega), List.append_nil] at Ka
    exact Ka
end
end Mine
end

section
open PySem PySem.W PyProof.Rows PySem.Calls
set_option maxRecDepth 100000
set_option maxHeartbeats 8000000
namespace Mine
theorem fillDeal (P : Params) : PySem.Challenge.rw_yh0005_01 = PySem.Challenge.rw_yh0005_01 → hd.heap_1 P = hd.heap_1 P := by
  k_fill
  intro _
  rfl

/-- a column's sign at a place, as a row's number -/
noncomputable def sgAt (p : Int) (x : Str × Str) : Nat := (Txt.find (Str.ofString " -0123456789") (Txt.item x.1 p)).toNat
/-- the sheet after some passes -/
noncomputable def passes_ (pts : List (Str × Str)) (wd : Int) : Nat → List (Str × Str)
  | 0 => pts
  | i + 1 => passOf (sgAt (wd - 1 + (i : Int) * (-1))) (passes_ pts wd i)

/-- a column has a sign at a place -/
noncomputable def GoodAt (x : Str × Str) (p : Int) : Prop := 0 ≤ p ∧ p < x.1.length ∧ 0 ≤ Txt.find (Str.ofString " -0123456789") (Txt.item x.1 p) ∧ Txt.find (Str.ofString " -0123456789") (Txt.item x.1 p) < 12

theorem GoodAt.sg {x : Str × Str} {p : Int} (h : GoodAt x p) : sgAt p x < 12 := by
  obtain ⟨_, _, h3, h4⟩ := h
  unfold sgAt
  omega

theorem passes_perm {pts : List (Str × Str)} {wd : Int} (hg : ∀ x ∈ pts, ∀ j : Nat, (j : Int) < wd → GoodAt x (wd - 1 + (j : Int) * (-1))) : ∀ (i : Nat), (i : Int) ≤ wd → (passes_ pts wd i).Perm pts
  | 0, _ => List.Perm.refl _
  | i + 1, h => by
    have ih := passes_perm hg i (by omega)
    exact (passOf_perm fun x hx => (hg x (ih.mem_iff.mp hx) i (by omega)).sg).trans ih

section
variable {w : World} {A : Around} {s : Shared} {mean : ExcName → Option Value} {mg mb : Str → Option Value} {P d q D : Addr} {wd : Int} {t5 : Tok} {vk vk3 : Option Value} {ts : Tok} {vr vl vc : Option Value}
  {name qual : Str} {params : Arguments} {body : List Stmt} {scope : Scope} {dV kV doc pm cdv ct oc : Value} {an od : Option Addr} {osl : Array (Option Value)}
  {L b0 : Addr} {o0 : Obj} {as : List Addr} {hf : Heap} {tkf : Nat} {Q : Flow → Shared → Prop} {pl : List (Str × Str)} {p : Int} {tp : Tok}

noncomputable def J4 (w : World) (s : Shared) (L P d q D : Addr) (wd : Int) (t5 : Tok) (vk vk3 : Option Value) (ts : Tok) (p : Int) (tp : Tok) (as : List Addr) (b0 : Addr) (o0 : Obj) (l : Addr) (vsa : List Value) (pl : List (Str × Str)) (i : Nat) (s' : Shared) : Prop :=
  ∃ h' tk vr vl vc, s' = { s with heap := h', toks := tk } ∧ Desk w s.heap h' L q (m5 P d q D wd t5 vk vk3 ts vr vl vc (some (.int p tp))) as [] (rowsOf (sgAt p) (pl.take i)) [(b0, o0)] [(l, vsa.toArray), (D, (as.map .ref).toArray)] [(vsa, pl)]

theorem deal_pass (ho : (hd.heap_1 w.params).lookup 181 = some ⟨oc, od, .func (fnOf name qual params body scope dV kV doc pm an cdv ct), osl⟩)
    (C : Cx w mean mg mb s.heap) (hroom : A.depth ≤ 350) (hh : A.handled = none)
    (K : Desk w s.heap hf L q (m5 P d q D wd t5 vk vk3 ts vr vl vc (some (.int p tp))) as pl (List.replicate 12 []) [(b0, o0)] [(D, (as.map .ref).toArray)] []) (h12 : as.length = 12) (hsz : pl.length ≤ 20)
    (hgi : ∀ x ∈ pl, GoodAt x p) (hp0 : 0 ≤ p) (hp5 : p ≤ 5)
    (done : ∀ h' tk vr vl vc, Desk w s.heap h' L q (m5 P d q D wd t5 vk vk3 ts vr vl vc (some (.int p tp))) as (passOf (sgAt p) pl) (List.replicate 12 []) [(b0, o0)] [(D, (as.map .ref).toArray)] [] → Q .next { s with heap := h', toks := tk }) :
    wpAny (model PySem.Challenge.rw_yh0005_01.row.prog w) (A.deeper (envOf qual scope L 181 cdv)) (execs (piece [7] body) (envOf qual scope L 181 cdv)) Q (fun _ _ => False) { s with heap := hf, toks := tkf } := by
  have ho' := ho
  have hroom' : ∀ {e : Env}, (A.deeper e).depth ≤ 400 := fun {e} => Nat.le_trans (Nat.succ_le_succ hroom) (by decide)
  have X' := C.X
  have T' := C.T
  refine (fun (e2 : (hd.heap_1 w.params).lookup 181 = some ⟨_, _, .func (fnOf _ _ _ _ _ _ _ _ _ _ _ _), _⟩) => ?_) (by k_is)
  rw [ho] at e2
  injection e2 with e2
  injection e2 with e3 e4 e5 e6
  injection e5 with e5
  injection e5 with n1 n2 n3 n4 n5
  injection n4 with n4
  subst_vars
  clear ho
  have hL0 : s.heap.get? L = none := Heap.get?_none_of_le K.F.above
  refine wpAny_execs_cons ?_
  refine for_any ?_ (by intro _; rfl) PassesOwn.never
  have F' := K.F
  have N' : News s.heap L hf (allAt s.heap L hf) := allAt_news s.heap L hf
  k_steps
  have Kh := K.kb (by assumption) (by assumption) (by rfl)
  obtain ⟨vsa, Hb, Sb⟩ := Kh.H
  obtain ⟨dq, nq, tq, uq, Iq⟩ := Hb.inst
  refine method_acc (C.keeps Kh.F.keep).X Iq (find_pop_from _) (by kernel_rfl) (.inl rfl) (look_ini (by decide)) ?_
  dsimp only
  refine callWith_K0 (C.keeps Kh.F.keep).X (by first | k_is | kernel_rfl) ?_
  have hvs : vsa.length ≤ 20 := by rw [Sb.1]; exact hsz
  refine wpAny_call (pop_spec w (C.off Kh.F.keep Kh.q0) (Nat.le_trans hroom' (by decide)) Hb (by simp only [List.size_toArray]; omega) (Int.le_refl 0) (t := 0) (.inr ⟨rfl, rfl⟩) fun hp tkp l hkp Hp hlp hl0 => ?_)
  dsimp only
  have hlp' : hp.IsList l vsa.toArray := by simpa using hlp
  have Hp0 : AccAt w hp q ([] : List Value).toArray := by
    have : vsa.toArray.extract 0 (min 0 (vsa.toArray.size : Int)).toNat = ([] : List Value).toArray := by
      rw [Int.min_eq_left (Int.natCast_nonneg _)]; simp
    rw [this] at Hp; exact Hp
  have Kp := ((Kh.addS (p := (vsa, pl)) Sb).setQ (qs' := []) Hb hkp Hp0 ⟨rfl, fun j x y e => by simp at e⟩).addL (p := (l, vsa.toArray)) hlp'
  have hLp : L < hp.objs.size := Kp.F.ns.lt
  have hIp : s.heap.get? hp.objs.size = none := Heap.get?_none_of_le (Nat.le_trans Kp.F.above (Nat.le_of_lt hLp))
  refine pair_loop (J4 w s L P d q D wd t5 vk vk3 ts p tp as b0 o0 l vsa pl) (by exact hh) hlp' ?_ ?_ ?_ ?_
  · intro h' tk hk
    refine ⟨h', tk, vr, vl, vc, rfl, ?_⟩
    rw [List.take_zero, rowsOf_nil]
    exact Kp.keeps hk
  · rintro k s' h' tk hI ⟨ha, tka, vr, vl, vc, rfl, Ka⟩ hk
    refine ⟨h', tk, vr, vl, vc, rfl, Ka.keepI hI hIp (fun p hp' => ?_) hk⟩
    exact Nat.ne_of_lt (Heap.lt_size (Kp.X p hp').1)
  · rintro k s' v hv ⟨hc, tkc, vr, vl, vc, rfl, Kc⟩ jt1 jt2
    have Sc0 := Kc.S _ (.head _)
    have hk' : k < pl.length := by
      rw [← Sb.1]
      have := (Array.getElem?_eq_some_iff.mp hv).1
      simpa using this
    obtain ⟨T, tx, ty, hvT, hT⟩ := Sc0.2 k pl[k].1 pl[k].2 (List.getElem?_eq_getElem hk')
    have hv' : v = .ref T := by
      have hvT : vsa[k]? = some (PySem.Value.ref T) := hvT
      rw [List.getElem?_toArray, hvT] at hv
      injection hv with e; exact e.symm
    subst hv'
    obtain ⟨oj, hoj, hcj, hdj⟩ := id jt1
    have Kc := Kc.addX (p := (hp.objs.size, oj)) hoj ⟨_, hdj⟩
    have hg := hgi _ (List.getElem_mem hk')
    obtain ⟨g1, g2, g3, g4⟩ := id hg
    refine pair_assign (by exact hh) Kc.F hT (by rfl) (by rfl) (by rfl) fun hd tkd Fd kd => ?_
    have Fd : Fr s.heap L hd (m5 P d q D wd t5 vk vk3 ts vr (some (.str pl[k].2 ty)) (some (.str pl[k].1 tx)) (some (.int p tp))) := fr_ext' Fd (fun y => n4_pair _ _ _ _ _ _ _ y)
    have Kd := Kc.keepL Fd rfl kd
    have F' := Kd.F
    have N' : News s.heap L hd (allAt s.heap L hd) := allAt_news s.heap L hd
    k_steps
    have Ke := Kd.kb (by assumption) (by assumption) (by rfl)
    have hsg := hg.sg
    have hsa : sgAt p pl[k] < as.length := by rw [h12]; exact hsg
    have LD : hd.IsList D (as.map PySem.Value.ref).toArray := Ke.Ls _ (.tail _ (.head _))
    refine item_listL (x := .ref as[sgAt p pl[k]]) LD g3 (Int.lt_trans g4 (by decide)) (by
      rw [List.getElem?_map]
      show Option.map _ (as[sgAt p pl[k]]?) = _
      rw [List.getElem?_eq_getElem hsa]
      rfl) ?_
    dsimp only
    obtain ⟨vr0, Ha0, Sa0⟩ := Ke.M.2 _ _ _ (List.getElem?_eq_getElem hsa) (rowsOf_at hsg)
    have hma := List.getElem_mem hsa
    obtain ⟨dq2, nq2, tq2, uq2, Iq2⟩ := Ha0.inst
    refine method_acc (C.keeps Ke.F.keep).X Iq2 (find_push _) (by kernel_rfl) (.inl rfl) (look_ini (by decide)) ?_
    dsimp only
    k_steps
    have hvr : vr0.length ≤ 20 := by
      rw [Sa0.1]
      refine Nat.le_trans (List.length_filter_le _ _) ?_
      rw [List.length_take]
      exact Nat.le_trans (Nat.min_le_right _ _) hsz
    refine wpAny_call (push_spec w (C.off Ke.F.keep (Ke.as0 _ hma)) (Nat.le_trans hroom' (by decide)) Ha0 (by simp only [List.size_toArray]; omega) fun he tke T2 hke He hT2 hT20 => ?_)
    dsimp only
    have Kz := Ke.setRow (vs' := vr0 ++ [.ref T2]) (ps' := _ ++ [(pl[k].1, pl[k].2)]) (List.getElem?_eq_getElem hsa) Ha0 hke (by rw [List.push_toArray] at He; exact He) (sheet_snoc' (Sa0.keep1 Ha0 hke) hT2)
    refine wpAny_execs_nil ⟨⟨he, tke, vr, some (.str pl[k].2 ty), some (.str pl[k].1 tx), rfl, ?_⟩, ?_, ?_⟩
    · have et : pl.take (k + 1) = pl.take k ++ [(pl[k].1, pl[k].2)] := List.take_succ_eq_append_getElem hk'
      rw [et, rowsOf_snoc hsg]
      exact Kz.dropX
    · exact ⟨oj, (Kz.X _ (.head _)).1, hcj, hdj⟩
    · exact Kz.Ls _ (.head _)
  · rintro s' ⟨ha, tka, vr, vl, vc, rfl, Ka⟩
    dsimp only at Ka ⊢
    have hsz' : vsa.toArray.size = pl.length := by simp [Sb.1]
    rw [hsz', List.take_length] at Ka
    have hfl : (passOf (sgAt p) pl).length = pl.length := (passOf_perm fun x hx => (hgi x hx).sg).length_eq
    have := lay_rows (Q := Q) (tkf := tka) ho' C hroom hh Ka.dropL.dropS h12 (Nat.le_trans (Nat.le_of_eq hfl) hsz) (fun h' tk vr vl vc K' => done h' tk vr vl vc K')
    exact this

noncomputable def J3 (w : World) (s : Shared) (L P d q D : Addr) (wd : Int) (t5 : Tok) (vk vk3 : Option Value) (ts : Tok) (as : List Addr) (pts : List (Str × Str)) (i : Nat) (s' : Shared) : Prop :=
  ∃ h' tk vr vl vc vp, s' = { s with heap := h', toks := tk } ∧ Desk w s.heap h' L q (m5 P d q D wd t5 vk vk3 ts vr vl vc vp) as (passes_ pts wd i) (List.replicate 12 []) [] [(D, (as.map .ref).toArray)] []

theorem deal_rest {wd : Nat} (ho : (hd.heap_1 w.params).lookup 181 = some ⟨oc, od, .func (fnOf name qual params body scope dV kV doc pm an cdv ct), osl⟩)
    (C : Cx w mean mg mb s.heap) (hroom : A.depth ≤ 350) (hh : A.handled = none)
    (K : Desk w s.heap hf L q (m4 P d q D wd t5 vk vk3 ts) as pl (List.replicate 12 []) [] [(D, (as.map .ref).toArray)] []) (h12 : as.length = 12) (hsz : pl.length ≤ 20) (hw1 : wd ≤ 5)
    (hgd : ∀ x ∈ pl, ∀ j : Nat, (j : Int) < wd → GoodAt x (wd - 1 + (j : Int) * (-1)))
    (done : ∀ h' tk vs, s.heap.StaysIn h' → AccAt w h' q vs.toArray → Sheet h' vs (passes_ pl wd wd) → Q (.ret (.ref q)) { s with heap := h', toks := tk }) :
    wpAny (model PySem.Challenge.rw_yh0005_01.row.prog w) (A.deeper (envOf qual scope L 181 cdv)) (execs (body.drop 7) (envOf qual scope L 181 cdv)) Q (fun _ _ => False) { s with heap := hf, toks := tkf } := by
  have ho' := ho
  have hroom' : ∀ {e : Env}, (A.deeper e).depth ≤ 400 := fun {e} => Nat.le_trans (Nat.succ_le_succ hroom) (by decide)
  have X' := C.X
  have T' := C.T
  refine (fun (e2 : (hd.heap_1 w.params).lookup 181 = some ⟨_, _, .func (fnOf _ _ _ _ _ _ _ _ _ _ _ _), _⟩) => ?_) (by k_is)
  rw [ho] at e2
  injection e2 with e2
  injection e2 with e3 e4 e5 e6
  injection e5 with e5
  injection e5 with n1 n2 n3 n4 n5
  injection n4 with n4
  subst_vars
  clear ho
  have hL0 : s.heap.get? L = none := Heap.get?_none_of_le K.F.above
  refine wpAny_execs_cons ?_
  refine for_any ?_ (by intro _; rfl) PassesOwn.never
  have F' := K.F
  have N' : News s.heap L hf (allAt s.heap L hf) := allAt_news s.heap L hf
  k_steps
  rename_i h13 tk13 t13 u13 v13 hr13 F13 N13 k13
  have Kh := K.kb (by assumption) (by assumption) (by rfl)
  have hL13 : L < h13.objs.size := F13.ns.lt
  have h130 : s.heap.get? h13.objs.size = none := Heap.get?_none_of_le (Nat.le_trans F13.above (Nat.le_of_lt hL13))
  refine range_loop (n := wd) (J3 w s L P d q D wd t5 vk vk3 ts as pl) (down_size _) (down_small (by omega)) (by exact hh) hr13 ?_ ?_ ?_ ?_
  · intro h' tk hk
    exact ⟨h', tk, none, none, none, none, rfl, (Kh.keeps hk).names (fun y => n4_start _ rfl rfl rfl rfl y)⟩
  · rintro i s' h' tk st ⟨ha, tka, vr, vl, vc, vp, rfl, Ka⟩ hk
    exact ⟨h', tk, vr, vl, vc, vp, rfl, Ka.keepI ⟨_, _, st, rfl⟩ h130 (fun _ hp => nomatch hp) hk⟩
  · rintro i s' t hi ⟨ha, tka, vr, vl, vc, vp, rfl, Ka⟩ st
    have hpm := passes_perm hgd i (by omega)
    have Kb := Ka.addX (p := (h13.objs.size, _)) st ⟨_, rfl⟩
    refine wpAny_assign_Name (wpAny_storeName_local (by rfl) Kb.F.ns (fun hg hng hsg => ?_) (by rfl))
    have kg : ∀ b o, b ≠ L → ha.get? b = some o → hg.get? b = some o := fun b o hb e => hsg.extBut b o hb e
    have Fg : Fr s.heap L hg (m5 P d q D wd t5 vk vk3 ts vr vl vc (some (.int ((wd : Int) - 1 + (i : Int) * (-1)) t))) := fr_ext' ⟨hng, fun b o e => kg b o (fun q => by rw [q, hL0] at e; cases e) (Kb.F.keep b o e), Kb.F.above⟩ (fun y => n4_place _ _ _ _ _ _ y)
    have Kg := Kb.keepL Fg rfl kg
    refine wpAny_mono (deal_pass (s := s) (Q := fun f s₃ => f = .next ∧ J3 w s L P d q D wd t5 vk vk3 ts as pl (i + 1) s₃ ∧ IsRangeIter s₃.heap h13.objs.size ((wd : Int) - 1 + ((i + 1 : Nat) : Int) * (-1)) ((wd : Int) - ((i + 1 : Nat) : Int)) (-1))
        (tkf := tka + 1) ho' C hroom hh Kg h12 (by rw [hpm.length_eq]; exact hsz) (fun x hx => hgd x (hpm.mem_iff.mp hx) i (by omega)) (by omega) (by omega)
        (fun h' tk vr vl vc K' => ⟨rfl, ⟨h', tk, vr, vl, vc, _, rfl, K'.dropX⟩, (K'.X _ (.head _)).1⟩)) (fun f s₃ hq => ?_) (fun _ _ x => x)
    obtain ⟨rfl, hq1, hq2⟩ := hq
    exact ⟨hq1, hq2⟩
  · rintro s' ⟨ha, tka, vr, vl, vc, vp, rfl, Ka⟩
    dsimp only
    have F' := Ka.F
    have N' : News s.heap L ha (allAt s.heap L ha) := allAt_news s.heap L ha
    obtain ⟨vs, Ha, Sa⟩ := Ka.H
    k_steps
    exact done _ _ vs (Fr.keep (by assumption)) Ha Sa
end
end Mine
end

section
open PySem PySem.W PyProof.Rows PySem.Calls
set_option maxRecDepth 100000
set_option maxHeartbeats 8000000
namespace Mine
/-! No rule of the walker takes these calls: it stops ahead of them at once. -/
local macro_rules | `(tactic| k_steps) => `(tactic| repeat' (first | (k_unfold; (try dsimp only)) | (k_end; wrow_close) | ((fail_if_success (with_reducible show wpAny _ _ (getMethod _ _ _) _ _ _)); walk1) | (dsimp only; (fail_if_success (with_reducible show wpAny _ _ (getMethod _ _ _) _ _ _)); walk1) | (leave1; try dsimp only) | fail "no step"))
theorem fillDealt (P : Params) : PySem.Challenge.rw_yh0005_01 = PySem.Challenge.rw_yh0005_01 → hd.heap_1 P = hd.heap_1 P := by
  k_fill
  intro _
  rfl


theorem dictOf_at {prog : Program} {w : World} {h h' : Heap} {d : Addr} {kvs : List (Int × Value)} (hd : h.DictOf (intKind prog w) d kvs) (hk : ∀ o, h.get? d = some o → h'.get? d = some o) : h'.DictOf (intKind prog w) d kvs :=
  let ⟨o, es, ep, ho, r⟩ := hd; ⟨o, es, ep, hk _ ho, r⟩

theorem news2 {h₀ h : Heap} {L a b : Addr} {x y : Obj} (h1 : h.get? a = some x ∧ a ≠ L ∧ h₀.get? a = none) (h2 : h.get? b = some y ∧ b ≠ L ∧ h₀.get? b = none) : News h₀ L h [(a, x), (b, y)] := fun p hp => by
  rcases List.mem_cons.mp hp with rfl | hp
  · exact h1
  · rw [List.mem_singleton.mp hp]; exact h2

noncomputable def J2 (w : World) (s : Shared) (L P d q : Addr) (wd : Int) (t5 : Tok) (vk0 : Option Value) (kvs : List (Int × Value)) (pt : List (Str × Str)) (i : Nat) (s' : Shared) : Prop :=
  ∃ h' tk vk vs, s' = { s with heap := h', toks := tk } ∧ Fr s.heap L h' (bindM (m2 P d q wd t5 vk0) (Str.ofString "k") vk) ∧ h'.DictOf (intKind PySem.Challenge.rw_yh0005_01.row.prog w) d kvs ∧ AccAt w h' q vs.toArray ∧ Sheet h' vs (pt.take i)

theorem none_under {h₀ h : Heap} {a : Addr} (k : h₀.StaysIn h) (e : h.get? a = none) : h₀.get? a = none := by
  cases q : h₀.get? a with
  | none => rfl
  | some o => rw [k _ _ q] at e; cases e
theorem dict_ne_acc {prog : Program} {w : World} {h : Heap} {d q : Addr} {kvs : List (Int × Value)} {items : Array Value} (D : h.DictOf (intKind prog w) d kvs) (H : AccAt w h q items) : d ≠ q := by
  rintro rfl
  obtain ⟨o, es, ep, ho, _, hd, _⟩ := D
  obtain ⟨_, _, _, _, h1, _⟩ := H
  rw [ho] at h1; cases h1; cases hd
theorem sheet_snoc {h : Heap} {vs : List Value} {ps : List (Str × Str)} {T : Addr} {x y : Str} {t u : Tok} (S : Sheet h vs ps) (e : h.get? T = some { cls := .type "tuple", data := .seq #[.str x t, .str y u] }) : Sheet h (vs ++ [.ref T]) (ps ++ [(x, y)]) := by
  refine ⟨by simp [S.1], fun j x' y' e' => ?_⟩
  by_cases hj : j < ps.length
  · rw [List.getElem?_append_left hj] at e'
    obtain ⟨T', t', u', h1, h2⟩ := S.2 j x' y' e'
    exact ⟨T', t', u', by rw [List.getElem?_append_left (by rw [S.1]; exact hj)]; exact h1, h2⟩
  · rw [List.getElem?_append_right (Nat.le_of_not_lt hj)] at e'
    have hj' : j - ps.length = 0 := by
      rcases Nat.eq_zero_or_pos (j - ps.length) with h0 | h0
      · exact h0
      · rw [List.getElem?_eq_none (by simp; omega)] at e'; cases e'
    rw [hj'] at e'
    cases e'
    refine ⟨T, t, u, ?_, _, e, rfl, _, rfl⟩
    rw [List.getElem?_append_right (by rw [S.1]; omega), S.1, hj']
    rfl
theorem take_parts {ps : List (Option Int)} {wide : Int} {i : Nat} (h : i < ps.length) : (parts ps wide).take (i + 1) = (parts ps wide).take i ++ [(colOf ps[i] wide, letOf i)] := by
  have h' : i < (parts ps wide).length := by rw [parts_len]; exact h
  rw [List.take_succ_eq_append_getElem h']
  congr 1
  have := parts_at ps wide h
  rw [List.getElem?_eq_getElem h'] at this
  injection this with e
  rw [e]

theorem fr_ext {h₀ h : Heap} {L : Addr} {m m' : Str → Option Value} (F : Fr h₀ L h m) (e : ∀ y, m y = m' y) : Fr h₀ L h m' := (funext e : m = m') ▸ F
theorem list_keepI {h h' : Heap} {l I : Addr} {items : Array Value} (H : h.IsList l items) (hI : FldAt h I) (hk : ∀ b o, b ≠ I → h.get? b = some o → h'.get? b = some o) : h'.IsList l items :=
  H.at fun o e => hk _ o (by
    rintro rfl
    obtain ⟨o1, fs, e1, e2⟩ := hI
    obtain ⟨o2, e3, _, n, e4⟩ := H
    rw [e1] at e3; cases e3; rw [e4] at e2; cases e2) e

theorem dealt_spec (w : World) {A : Around} {s : Shared} {R : Result → Shared → Prop} {mean : ExcName → Option Value} {mg mb : Str → Option Value} {P : Addr} {items : List Value} {ps : List (Option Int)}
    (C : Cx w mean mg mb s.heap) (hroom : A.depth ≤ 350) (hh : A.handled = none) (hl : s.heap.IsList P items.toArray) (hc : Paired isPort ps items) (hsz : ps.length ≤ 20) (hb : ∀ p, some p ∈ ps → 0 ≤ p ∧ p < 100000)
    (hgd : ∀ x ∈ parts ps (wideOf ps), ∀ j : Nat, (j : Int) < wideOf ps → GoodAt x (wideOf ps - 1 + (j : Int) * (-1)))
    (h : ∀ h' tk q vs, s.heap.StaysIn h' → AccAt w h' q vs.toArray → Sheet h' vs (passes_ (parts ps (wideOf ps)) (wideOf ps) (wideOf ps).toNat) → s.heap.get? q = none → R (.ok (.ret (.ref q))) { s with heap := h', toks := tk }) :
    codeAny (model PySem.Challenge.rw_yh0005_01.row.prog w) A (.call (.ref 181) ⟨[.ref P], []⟩) R s := by
  have hroom' : ∀ {e : Env}, (A.deeper e).depth ≤ 400 := fun {e} => Nat.le_trans (Nat.succ_le_succ hroom) (by decide)
  have X' := C.X
  refine' enter (binds := [(Str.ofString "ports", .ref P)]) C (fun _ _ e => e) (Nat.le_refl _) ?k1 ?k2 (Nat.lt_of_le_of_lt hroom (by decide)) ?k3 ?k4 ?k5 ?k6 ?k7 ?k8 ?_
  (case k1 => k_is)
  (case k2 => k_is)
  (case k3 => exact BindsTo.of_eq rfl)
  (case k4 => exact locs rfl)
  (case k5 => decide)
  (case k6 => exact rfl)
  (case k7 => exact rfl)
  (case k8 => exact rfl)
  intro L h₁ hL F' hk₁
  have N' : News s.heap L h₁ [] := News.nil
  have T' := C.T
  (try dsimp only)
  (try k_fold)
  repeat' ((fail_if_success (with_reducible show wpAny _ _ (exec (Stmt.For _ _ _ _ _) _) _ _ _)); walk1)
  rename_i d h_ o lo hs fs hi fi l1 h2 F2 N2
  have hn : items.length = ps.length := hc.length.symm
  have F2 : Fr s.heap L h2 (m1 P d) := F2
  have hd2 : h2.DictOf (intKind PySem.Challenge.rw_yh0005_01.row.prog w) d (tab items 0) := Heap.dictOf_iff.mpr ⟨o, N2.get (.head _), hi⟩
  have hdL : d ≠ L := (N2 _ (.head _)).2.1
  have hd0 : s.heap.get? d = none := (N2 _ (.head _)).2.2
  clear hs fs fi
  refine for_any ?_
  k_steps
  refine len_list (hl.at fun o e => F2.keep _ o e) (by simp only [List.size_toArray]; omega) ?_
  simp only [List.size_toArray, hn]
  k_steps
  rename_i h3 tk3 t₁ u₁ v₁ hr3 F3 N3 k3
  have F3 : Fr s.heap L h3 (m1 P d) := F3
  have hL3 : L < h3.objs.size := F3.ns.lt
  have h30 : s.heap.get? h3.objs.size = none := Heap.get?_none_of_le (Nat.le_trans F3.above (Nat.le_of_lt hL3))
  have hd3 : d < h3.objs.size := by
    obtain ⟨o', _, _, e, _⟩ := dictOf_keeps hd2 k3
    exact Heap.lt_size e
  refine range_loop (n := ps.length) (fun i s' => ∃ h' tk vk, s' = { s with heap := h', toks := tk } ∧ Fr s.heap L h' (bindM (m1 P d) (Str.ofString "k") vk) ∧ h'.DictOf (intKind PySem.Challenge.rw_yh0005_01.row.prog w) d (tab items i)) (up_size _) (up_small (by omega)) (by exact hh) hr3 ?_ ?_ ?_ ?_
  · intro h' tk hk
    refine ⟨h', tk, _, rfl, (bindM_start (m1 P d) (Str.ofString "k")) ▸ fr_up F3 hk, dictOf_keeps hd2 fun b o e => hk _ _ (k3 _ _ e)⟩
  · rintro i s' h' tk _ ⟨h5, tk5, vk, rfl, F5, D5⟩ hk
    exact ⟨h', tk, vk, rfl, off_fr F5 hk (Nat.ne_of_lt hL3) h30, dictOf_at D5 fun o e => hk _ o (Nat.ne_of_lt hd3) e⟩
  · rintro i s' t hi ⟨h5, tk5, vk, rfl, F5, D5⟩ st
    obtain ⟨o5, ho5, hd5⟩ := Heap.dictOf_iff.mp D5
    have N5 : News s.heap L h5 [(h3.objs.size, _), (d, o5)] := news2 ⟨st, Nat.ne_of_gt hL3, h30⟩ ⟨ho5, hdL, hd0⟩
    k_steps
    have hi' : i < items.length := by omega
    have ei : (0 + (i : Int) * 1).toNat = i := by omega
    refine item_listL (x := items[i]) (hl.at fun o e => (Fr.keep (by assumption)) _ o e) (by omega) (by omega) (by rw [ei]; exact List.getElem?_eq_getElem hi') ?_
    dsimp only
    k_steps
    refine wpAny_setItem_pairs (knd := intKind PySem.Challenge.rw_yh0005_01.row.prog w) (k := 2 * (i : Int)) (kvs := tab items i) (by simp [intKind, Value.isInt]) (Heap.dictOf_iff.mpr ⟨o5, News.get (by assumption : News s.heap L _ [(h3.objs.size, _), (d, o5)]) (.tail _ (.head _)), hd5⟩) ?_ (Nat.le_trans (tab_len _ _) (by rw [hn]; exact Nat.le_trans hsz (by decide)))
    intro h7 hd7 hs7
    rw [stored_absent tab_absent, ← tab_succ hi'] at hd7
    refine wpAny_execs_nil ?_
    have F7 := off_fr (by assumption : Fr s.heap L _ _) (fun b o hb e => hs7.extBut b o hb e) hdL.symm hd0
    refine ⟨⟨h7, _, _, rfl, bindM_bind (m := m1 P d) (x := Str.ofString "k") (vl := vk) ▸ F7, hd7⟩, ?_⟩
    exact hs7.extBut _ _ (Nat.ne_of_gt hd3) (News.get (by assumption : News s.heap L _ [(h3.objs.size, _), (d, o5)]) (.head _))
  · rintro s' ⟨h4, tk4, vk, rfl, F4, D4⟩
    dsimp only
    k_steps
    have hc4 : Paired isPort ps ((tab items ps.length).map (·.2)) := by
      rw [tab_snd, ← hn, List.take_length]; exact hc
    refine wpAny_call (line_spec w (C.keeps F4.keep) (Nat.le_trans (Nat.succ_le_succ hroom) (by decide)) (by exact hh) lo D4 hc4 (Nat.le_trans hsz (by decide)) hb fun h5 tk5 t5 hk5 => ?_)
    dsimp only
    have F5 : Fr s.heap L h5 (bindM (m1 P d) (Str.ofString "k") vk) := fr_up F4 hk5
    have D5 := dictOf_keeps D4 hk5
    clear D4
    have N5 : News s.heap L h5 (allAt s.heap L h5) := allAt_news _ _ _
    have kb5 := @kept_same _ _ _ _ F5
    k_steps
    refine wpAny_call (make_spec w (C.keeps (Fr.keep (by assumption))) hroom' fun h7 tk7 q hk7 H7 hq7 => ?_)
    dsimp only
    have kp6 := kb5 (by assumption) (by assumption)
    have F7 := fr_up (by assumption : Fr s.heap L _ _) hk7
    have kb7 := @kept_same _ _ _ _ F7
    have hq0 : s.heap.get? q = none := none_under (Fr.keep (by assumption)) hq7
    have hini : (bindM (m1 P d) (Str.ofString "k") vk) (Str.ofString "_initial_size") = none := by
      unfold bindM; rfl
    have H7' := fun h' => @AccAt.keepL _ _ _ h' _ _ _ _ H7 F7 hini
    have D7 : h7.DictOf (intKind PySem.Challenge.rw_yh0005_01.row.prog w) d (tab items ps.length) := dictOf_at D5 fun o e => hk7 _ _ (kp6 _ _ hdL e)
    have N7 : News s.heap L h7 (allAt s.heap L h7) := allAt_news _ _ _
    repeat' ((fail_if_success (with_reducible show wpAny _ _ (exec (Stmt.For _ _ _ _ _) _) _ _ _)); walk1)
    rename_i h8 F8 N8
    have F8 : Fr s.heap L h8 (m2 P d q (wideOf ps) t5 vk) := F8
    have kp8 := kb7 F8 (by assumption)
    have H8 := H7' _ kp8
    have D8 := dictOf_at D7 (kp8 _ · hdL)
    refine for_any ?_
    k_steps
    refine len_list (hl.at fun o e => (Fr.keep (by assumption)) _ o e) (by simp only [List.size_toArray]; omega) ?_
    simp only [List.size_toArray, hn]
    k_steps
    rename_i h9 tk9 t₁ u₁ v₁ hr9 F9 N9 k9
    clear F8
    have F9 : Fr s.heap L h9 (m2 P d q (wideOf ps) t5 vk) := F9
    have hL9 : L < h9.objs.size := F9.ns.lt
    have h90 : s.heap.get? h9.objs.size = none := Heap.get?_none_of_le (Nat.le_trans F9.above (Nat.le_of_lt hL9))
    have H9 := H8.keeps k9
    have D9 := dictOf_keeps D8 k9
    have hd9 : d < h9.objs.size := by
      obtain ⟨o', _, _, e, _⟩ := D9
      exact Heap.lt_size e
    have hq9 : q < h9.objs.size := by
      obtain ⟨_, _, _, _, e, _⟩ := H9
      exact Heap.lt_size e
    --L2B--
    refine range_loop (n := ps.length) (J2 w s L P d q (wideOf ps) t5 vk (tab items ps.length) (parts ps (wideOf ps))) (up_size _) (up_small (by omega)) (by exact hh) hr9 ?_ ?_ ?_ ?_
    · intro h' tk hk
      exact ⟨h', tk, _, [], rfl, (bindM_start (m2 P d q (wideOf ps) t5 vk) (Str.ofString "k")) ▸ fr_up F9 hk, dictOf_keeps D9 hk, H9.keeps hk, ⟨rfl, fun j x y e => by simp at e⟩⟩
    · rintro i s' h' tk st ⟨h5, tk5, vk2, vs, rfl, Fa, Da, Ha, Sa⟩ hk
      have hI : FldAt h5 h9.objs.size := ⟨_, _, st, rfl⟩
      exact ⟨h', tk, vk2, vs, rfl, off_fr Fa hk (Nat.ne_of_lt hL9) h90, dictOf_at Da (hk _ · (Nat.ne_of_lt hd9)), Ha.keepI hI hk, Sa.keepI hI hk⟩
    · rintro i s' t hi ⟨ha, tka, vk2, vs, rfl, Fa, Da, Ha, Sa⟩ st
      have Na := allAt_news s.heap L ha
      have kba := @kept_same _ _ _ _ Fa
      have hinia : (bindM (m2 P d q (wideOf ps) t5 vk) (Str.ofString "k") vk2) (Str.ofString "_initial_size") = none := by unfold bindM; rfl
      have Ha' := fun h' => @AccAt.keepL _ _ _ h' _ _ _ _ Ha Fa hinia
      have Sa' := fun h' => @Sheet.keepL _ _ h' _ _ _ _ Sa Fa
      k_steps
      have kpb := kba (by assumption) (by assumption)
      obtain ⟨dq, nq, tq, uq, Iq⟩ := (Ha' _ kpb).inst
      refine method_acc (C.keeps (Fr.keep (by assumption))).X Iq (find_push _) (by kernel_rfl) (.inl rfl) (look_ini (by decide)) ?_
      dsimp only
      k_steps
      have hi' : i < items.length := by omega
      have Dab : Heap.DictOf (intKind PySem.Challenge.rw_yh0005_01.row.prog w) _ d (tab items ps.length) := dictOf_at Da (kpb _ · hdL)
      refine subscriptTail_builtin Dab.typeIs slot_dict_getitem.lookup (wpAny_getItem_of (knd := intKind PySem.Challenge.rw_yh0005_01.row.prog w) (k := 2 * (i : Int)) (v := items[i]) (by simp [intKind, Value.isInt]) Dab.mapOf (tab_at hi (by omega) hi') ?_)
      dsimp only
      k_steps
      refine wpAny_call (col_port w (C.keeps (Fr.keep (by assumption))) (Nat.le_trans hroom' (by decide)) (wide_bounds ps).1 (Int.le_trans (wide_bounds ps).2 (by decide)) (port_at hc hi hi') (fun p e => hb p (e ▸ List.getElem_mem hi)) fun hc1 tkc tc hkc => ?_)
      dsimp only
      have kpc : ∀ b o, b ≠ L → ha.get? b = some o → hc1.get? b = some o := fun b o hb e => hkc b o (kpb b o hb e)
      have Fc := fr_up (by assumption) hkc
      have Nc := allAt_news s.heap L hc1
      k_steps
      have Hc := Ha' hc1 kpc
      have Sc := Sa' hc1 kpc
      have Dc : Heap.DictOf (intKind PySem.Challenge.rw_yh0005_01.row.prog w) hc1 d (tab items ps.length) := dictOf_at Da (kpc _ · hdL)
      have hLq : L ≠ q := (acc_neL Fc Hc).symm
      have hdq : d ≠ q := dict_ne_acc Dc Hc
      have hvs : vs.length ≤ 20 := by
        rw [Sc.1, List.length_take]
        exact Nat.le_trans (Nat.min_le_left _ _) (by omega)
      refine wpAny_call (push_spec w (C.off Fc.keep hq0) (Nat.le_trans hroom' (by decide)) Hc (by simp only [List.size_toArray]; omega) fun hp tkp qp hkp Hp hqp hqp0 => ?_)
      dsimp only
      have hkq : ∀ b o, b ≠ q → hc1.get? b = some o → hp.get? b = some o := fun b o hb e => hkp b o (by rw [Heap.hide_ne _ hb]; exact e)
      refine wpAny_execs_nil ⟨⟨hp, tkp, _, vs ++ [.ref qp], rfl, bindM_bind (m := m2 P d q (wideOf ps) t5 vk) (x := Str.ofString "k") (vl := vk2) ▸ off_fr Fc hkq hLq hq0, dictOf_at Dc (hkq _ · hdq), ?_, ?_⟩, ?_⟩
      · rw [List.push_toArray] at Hp; exact Hp
      · rw [take_parts hi]
        refine sheet_snoc (Sc.keep1 Hc hkp) (t := tc) (u := tkc + 1 + 1) ?_
        rw [hqp]
        have e1 : (97 + (0 + (i : Int) * 1)).toNat = 97 + i := by omega
        rw [e1]
        rfl
      · exact hkq _ _ (Nat.ne_of_gt hq9) (kpc _ _ (Nat.ne_of_gt hL9) st)
    · rintro s' ⟨h10, tk10, vk3, vs, rfl, F10, D10, H10, S10⟩
      --L2E--
      dsimp only
      have N10 := allAt_news s.heap L h10
      have kb10 := @kept_same _ _ _ _ F10
      have hini10 : (bindM (m2 P d q (wideOf ps) t5 vk) (Str.ofString "k") vk3) (Str.ofString "_initial_size") = none := by unfold bindM; rfl
      have H10' := fun h' => @AccAt.keepL _ _ _ h' _ _ _ _ H10 F10 hini10
      have S10' := fun h' => @Sheet.keepL _ _ h' _ _ _ _ S10 F10
      clear H10 S10 D10
      repeat' ((fail_if_success (with_reducible show wpAny _ _ (exec (Stmt.Assign _ (Expr.ListComp _ _ _ _) _) _) _ _ _)); walk1)
      rename_i h11 F11 N11
      have kp11 := kb10 F11 N11
      have F11 : Fr s.heap L h11 (m3 P d q (wideOf ps) t5 vk vk3 _) := F11
      refine assign_comp_made (by rfl) (by decide) (by decide) (by rfl) (by decide) (by rfl) (by rfl) (by rfl) (by decide) ?_
      k_steps
      have H11 := H10' _ kp11
      obtain ⟨_, _, _, _, hq11, _⟩ := id H11
      have S11 := S10' _ kp11
      have hini11 : (m3 P d q (wideOf ps) t5 vk vk3 0) (Str.ofString "_initial_size") = none := hini10
      have k12 : ∀ x, h11.StaysIn (h11.push x) := fun x b o e => Heap.get?_push_of_some _ e
      have hL11 : L < h11.objs.size := F11.ns.lt
      refine wpAny_pyIter_ascii (by decide +kernel) ?_
      refine ⟨_, _, _, _, _, _, rfl, Walks.strAscii (by exact hh) _ _ _, (by decide +kernel), ⟨_, Heap.get?_push_size _ rfl, rfl, rfl⟩, ?_, ?_, Nat.ne_of_lt hL11, (fr_up F11 (k12 _)).ns, hini11, ?_, ?_⟩
      · intro b hb
        rw [List.mem_singleton.mp hb]
        show h11.objs.size < (h11.push _).objs.size
        rw [Heap.size_push]
        exact Nat.lt_succ_self _
      · rintro i h ⟨o, ho, _, hd⟩
        exact ⟨o, _, ho, hd⟩
      · exact elt_makes C hroom' (Heap.get?_none_of_le (Nat.le_trans F11.above (Nat.le_of_lt hL11))) (fun b o e => k12 _ _ _ (F11.keep _ _ e)) rfl rfl (fun _ => rfl)
      · intro D h12 tk12 ys hD hpl hM hlen hns hk
        have kp12 : ∀ b o, b ≠ L → h11.get? b = some o → h12.get? b = some o := fun b o hb e => hk b o hb (Nat.ne_of_lt (Heap.lt_size e)) (k12 _ _ _ e)
        have hsL : s.heap.get? L = none := Heap.get?_none_of_le F11.above
        have F12 : Fr s.heap L h12 (m4 P d q D (wideOf ps) t5 vk vk3 _) := ⟨hns, fun b o e => kp12 b o (fun h => by rw [h, hsL] at e; cases e) (F11.keep _ _ e), F11.above⟩
        have H12 := H11.keepL F11 hini11 kp12
        have S12 := S11.keepL F11 kp12
        clear H11 S11 N11
        dsimp only
        obtain ⟨wd, hwd⟩ := Int.eq_ofNat_of_zero_le (wide_bounds ps).1
        have hwd5 : wd ≤ 5 := by have := (wide_bounds ps).2; omega
        obtain ⟨as, rfl, nd, has, hM13⟩ := RowsAt.made (hM.imp fun a Ha => Ha)
        have has12 : as.length = 12 := by rw [List.length_map] at hlen; exact hlen
        have hqas : q ∉ as := fun hm => by
          have := has q hm
          rw [show Heap.get? _ q = _ from k12 _ _ _ hq11] at this
          cases this
        have hasg : ∀ a ∈ as, s.heap.get? a = none := fun a ha => none_under (fun b o e => k12 _ _ _ (F11.keep _ _ e)) (has a ha)
        rw [has12] at hM13
        have htake : (parts ps (wideOf ps)).take ps.length = parts ps (wideOf ps) := by rw [List.take_of_length_le (by rw [parts_len]; exact Nat.le_refl _)]
        rw [htake] at S12
        have K12 : Desk w s.heap h12 L q (m4 P d q D (wideOf ps) t5 vk vk3 tk10) as (parts ps (wideOf ps)) (List.replicate 12 []) [] [(D, (as.map PySem.Value.ref).toArray)] [] :=
          { F := F12, ini := by unfold m4; exact hini11, H := ⟨vs, H12, S12⟩, M := hM13, X := (fun _ hp => nomatch hp), Ls := (fun p hp => by rw [List.mem_singleton.mp hp]; exact hpl.isList), S := (fun _ hp => nomatch hp),
            nd := nd, qas := hqas, q0 := hq0, as0 := hasg }
        rw [hwd] at K12 hgd h
        refine wpAny_noRaise ?_
        refine deal_rest (s := s) (wd := wd) (by k_is) C hroom hh K12 has12 (by rw [parts_len]; exact hsz) hwd5 hgd (fun h' tk vs hk Hv Sv => ?_)
        exact h _ _ _ vs hk Hv Sv hq0
end Mine
end

section
open PySem PySem.W PyProof.Rows PySem.Calls
set_option maxRecDepth 100000
set_option maxHeartbeats 8000000
namespace Mine
theorem fillRight6 (P : Params) : PySem.Challenge.rw_yh0005_01 = PySem.Challenge.rw_yh0005_01 → hd.heap_1 P = hd.heap_1 P := by
  k_fill
  intro _
  rfl

section
variable {w : World} {A : Around} {s : Shared} {base : Heap} {outer : List Env} {mean : ExcName → Option Value} {mg mb : Str → Option Value} {g : Heap}
  {name qual : Str} {params : Arguments} {body : List Stmt} {scope : Scope} {dV kV doc pm cdv ct oc : Value} {an od : Option Addr} {osl : Array (Option Value)}
  {L Dp Pp : Addr} {hf : Heap} {tkf : Nat} {Q : Flow → Shared → Prop} {m : Str → Option Value} {vs : List Value} {pp : List (Str × Str)} {ps : List (Option Int)} {tsh : Tok}

/-- the two code tables that the text's own generator expressions fill -/
noncomputable def Tabs (h : Heap) : Prop := TabOk h 62 ∧ TabOk h 69

theorem tab_data {h : Heap} {a : Addr} (T : TabOk h a) : ∃ ps, h.get? a = some (tabObj ps) := let ⟨ps, e, _⟩ := T; ⟨ps, e⟩
theorem AccAt.keepT {h h' : Heap} {a b : Addr} {items : Array Value} (H : AccAt w h a items) (T : TabOk h b) (hk : ∀ x o, x ≠ b → h.get? x = some o → h'.get? x = some o) : AccAt w h' a items := by
  obtain ⟨d, n, t, u, h1, h2⟩ := H
  obtain ⟨ps, e⟩ := tab_data T
  refine ⟨d, n, t, u, hk _ _ ?_ h1, hk _ _ ?_ h2⟩
  · rintro rfl; rw [e] at h1; cases h1
  · rintro rfl; rw [e] at h2; cases h2
theorem Sheet.keepT {h h' : Heap} {b : Addr} {vs : List Value} {ps : List (Str × Str)} (S : Sheet h vs ps) (T : TabOk h b) (hk : ∀ x o, x ≠ b → h.get? x = some o → h'.get? x = some o) : Sheet h' vs ps :=
  S.on fun x hx o e => hk x o (by
    rintro rfl
    obtain ⟨o', e', hc⟩ := S.lt x hx
    obtain ⟨ps, e2⟩ := tab_data T
    rw [e2] at e'
    cases e'
    cases hc) e
theorem plain_keepT {h h' : Heap} {l b : Addr} {items : Array Value} (H : PlainL h l items) (T : TabOk h b) (hk : ∀ x o, x ≠ b → h.get? x = some o → h'.get? x = some o) : PlainL h' l items :=
  plain_at H fun o e => hk _ o (by
    rintro rfl
    obtain ⟨ps, e2⟩ := tab_data T
    obtain ⟨o2, n, e3, hc, _⟩ := H
    rw [e2] at e3; cases e3; cases hc) e

theorem right_6 (ho : (hd.heap_1 w.params).lookup 191 = some ⟨oc, od, .func (fnOf name qual params body scope dV kV doc pm an cdv ct), osl⟩)
    (C : Cx w mean mg mb g) (hh : A.handled = none) (hroom : A.depth ≤ 310) (hu : A.units ≤ 1000) (F : Fr g L hf m) (hmp : m (Str.ofString "parts") = some (.ref Dp)) (hms : m (Str.ofString "shown") = some (.str (shownOf pp) tsh)) (hmi : m (Str.ofString "_initial_size") = none)
    (hDp : PlainL hf Dp vs.toArray) (hS : Sheet hf vs pp) (hDpL : Dp ≠ L) (hSh : Short pp) (h20 : pp.length ≤ 20) {v2 : Option Value} (hC : Cells2 hf L (some (.ref Pp)) v2) (hP : Ports hf Pp ps) (hp20 : ps.length ≤ 20)
    (hgd : ∀ x ∈ parts ps (wideOf ps), ∀ j : Nat, (j : Int) < wideOf ps → GoodAt x (wideOf ps - 1 + (j : Int) * (-1)))
    (hpass : passes_ (parts ps (wideOf ps)) (wideOf ps) (wideOf ps).toNat = pp ∧ True)
    (hsum : preSum (lenOf pp) pp.length = (shownOf pp).length) (hshl : (shownOf pp).length ≤ 10000)
    (hT : Tabs hf) (h62 : g.get? 62 = none) (h69 : g.get? 69 = none) (hL : 69 < L) (hB : AllBare s.gens)
    (done : ∀ s' q vq, s'.os = s.os → AllBare s'.gens → Fr g L s'.heap (fun z => if z = Str.ofString "sheet" then some (.ref q) else m z) → AccAt w s'.heap q vq.toArray → Sheet s'.heap vq pp → g.get? q = none → Tabs s'.heap →
      (∀ b o, b ≠ L → b ≠ 62 → b ≠ 69 → hf.get? b = some o → s'.heap.get? b = some o) → Q .next s') :
    wpAny (model PySem.Challenge.rw_yh0005_01.row.prog w) (A.deeper (envOfC qual scope L 191 cdv)) (execs ((body.drop 8).take 3) (envOfC qual scope L 191 cdv)) Q (fun _ _ => False) { s with heap := hf, toks := tkf } := by
  have hroom' : ∀ {e : Env}, (A.deeper e).depth ≤ 311 := fun {e} => Nat.succ_le_succ hroom
  refine (fun (e2 : (hd.heap_1 w.params).lookup 191 = some ⟨_, _, .func (fnOf _ _ _ _ _ _ _ _ _ _ _ _), _⟩) => ?_) (by k_is)
  rw [ho] at e2
  injection e2 with e2
  injection e2 with e3 e4 e5 e6
  injection e5 with e5
  injection e5 with n1 n2 n3 n4 n5
  injection n4 with n4
  subst_vars
  clear ho
  refine wpAny_execs_cons ?_
  have X' := C.X
  have T' := C.T
  have F' := F
  have hg1 : g.get? (L + 1) = none := Heap.get?_none_of_le (Nat.le_trans F.above (Nat.le_succ L))
  have hg2 : g.get? (L + 2) = none := Heap.get?_none_of_le (Nat.le_trans F.above (Nat.le_add_right L 2))
  have hn1 : L + 1 ≠ L := Nat.ne_of_gt (Nat.lt_succ_self L)
  have hn2 : L + 2 ≠ L := Nat.ne_of_gt (Nat.lt_succ_of_lt (Nat.lt_succ_self L))
  obtain ⟨⟨oc1, hoc1, hdc1⟩, ⟨oc2, hoc2, hdc2⟩⟩ := id hC
  have N' : News g L hf ((L + 1, oc1) :: (L + 2, oc2) :: allAt g L hf) := news2a ⟨hoc1, hn1, hg1⟩ ⟨hoc2, hn2, hg2⟩ (allAt_news g L hf)
  have kb0 := @kept_same _ _ _ _ F
  obtain ⟨items, hli, hpi⟩ := hP.ex
  have hPb := hP.bound
  k_steps
  refine wpAny_call (dealt_spec w (C.keeps F.keep) (Nat.le_trans hroom' (by decide)) (by exact hh) hli.isList hpi hp20 hPb hgd fun h1 tk1 q vq hk1 hq hSq hq0 => ?_)
  dsimp only
  rw [hpass.1] at hSq
  have hL0 : g.get? L = none := kts_self F
  have F1 : Fr g L h1 m := ⟨F.ns.keeps hk1, fun b o e => hk1 _ _ (F.keep b o e), F.above⟩
  refine wpAny_storeName_local (by rfl) F1.ns (fun h2 hn2 hs2 => ?_) (by rfl)
  have k12 : ∀ b o, b ≠ L → h1.get? b = some o → h2.get? b = some o := fun b o hb e => hs2.extBut b o hb e
  have k2 : ∀ b o, b ≠ L → hf.get? b = some o → h2.get? b = some o := fun b o hb e => k12 _ _ hb (hk1 _ _ e)
  have F2 : Fr g L h2 (fun z => if z = Str.ofString "sheet" then some (.ref q) else m z) := ⟨hn2, fun b o e => k12 b o (fun q => by rw [q, hL0] at e; cases e) (F1.keep b o e), F.above⟩
  have hq2 : AccAt w h2 q vq.toArray := hq.keepL F1 hmi k12
  have hSq2 : Sheet h2 vq pp := hSq.keepL F1 k12
  have hqg : g.get? q = none := by
    cases e : g.get? q with
    | none => rfl
    | some o => rw [F.keep _ _ e] at hq0; cases hq0
  have hT2 : Tabs h2 := ⟨hT.1.keeps fun o e => k2 _ _ (Nat.ne_of_lt (Nat.lt_trans (by decide) hL)) e, hT.2.keeps fun o e => k2 _ _ (Nat.ne_of_lt hL) e⟩
  have hDp2 : PlainL h2 Dp vs.toArray := plain_at hDp fun o e => k2 _ _ hDpL e
  have hms2 : (fun z => if z = Str.ofString "sheet" then some (Value.ref q) else m z) (Str.ofString "shown") = some (.str (shownOf pp) tsh) := hms
  have hmp2 : (fun z => if z = Str.ofString "sheet" then some (Value.ref q) else m z) (Str.ofString "parts") = some (.ref Dp) := hmp
  clear hmp hms hmi
  generalize hm' : (fun z => if z = Str.ofString "sheet" then some (Value.ref q) else m z) = m' at F2 hms2 hmp2
  have hmq : m' (Str.ofString "sheet") = some (.ref q) := by rw [← hm']; simp
  dsimp only
  refine wpAny_execs_cons (wpAny_If (wpAny_isTrue_Compare1 ?_))
  obtain ⟨dq, nq, tq, uq, Iq⟩ := hq2.inst
  have C2 : Cx w mean mg mb h2 := C.keeps F2.keep
  have F' := F2
  have N' : News g L h2 (allAt g L h2) := allAt_news g L h2
  k_steps
  refine name_local' F2.ns hmq ?_ (by exact rfl) (by kernel_rfl) (by decide)
  refine args_nil ?_
  have h9 : cLine = 9900 := rfl
  refine kso_call (by rw [Around.in1_units, Around.in1_units, Around.deeper_units]; omega) C2.X Iq (find_str _) (by kernel_rfl) ?_
  refine wpAny_call (str_spec w (C.off F2.keep h69) (show A.depth + 1 ≤ 400 by omega) (by exact hh) hq2 hSq2 hSh hT2.2 hB fun s3 t3 hk3 hT3 hB3 hos3 => ?_)
  dsimp only [StrBack]
  have k3 : ∀ b o, b ≠ 69 → h2.get? b = some o → s3.heap.get? b = some o := fun b o hb e => hk3 b o (by rw [Heap.hide_ne _ hb]; exact e)
  have F3 : Fr g L s3.heap m' := off_fr' F2 k3 (Nat.ne_of_gt hL) h69
  refine name_local' F3.ns hms2 ?_ (by exact rfl) (by kernel_rfl) (by decide)
  refine SeqAt.RcNeAt.str_str _ _ _ _ _ _ _ _ ?_
  have e0 : (!(Txt.join (Str.ofString "") (pp.map fun p => p.1 ++ p.2) == shownOf pp)) = false := by
    show (!(shownOf pp == shownOf pp)) = false
    simp
  rw [e0]
  refine wpAny_truthy_bool ?_
  rw [if_neg (by decide)]
  refine wpAny_execs_nil ?_
  dsimp only
  refine wpAny_execs_cons (wpAny_If ?_)
  refine wpAny_isTrue_BoolOp (wpAny_allTrue_Or_cons (wpAny_isTrue_Compare1 ?_))
  have hq3 : AccAt w s3.heap q vq.toArray := by
    refine hq2.keepT hT2.2 k3
  have hSq3 : Sheet s3.heap vq pp := hSq2.keepT hT2.2 k3
  have hT62 : TabOk s3.heap 62 := hT2.1.keeps fun o e => k3 _ _ (by decide) e
  have hDp3 : PlainL s3.heap Dp vs.toArray := plain_keepT hDp2 hT2.2 k3
  obtain ⟨dq3, nq3, tq3, uq3, Iq3⟩ := hq3.inst
  have C3 : Cx w mean mg mb s3.heap := C.keeps F3.keep
  have F' := F3
  have N' : News g L s3.heap (allAt g L s3.heap) := allAt_news g L s3.heap
  k_steps
  refine name_local' F3.ns hmq ?_ (by exact rfl) (by kernel_rfl) (by decide)
  refine args_nil ?_
  refine len_K F3 C.X Iq3 (find_len _) (by kernel_rfl) ?_
  refine wpAny_call (len_spec w (C.off F3.keep h62) (show A.depth + 1 ≤ 400 by omega) (by exact hh) hq3 hSq3 hSh hT62 hB3 fun s4 t4 hk4 hT4 hB4 hos4 => ?_)
  dsimp only [W.LenBack]
  rw [hsum]
  refine ⟨⟨by omega, by omega⟩, ?_⟩
  have k4 : ∀ b o, b ≠ 62 → s3.heap.get? b = some o → s4.heap.get? b = some o := fun b o hb e => hk4 b o (by rw [Heap.hide_ne _ hb]; exact e)
  have F4 : Fr g L s4.heap m' := off_fr' F3 k4 (Nat.ne_of_gt (Nat.lt_trans (by decide) hL)) h62
  have hq4 : AccAt w s4.heap q vq.toArray := hq3.keepT hT62 k4
  have hSq4 : Sheet s4.heap vq pp := hSq3.keepT hT62 k4
  have hDp4 : PlainL s4.heap Dp vs.toArray := plain_keepT hDp3 hT62 k4
  have hT69 : TabOk s4.heap 69 := hT3.keeps fun o e => k4 _ _ (by decide) e
  have C4 : Cx w mean mg mb s4.heap := C.keeps F4.keep
  have F' := F4
  have N' : News g L s4.heap (allAt g L s4.heap) := allAt_news g L s4.heap
  k_steps
  refine name_local' F4.ns hms2 ?_ (by exact rfl) (by kernel_rfl) (by decide)
  k_steps
  · exfalso
    first | omega | (rename_i hne _; exact hne rfl) | (rename_i hne; exact hne rfl)
  refine wpAny_allTrue_Or_cons (wpAny_isTrue_Compare1 ?_)
  dsimp only
  have F' := F4
  have N' : News g L s4.heap (allAt g L s4.heap) := allAt_news g L s4.heap
  k_steps
  refine name_local' F4.ns hmq ?_ (by exact rfl) (by kernel_rfl) (by decide)
  obtain ⟨dq4, nq4, tq4, uq4, Iq4⟩ := hq4.inst
  refine method_acc C4.X Iq4 (find_part_count _) (by kernel_rfl) (.inl rfl) (look_ini (by decide)) ?_
  dsimp only
  refine callWith_K0 C4.X (by first | k_is | kernel_rfl) ?_
  refine wpAny_call (count_spec w C4 (show A.depth + 1 ≤ 500 by omega) hq4 fun h5 tk5 t5 hk5 => ?_)
  dsimp only
  have F5 : Fr g L h5 m' := ⟨F4.ns.keeps hk5, fun b o e => hk5 _ _ (F4.keep b o e), F4.above⟩
  have hq5 : AccAt w h5 q vq.toArray := hq4.keeps hk5
  have hSq5 : Sheet h5 vq pp := hSq4.keeps hk5
  have hDp5 : PlainL h5 Dp vs.toArray := plain_at hDp4 fun o e => hk5 _ _ e
  have F' := F5
  have N' : News g L h5 (allAt g L h5) := allAt_news g L h5
  k_steps
  refine name_local' F5.ns hmp2 ?_ (by exact rfl) (by kernel_rfl) (by decide)
  refine args_nil ?_
  have hvl : vs.length = vq.length := by rw [hS.1, hSq.1]
  have hvl2 : vq.length ≤ 20 := by rw [hSq.1]; exact h20
  refine len_list hDp5.isList (by simp only [List.size_toArray]; omega) ?_
  refine SeqAt.RcNeAt.int_int _ _ _ _ _ _ _ _ ?_
  simp only [List.size_toArray, hvl, beq_self_eq_true, Bool.not_true]
  refine wpAny_truthy_bool ?_
  rw [if_neg (by decide)]
  refine wpAny_allTrue_Or_nil ?_
  rw [if_neg (by decide)]
  refine wpAny_execs_nil ?_
  dsimp only
  refine wpAny_execs_nil ?_
  rw [← hm'] at F5
  refine done _ q vq ?_ hB4 F5 hq5 hSq5 hqg ⟨hT4.keeps fun o e => hk5 _ _ e, hT69.keeps fun o e => hk5 _ _ e⟩ fun b o h1 h2 h3 e => hk5 _ _ (k4 _ _ h2 (k3 _ _ h3 (k2 _ _ h1 e)))
  exact hos4.trans hos3
end
end Mine
end

section
open PySem PySem.W PyProof.Rows PySem.Calls
set_option maxRecDepth 100000
set_option maxHeartbeats 4000000
namespace Mine
/-- objects that no call here changes -/
noncomputable def Solid (o : Obj) : Prop := (∃ v, o.data = .cell v) ∨ (∃ vs n, o.data = .seq vs n ∧ (o.cls = .type "list" ∨ o.cls = .type "tuple")) ∨ ∃ ps, o = tabObj ps
theorem Solid.noDict {o : Obj} (S : Solid o) : ∀ es n, o.data ≠ .dict es n := by
  intro es n e
  rcases S with ⟨v, h⟩ | ⟨vs, n', h, _⟩ | ⟨ps, rfl⟩
  · rw [h] at e; cases e
  · rw [h] at e; cases e
  · cases e
theorem Solid.noFld {o : Obj} (S : Solid o) (hc : o.cls ≠ .none) : ∀ fs, o.data ≠ .fields fs := by
  intro es e
  rcases S with ⟨v, h⟩ | ⟨vs, n', h, _⟩ | ⟨ps, rfl⟩
  · rw [h] at e; cases e
  · rw [h] at e; cases e
  · exact hc rfl
theorem Solid.noAcc {d : Addr} {items : Array Value} {n : Nat} (S : Solid (accObj d items n)) : False := by
  rcases S with ⟨v, h⟩ | ⟨vs, n', h, h' | h'⟩ | ⟨ps, h⟩
  · cases h
  · cases h'
  · cases h'
  · cases h
/-- what stands solid is kept -/
noncomputable def Firm (h h' : Heap) : Prop := ∀ b o, Solid o → h.get? b = some o → h'.get? b = some o
theorem Firm.refl {h : Heap} : Firm h h := fun _ _ _ e => e
theorem Firm.trans {h h' h'' : Heap} (a : Firm h h') (c : Firm h' h'') : Firm h h'' := fun b o S e => c b o S (a b o S e)
theorem Firm.ofStays {h h' : Heap} (k : h.StaysIn h') : Firm h h' := fun b o _ e => k b o e
theorem Firm.ofL {h₀ h h' : Heap} {L : Addr} {m : Str → Option Value} (F : Fr h₀ L h m) (k : ∀ b o, b ≠ L → h.get? b = some o → h'.get? b = some o) : Firm h h' := fun b o S e => k b o (by
  rintro rfl
  obtain ⟨o', es, ep, h1, h2, _⟩ := F.ns
  rw [e] at h1; cases h1
  exact S.noDict _ _ h2) e
theorem Firm.ofI {h h' : Heap} {I : Addr} (hI : ∃ o fs, h.get? I = some o ∧ o.data = .fields fs ∧ o.cls ≠ .none) (k : ∀ b o, b ≠ I → h.get? b = some o → h'.get? b = some o) : Firm h h' := fun b o S e => k b o (by
  rintro rfl
  obtain ⟨o', fs, h1, h2, h3⟩ := hI
  rw [e] at h1; cases h1
  exact S.noFld h3 _ h2) e
theorem Firm.ofAcc {w : World} {h h' : Heap} {q : Addr} {items : Array Value} (H : AccAt w h q items) (k : (h.hide q).StaysIn h') : Firm h h' := fun b o S e => k b o (by
  have : b ≠ q := by
    rintro rfl
    obtain ⟨d, n, t, u, h1, _⟩ := H
    rw [e] at h1; cases h1
    exact S.noAcc
  rw [Heap.hide_ne _ this]; exact e)
theorem Firm.list {h h' : Heap} (k : Firm h h') {l : Addr} {items : Array Value} (H : h.IsList l items) : h'.IsList l items := let ⟨o, a, b, n, c⟩ := H; ⟨o, k _ _ (.inr (.inl ⟨_, _, c, .inl b⟩)) a, b, n, c⟩
theorem Firm.tuple {h h' : Heap} (k : Firm h h') {l : Addr} {items : Array Value} (H : h.IsTuple l items) : h'.IsTuple l items := let ⟨o, a, b, n, c⟩ := H; ⟨o, k _ _ (.inr (.inl ⟨_, _, c, .inr b⟩)) a, b, n, c⟩
theorem Firm.plain {h h' : Heap} (k : Firm h h') {l : Addr} {items : Array Value} (H : PlainL h l items) : PlainL h' l items := plain_at H fun o e => by
  obtain ⟨o', n, a, b, c, d⟩ := H
  rw [e] at a; cases a
  exact k _ _ (.inr (.inl ⟨_, _, d, .inl b⟩)) e
theorem Firm.cell {h h' : Heap} (k : Firm h h') {l : Addr} {v : Option Value} (H : h.IsCell l v) : h'.IsCell l v := let ⟨o, a, b⟩ := H; ⟨o, k _ _ (.inl ⟨_, b⟩) a, b⟩
theorem Firm.sheet {h h' : Heap} (k : Firm h h') {vs : List Value} {ps : List (Str × Str)} (H : Sheet h vs ps) : Sheet h' vs ps :=
  ⟨H.1, fun j x y e => let ⟨T, t, u, a, b⟩ := H.2 j x y e; ⟨T, t, u, a, k.tuple b⟩⟩
theorem Firm.tab {h h' : Heap} (k : Firm h h') {a : Addr} (H : TabOk h a) : TabOk h' a := let ⟨ps, e, x⟩ := H; ⟨ps, k _ _ (.inr (.inr ⟨_, rfl⟩)) e, x⟩
theorem Firm.cells {h h' : Heap} (k : Firm h h') {L : Addr} {v1 v2 : Option Value} (H : Cells2 h L v1 v2) : Cells2 h' L v1 v2 := ⟨k.cell H.1, k.cell H.2⟩
theorem Firm.ports {h h' : Heap} (k : Firm h h') {P : Addr} {ps : List (Option Int)} (H : Ports h P ps) : Ports h' P ps := ⟨let ⟨i, a, b⟩ := H.ex; ⟨i, k.plain a, b⟩, H.bound⟩

/-- the frames below hold no sheet -/
noncomputable def NoInit (h : Heap) (fs : List Addr) : Prop := ∀ b ∈ fs, ∃ m, h.Ns b m ∧ m (Str.ofString "_initial_size") = none
theorem acc_ns {w : World} {h : Heap} {d b : Addr} {m : Str → Option Value} {t u : Tok} (H : h.get? d = some (iniObj w.params t u)) (hn : h.Ns b m) (hm : m (Str.ofString "_initial_size") = none) : d ≠ b := by
  rintro rfl
  obtain ⟨o, es, ep, h3, h4, h5, h6⟩ := hn
  rw [H] at h3
  cases h3
  cases h4
  have := h6 (Str.ofString "_initial_size")
  rw [hm] at this
  exact absurd this (by
    show ¬ (nsFind #[⟨PyData.keyHash w.params "_initial_size", .str "_initial_size" t, .int 0 u⟩] (Str.ofString "_initial_size") = none)
    simp [nsFind, findBy, Value.isStr])
theorem NoInit.turn {fs fs' : List Addr} {h h' : Heap} (N : NoInit h fs) (T : KtsTurn fs' h h') : NoInit h' fs := fun b hb => by
  obtain ⟨m, ⟨o, es, ep, h1, h2, h3, h4⟩, hm⟩ := N b hb
  obtain ⟨sl, hs⟩ := T.up h1
  exact ⟨m, ⟨_, es, ep, hs, h2, h3, h4⟩, hm⟩

section
variable {A : Around} {base s₀ g h h' g' : Heap} {outer : List Env} {L a : Addr} {m : Str → Option Value} {env : Env}
theorem Gd.firm (G : Gd A base s₀ outer g) (F : Fr g L h m) (hf : env.frame = some L) (T' : KtsTurn ((env :: outer).filterMap (·.frame)) h g') (S' : g'.StaysIn h') : Firm h h' := fun b o S e =>
  S' b o (T'.other b o e fun q => by
    rcases fmem hf q with rfl | z
    · obtain ⟨o', es, ep, h1, h2, _⟩ := F.ns
      rw [e] at h1; cases h1
      exact S.noDict _ _ h2
    · obtain ⟨o', es, n, h1, h2⟩ := G.D b z
      have := F.keep _ _ h1
      rw [e] at this; cases this
      exact S.noDict _ _ h2)
theorem Gd.acc {w : World} {q : Addr} {items : Array Value} (G : Gd A base s₀ outer g) (N : NoInit g (outer.filterMap (·.frame))) (F : Fr g L h m) (hm : m (Str.ofString "_initial_size") = none) (H : AccAt w h q items) (hf : env.frame = some L)
    (T' : KtsTurn ((env :: outer).filterMap (·.frame)) h g') (S' : g'.StaysIn h') : AccAt w h' q items := by
  obtain ⟨d, n, t, u, h1, h2⟩ := H
  have nd : ∀ es k, (accObj d items n).data ≠ .dict es k := fun _ _ e => by cases e
  refine ⟨d, n, t, u, S' _ _ (T'.other _ _ h1 fun z => ?_), S' _ _ (T'.other _ _ h2 fun z => ?_)⟩
  · rcases fmem hf z with rfl | z
    · obtain ⟨o', es, ep, k1, k2, _⟩ := F.ns
      rw [h1] at k1; cases k1
      exact nd _ _ k2
    · obtain ⟨o', es, k, k1, k2⟩ := G.D _ z
      have := F.keep _ _ k1
      rw [h1] at this; cases this
      exact nd _ _ k2
  · rcases fmem hf z with rfl | z
    · exact acc_ns h2 F.ns hm rfl
    · obtain ⟨m', k1, k2⟩ := N _ z
      exact acc_ns h2 (k1.keeps F.keep) k2 rfl
end
end Mine
end

section
open PySem PySem.W PyProof.Rows PySem.Calls PySem.NumText
set_option maxRecDepth 100000
set_option maxHeartbeats 4000000
namespace Mine
theorem take_all {α : Type} {p : α → Bool} : ∀ {l : List α}, (∀ c ∈ l, p c = true) → l.takeWhile p = l
  | [], _ => rfl
  | a :: r, h => by
    rw [List.takeWhile_cons, h a List.mem_cons_self, if_pos rfl, take_all fun c hc => h c (List.mem_cons_of_mem _ hc)]
theorem drop_blanks {l : List Nat} : ∀ (k : Nat), (List.replicate k 32 ++ l).dropWhile blank = l.dropWhile blank
  | 0 => rfl
  | k + 1 => by
    rw [List.replicate_succ, List.cons_append, List.dropWhile_cons, if_pos (by decide), drop_blanks k]
theorem text_ascii {l : List Nat} (h : ∀ c ∈ l, 0 < c ∧ c < 128) : numTextOf (⟨l.toArray⟩ : PySem.Str) = l ∧ numSeenOf (⟨l.toArray⟩ : PySem.Str) = l := by
  have e1 : numTextOf (⟨l.toArray⟩ : PySem.Str) = l := by
    unfold numTextOf
    rw [if_pos (by
      show (l.toArray.all fun c => decide (c < 128)) = true
      simp
      exact fun c hc => (h c hc).2)]
  refine ⟨e1, ?_⟩
  unfold numSeenOf
  rw [e1]
  exact take_all fun c hc => by have := (h c hc).1; simp; omega

theorem int_blanks {l : List Nat} (k : Nat) (h : ∀ c ∈ l, 0 < c ∧ c < 128) : PySem.intText? (⟨(List.replicate k 32 ++ l).toArray⟩ : PySem.Str) = PySem.intText? (⟨l.toArray⟩ : PySem.Str) := by
  have h2 : ∀ c ∈ List.replicate k 32 ++ l, 0 < c ∧ c < 128 := fun c hc => by
    rcases List.mem_append.mp hc with hc | hc
    · have := List.eq_of_mem_replicate hc; omega
    · exact h c hc
  obtain ⟨a1, a2⟩ := text_ascii h
  obtain ⟨b1, b2⟩ := text_ascii h2
  unfold PySem.intText?
  rw [a1, a2, b1, b2]
  unfold core
  rw [drop_blanks]
  simp only [beq_self_eq_true, if_true]

/-- a column as a list of signs -/
noncomputable def colList (x : Option Int) (wd : Int) : List Nat := match x with
  | none => List.replicate (wd - 2).toNat 32 ++ [45, 45]
  | some p => List.replicate (wd - (fig p).length).toNat 32 ++ (fig p).cps.toList

theorem fold_blanks : ∀ (k : Nat) (acc : Array Nat), ((List.replicate k (#[32] : Array Nat)).foldl (· ++ ·) acc).toList = acc.toList ++ List.replicate k 32
  | 0, acc => by simp
  | k + 1, acc => by
    rw [List.replicate_succ, List.foldl_cons, fold_blanks k]
    simp [List.replicate_succ]
theorem mul_blank (n : Int) : (Txt.mul (Str.ofString " ") n).cps.toList = List.replicate n.toNat 32 := by
  unfold Txt.mul
  by_cases h1 : n < 1
  · rw [if_pos h1]
    have : n.toNat = 0 := by omega
    rw [this]; rfl
  · rw [if_neg h1]
    by_cases h2 : n = 1
    · subst h2; rfl
    · have e : (n == 1 || (Str.ofString " ").length == 0) = false := by
        have : (Str.ofString " ").length = 1 := by decide
        rw [this]; simp [h2]
      rw [e, if_neg (by decide)]
      exact fold_blanks n.toNat #[]
theorem col_list (x : Option Int) (wd : Int) : (colOf x wd).cps.toList = colList x wd := by
  cases x with
  | none =>
    show ((Txt.mul (Str.ofString " ") (wd - (Str.ofString "--").length)).cps ++ (Str.ofString "--").cps).toList = _
    rw [Array.toList_append, mul_blank]
    rfl
  | some p =>
    show ((Txt.mul (Str.ofString " ") (wd - (fig p).length)).cps ++ (fig p).cps).toList = _
    rw [Array.toList_append, mul_blank]
    rfl

/-- what a column's reply is -/
theorem col_form (x : Option Int) (wd : Int) : Str.ofString "229 (|||" ++ colOf x wd ++ Str.ofString "|)" = form 124 (colList x wd) := by
  rw [← col_list]
  exact text3 rfl rfl

theorem col_len {x : Option Int} {wd : Int} (hx : ∀ p, x = some p → 0 ≤ p ∧ p < 100000) (h1 : 0 ≤ wd) (h2 : wd ≤ 5) : 1 ≤ (colList x wd).length ∧ (colList x wd).length ≤ 5 := by
  cases x with
  | none => simp only [colList, List.length_append, List.length_replicate, List.length_cons, List.length_nil]; omega
  | some p =>
    have hw := (fig_wide (hx p rfl).1 (hx p rfl).2).1
    have hl : (fig p).cps.toList.length = (fig p).length := Array.length_toList
    have hw1 : 1 ≤ (fig p).length := hw.1
    have hw2 : (fig p).length ≤ 5 := hw.2
    simp only [colList, List.length_append, List.length_replicate, hl]; omega

theorem col_signs {x : Option Int} {wd : Int} (hx : ∀ p, x = some p → 0 ≤ p ∧ p < 100000) : ∀ c ∈ colList x wd, c = 32 ∨ c = 45 ∨ (48 ≤ c ∧ c ≤ 57) := by
  intro c hc
  cases x with
  | none =>
    rcases List.mem_append.mp hc with hc | hc
    · exact .inl (List.eq_of_mem_replicate hc)
    · simp at hc; exact .inr (.inl hc)
  | some p =>
    rcases List.mem_append.mp hc with hc | hc
    · exact .inl (List.eq_of_mem_replicate hc)
    · rw [fig_nat (hx p rfl).1] at hc
      exact .inr (.inr (numCps_digits _ c hc))

theorem col_reads {p : Int} {wd : Int} (h0 : 0 ≤ p) (h1 : p < 100000) : PySem.intText? (⟨(colList (some p) wd).toArray⟩ : PySem.Str) = some p := by
  have hd := numCps_digits p.toNat
  rw [← fig_nat h0] at hd
  show PySem.intText? (⟨(List.replicate _ 32 ++ (fig p).cps.toList).toArray⟩ : PySem.Str) = some p
  rw [int_blanks _ (fun c hc => by have := hd c hc; omega), ← str_of_list (x := fig p) rfl]
  exact fig_reads h0 h1
theorem col_fails {wd : Int} (h1 : 0 ≤ wd) (h2 : wd ≤ 5) : PySem.intText? (⟨(colList none wd).toArray⟩ : PySem.Str) = none ∧ ((numSeenOf (⟨(colList none wd).toArray⟩ : PySem.Str)).length == (numTextOf (⟨(colList none wd).toArray⟩ : PySem.Str)).length) = true ∧ (reprText (⟨(colList none wd).toArray⟩ : PySem.Str)).length ≤ 300 := by
  obtain ⟨n, rfl⟩ := Int.eq_ofNat_of_zero_le h1
  have h2 : n ≤ 5 := Int.ofNat_le.mp h2
  rcases (by decide : ∀ m : Fin 6, m.val = 0 ∨ m.val = 1 ∨ m.val = 2 ∨ m.val = 3 ∨ m.val = 4 ∨ m.val = 5) ⟨n, Nat.lt_succ_of_le h2⟩ with h | h | h | h | h | h <;> (have h : n = _ := h; subst h; decide +kernel)

theorem read_col (w : World) {A : Around} {s : Shared} {R : Result → Shared → Prop} {base : Heap} {outer : List Env} {mean : ExcName → Option Value} {mg mb : Str → Option Value} {t : Tok} {x : Option Int} {wd : Int} {due : Value}
    (C : Cx w mean mg mb base) (B' : Below A base outer s.heap) (D' : KtsDicts (outer.filterMap (·.frame)) s.heap) (hh : A.handled = none) (hroom : A.depth ≤ 500) (hx : ∀ p, x = some p → 0 ≤ p ∧ p < 100000) (h1 : 0 ≤ wd) (h2 : wd ≤ 5)
    (hdue : (x = none ∧ ∃ u, due = .str (Str.ofString "no number") u) ∨ ∃ p T u1 u2, x = some p ∧ due = .ref T ∧ s.heap.IsTuple T #[.str (Str.ofString "h") u1, .int p u2])
    (h : ∀ h' tk g' v, KtsTurn (outer.filterMap (·.frame)) s.heap g' → g'.StaysIn h' → SameDue v due h' → R (.ok (.ret v)) { s with heap := h', toks := tk }) :
    codeC (model PySem.Challenge.rw_yh0005_01.row.prog w) A (.call (.ref 162) ⟨[.str (Str.ofString "229 (|||" ++ colOf x wd ++ Str.ofString "|)") t], []⟩) R s := by
  rw [col_form]
  obtain ⟨l1, l2⟩ := col_len hx h1 h2
  have hsg := col_signs (wd := wd) hx
  have key : ∀ c, (c = 40 ∨ c = 41 ∨ c = 124) → ∀ y ∈ colList x wd, y ≠ c := fun c hc y hy => by have := hsg y hy; omega
  have hf := form_find (s := 124) (key 40 (by simp)) (.inl rfl) l1 (to7 l2)
  have hg := form_find3 (s := 124) (key 41 (by simp)) (.inl rfl) l1 (to7 l2)
  have hi : (Txt.item (form 124 (colList x wd)) (Txt.find (form 124 (colList x wd)) (Str.ofString "(") + 1) != Txt.item (form 124 (colList x wd)) (Txt.find3 (form 124 (colList x wd)) (Str.ofString ")") (Txt.find (form 124 (colList x wd)) (Str.ofString "(") + 1) - 1)) = false := by
    rw [hf]; show (Txt.item _ 5 != Txt.item _ (Txt.find3 _ _ 5 - 1)) = false
    rw [hg, form_first _ l1 (to7 l2), form_last _ l1 (to7 l2)]; simp
  have hs : Txt.split (Txt.slice (form 124 (colList x wd)) (some (Txt.find (form 124 (colList x wd)) (Str.ofString "(") + 1)) (some (Txt.find3 (form 124 (colList x wd)) (Str.ofString ")") (Txt.find (form 124 (colList x wd)) (Str.ofString "(") + 1)))) (Txt.item (form 124 (colList x wd)) (Txt.find (form 124 (colList x wd)) (Str.ofString "(") + 1)) = [⟨#[]⟩, ⟨#[]⟩, ⟨#[]⟩, ⟨(colList x wd).toArray⟩, ⟨#[]⟩] := by
    rw [hf]
    show Txt.split (Txt.slice _ (some 5) (some (Txt.find3 _ _ 5))) (Txt.item _ 5) = _
    rw [hg, form_first _ l1 (to7 l2), form_inner _ l1 (to7 l2)]
    exact inner_split (.inl rfl) (key 124 (by simp)) l1 (to7 l2)
  rcases hdue with ⟨rfl, u, rfl⟩ | ⟨p, T, u1, u2, rfl, rfl, hT⟩
  · obtain ⟨c1, c2, c3⟩ := col_fails h1 h2
    exact read_bad (r := (colList none wd).length + 9) w C B' D' hh hroom (form_short (to7 l2)) (form_code _ l1 (to7 l2)) hf (by rw [hf]; exact hg) le_9 form_end hi hs c1 c2 c3 (size_100 (to7 l2))
      fun h' tk g' v T' S' hv => h h' tk g' v T' S' (due_text hv (by simp [PyData.canLay0]; decide +kernel))
  · refine codeC_of_any (read_good (r := (colList (some p) wd).length + 9) w C B' D' hh hroom (form_short (to7 l2)) (form_code _ l1 (to7 l2)) hf (by rw [hf]; exact hg) le_9 form_end hi hs (col_reads (hx p rfl).1 (hx p rfl).2) (size_640 (to7 l2))
      fun h' tk g' v T' S' hv => h h' tk g' v T' S' (due_pair (t := u1) (u := u2) hv ?_))
    obtain ⟨o, a1, a2, n, a3⟩ := KtsTurn.isTuple T' hT
    exact ⟨o, S' _ _ a1, a2, n, a3⟩
end Mine
end

section
open PySem PySem.W PyProof.Rows PySem.Calls
set_option maxRecDepth 100000
set_option maxHeartbeats 8000000
namespace Mine
/-! No rule of the walker takes these calls: it stops ahead of them at once. -/
local macro_rules | `(tactic| k_steps) => `(tactic| repeat' (first | (k_unfold; (try dsimp only)) | (k_end; wrow_close) | ((fail_if_success (with_reducible show wpAny _ _ (binaryOp Operator.Add (Value.str (Str.ofString _) _) (Value.str _ _)) _ _ _)); walk1) | (dsimp only; (fail_if_success (with_reducible show wpAny _ _ (binaryOp Operator.Add (Value.str (Str.ofString _) _) (Value.str _ _)) _ _ _)); walk1) | (leave1; try dsimp only) | fail "no step"))
theorem fillRight7 (P : Params) : PySem.Challenge.rw_yh0005_01 = PySem.Challenge.rw_yh0005_01 → hd.heap_1 P = hd.heap_1 P := by
  k_fill
  intro _
  rfl

section
variable {prog : Program} {w : World} {A : Around} {s : Shared} {env : Env}
/-- for x in range(..), under the claim's caller -/
theorem range_loopC {x : Str} {px : Pos} {body : List Stmt} {Q : Flow → Shared → Prop} {E : Value → Shared → Prop} {r : Addr} {n : Nat} {a b c : Int} {t u v : Tok} (J : Nat → Shared → Prop) (hsz : Builtin.Range.rangeSize a b c = n) (hsmall : Builtin.Range.small a b c = true)
    (hh : A.handled = none) (hr : IsRange s.heap r a b c t u v) (hJ : ∀ h' tk, s.heap.StaysIn h' → J 0 { s with heap := h', toks := tk })
    (stable : ∀ i s' h' tk, IsRangeIter s'.heap s.heap.objs.size (a + (i : Nat) * c) ((n : Int) - (i : Nat)) c → J i s' → (∀ b o, b ≠ s.heap.objs.size → s'.heap.get? b = some o → h'.get? b = some o) → J i { s' with heap := h', toks := tk })
    (turn : ∀ i s' t, i < n → J i s' → IsRangeIter s'.heap s.heap.objs.size (a + ((i + 1 : Nat) : Int) * c) ((n : Int) - ((i + 1 : Nat) : Int)) c →
      wpAny (model prog w) A (assign (.Name x px) env (.int (a + (i : Int) * c) t)) (fun _ s₂ => wpC (model prog w) A (execs body env) (fun f s₃ => match f with
        | .next | .cont => J (i + 1) s₃ ∧ IsRangeIter s₃.heap s.heap.objs.size (a + ((i + 1 : Nat) : Int) * c) ((n : Int) - ((i + 1 : Nat) : Int)) c
        | .brk => False
        | .ret v => Q (.ret v) s₃) E s₂) E s')
    (done : ∀ s', J n s' → Q .next s') :
    wpAny (model prog w) A (pyIter (.ref r)) (fun it s₂ => LoopC prog w A env (.Name x px) body Q E it s₂) E s := by
  refine wpAny_pyIter_range hr hsmall ?_
  rw [hsz]
  have k1 : s.heap.StaysIn (s.heap.push { cls := .type "range_iterator", data := .fields #[rawInt a, rawInt n, rawInt c] }) := fun b o e => Heap.get?_push_of_some _ e
  have h0 : IsRangeIter (s.heap.push { cls := .type "range_iterator", data := .fields #[rawInt a, rawInt n, rawInt c] }) s.heap.objs.size (a + ((0 : Nat) : Int) * c) ((n : Int) - ((0 : Nat) : Int)) c := by
    simpa using Heap.get?_push_size (h := s.heap) (o := { cls := .type "range_iterator", data := .fields #[rawInt a, rawInt n, rawInt c] }) rfl
  refine ⟨_, _, _, n, _, _, J, rfl, Walks.range hh s.heap.objs.size a c n, h0, hJ _ _ k1, ?_, ?_, ?_, done⟩
  · intro i s' h' tk st j hk
    exact stable i s' h' tk st j fun b o hb e => hk b o (by simpa using hb) e
  · intro i v s' Q' _ hq
    exact wpAny_of_eq (a := ()) rfl hq
  · rintro i s' v hi ⟨t, rfl⟩ j st
    exact turn i s' t hi j st
end

theorem col_ok {x : Option Int} {wd : Int} (hx : ∀ p, x = some p → 0 ≤ p ∧ p < 100000) : PyData.strOk (colOf x wd) = true := by
  have h := col_signs (wd := wd) hx
  rw [← col_list] at h
  unfold PyData.strOk
  rw [← Array.all_toList, List.all_eq_true]
  intro c hc
  have := h c hc
  exact decide_eq_true (by omega)
theorem let_ok {k : Nat} (h : k < 20) : PyData.strOk (letOf k) = true := by
  unfold PyData.strOk letOf
  rw [← Array.all_toList, List.all_eq_true]
  intro c hc
  have : c = 97 + k := by simpa using hc
  exact decide_eq_true (by omega)
theorem pair_lay {x y : Str} (h1 : PyData.strOk x = true) (h2 : PyData.strOk y = true) : (PyData.list [.tuple [.str x, .str y]]).canLay0 = true := by
  simp only [PyData.canLay0, PyData.canLayAll0]
  exact (by rw [h1, h2]; rfl)

noncomputable abbrev r3 (m : Str → Option Value) (vn vt vd : Option Value) : Str → Option Value := bindM (bindM (bindM m (Str.ofString "n") vn) (Str.ofString "taken") vt) (Str.ofString "due") vd
theorem r3_start (m : Str → Option Value) (y : Str) : m y = r3 m (m (Str.ofString "n")) (m (Str.ofString "taken")) (m (Str.ofString "due")) y := by
  simp only [r3, bindM]
  (repeat' split) <;> first | rfl | (subst_vars; rfl)
theorem r3_n (m : Str → Option Value) (vn vt vd : Option Value) (a : Value) (y : Str) : (if y = Str.ofString "n" then some a else r3 m vn vt vd y) = r3 m (some a) vt vd y := by
  have h1 : Str.ofString "n" ≠ Str.ofString "taken" := by decide
  have h2 : Str.ofString "n" ≠ Str.ofString "due" := by decide
  simp only [r3, bindM]
  by_cases e1 : y = Str.ofString "n"
  · subst e1; simp [h1, h2]
  · simp [e1]
theorem r3_taken (m : Str → Option Value) (vn vt vd : Option Value) (a : Value) (y : Str) : (if y = Str.ofString "taken" then some a else r3 m vn vt vd y) = r3 m vn (some a) vd y := by
  have h2 : Str.ofString "taken" ≠ Str.ofString "due" := by decide
  simp only [r3, bindM]
  by_cases e1 : y = Str.ofString "taken"
  · subst e1; simp [h2]
  · simp [e1]
theorem r3_due (m : Str → Option Value) (vn vt vd : Option Value) (a : Value) (y : Str) : (if y = Str.ofString "due" then some a else r3 m vn vt vd y) = r3 m vn vt (some a) y := by
  simp only [r3, bindM]
  by_cases e1 : y = Str.ofString "due"
  · subst e1; simp
  · simp [e1]
theorem r3_ini {m : Str → Option Value} (vn vt vd : Option Value) (h : m (Str.ofString "_initial_size") = none) : r3 m vn vt vd (Str.ofString "_initial_size") = none := h

section
variable {w : World} {A : Around} {s : Shared} {base g₀ : Heap} {outer : List Env} {mean : ExcName → Option Value} {mg mb : Str → Option Value} {g : Heap}
  {name qual : Str} {params : Arguments} {body : List Stmt} {scope : Scope} {dV kV doc pm cdv ct oc : Value} {an od : Option Addr} {osl : Array (Option Value)}
  {L Dp Do Pp q : Addr} {hf : Heap} {tkf : Nat} {Q : Flow → Shared → Prop} {m : Str → Option Value} {vs vq ys : List Value} {pp : List (Str × Str)} {ps : List (Option Int)} {ord : List Nat} {wd : Int}

theorem down_facts {N i : Nat} (hi : i < N) : N - 1 - i < N ∧ ((N : Int) - 1 + (i : Int) * (-1)) = ((N - 1 - i : Nat) : Int) ∧ N - (i + 1) = N - 1 - i ∧ N - i = N - 1 - i + 1 := ⟨by omega, by omega, by omega, by omega⟩
theorem min_cast (n : Nat) : (min (n : Int) ((n + 1 : Nat) : Int)).toNat = n := by omega
theorem small63 {a N : Nat} (h : a < N) (hN : N ≤ 20) : (a : Int) < 2 ^ 63 := Int.lt_of_lt_of_le (Int.ofNat_lt.mpr (Nat.lt_of_lt_of_le h hN)) (by decide)
/-- the due answer, when its test is over -/
structure DueP (ga he : Heap) (s : Shared) (L l : Addr) (m : Str → Option Value) (n : Value) (x : Option Int) (f : Flow) (s₃ : Shared) : Prop where
  nx : f = .next
  ex : ∃ h' tk due, s₃ = { s with heap := h', toks := tk } ∧ Fr ga L h' (r3 m (some n) (some (.ref l)) (some due)) ∧ (∀ b o, b ≠ L → he.get? b = some o → h'.get? b = some o) ∧
      ((x = none ∧ ∃ u, due = .str (Str.ofString "no number") u) ∨ ∃ p T u1 u2, x = some p ∧ due = .ref T ∧ h'.IsTuple T #[.str (Str.ofString "h") u1, .int p u2])

noncomputable def JT (w : World) (A : Around) (base g₀ hf : Heap) (s : Shared) (outer : List Env) (L q : Addr) (m : Str → Option Value) (vq : List Value) (N i : Nat) (s' : Shared) : Prop :=
  ∃ ha tka ga vn vt vd, s' = { s with heap := ha, toks := tka } ∧ Gd A base g₀ outer ga ∧ NoInit ga (outer.filterMap (·.frame)) ∧ Fr ga L ha (r3 m vn vt vd) ∧ AccAt w ha q (vq.take (N - i)).toArray ∧ ga.get? q = none ∧ Firm hf ha

theorem right_7 (ho : (hd.heap_1 w.params).lookup 191 = some ⟨oc, od, .func (fnOf name qual params body scope dV kV doc pm an cdv ct), osl⟩)
    (C : Cx w mean mg mb base) (G : Gd A base g₀ outer g) (N₀ : NoInit g₀ (outer.filterMap (·.frame))) (hh : A.handled = none) (hroom : A.depth ≤ 310) (hu : A.units ≤ 1000) (F : Fr g L hf m)
    (hmp : m (Str.ofString "parts") = some (.ref Dp)) (hmo : m (Str.ofString "order") = some (.ref Do)) (hms : m (Str.ofString "sheet") = some (.ref q)) (hmi : m (Str.ofString "_initial_size") = none)
    (hDp : PlainL hf Dp vs.toArray) (hS : Sheet hf vs pp) (hDo : PlainL hf Do ys.toArray) (hY : NumsAt ys ord) (hq : AccAt w hf q vq.toArray) (hSq : Sheet hf vq pp) (hqg : g.get? q = none)
    {v2 : Option Value} (hC : Cells2 hf L (some (.ref Pp)) v2) (hP : Ports hf Pp ps) (hpp : pp = partsIn ps wd ord ∧ True) (hord : ∀ k ∈ ord, k < ps.length) (h20 : ord.length ≤ 20) (hp20 : ps.length ≤ 20) (hw : 0 ≤ wd ∧ wd ≤ 5)
    (done : ∀ h' tk g' m', Gd A base g₀ outer g' → Fr g' L h' m' → Firm hf h' → Q (.ret (.bool true)) { s with heap := h', toks := tk }) :
    wpC (model PySem.Challenge.rw_yh0005_01.row.prog w) (A.deeper (envOfC qual scope L 191 cdv)) (execs (body.drop 11) (envOfC qual scope L 191 cdv)) Q (fun _ _ => False) { s with heap := hf, toks := tkf } := by
  have hroom' : ∀ {e : Env}, (A.deeper e).depth ≤ 311 := fun {e} => Nat.succ_le_succ hroom
  refine (fun (e2 : (hd.heap_1 w.params).lookup 191 = some ⟨_, _, .func (fnOf _ _ _ _ _ _ _ _ _ _ _ _), _⟩) => ?_) (by k_is)
  rw [ho] at e2
  injection e2 with e2
  injection e2 with e3 e4 e5 e6
  injection e5 with e5
  injection e5 with n1 n2 n3 n4 n5
  injection n4 with n4
  subst_vars
  clear ho
  have hpn : pp.length = ord.length := by rw [hpp.1]; simp [partsIn]
  have hvn : vs.length = ord.length := by rw [hS.1, hpn]
  have hqn : vq.length = ord.length := by rw [hSq.1, hpn]
  refine wpC_execs_cons ?_
  refine for_C ?_ (by intro _; rfl) PassesOwn.never
  have X' := (G.cx C).X
  have T' := (G.cx C).T
  have F' := F
  have N' : News g L hf (allAt g L hf) := allAt_news g L hf
  have kb := @kept_same _ _ _ _ F
  k_steps
  refine name_local' F.ns hmp ?_ (by exact rfl) (by kernel_rfl) (by decide)
  refine args_nil ?_
  refine len_list hDp.isList (by simp only [List.size_toArray]; omega) ?_
  simp only [List.size_toArray, hvn]
  k_steps
  rename_i h5 tk5 t₁ u₁ v₁ hr5 F5 N5 k5
  have F5 : Fr g L h5 m := F5
  have hL5 : L < h5.objs.size := F5.ns.lt
  have h50 : g.get? h5.objs.size = none := Heap.get?_none_of_le (Nat.le_trans F5.above (Nat.le_of_lt hL5))
  have kG : ∀ {g' : Heap}, Gd A base g₀ outer g' → ∀ b, g₀.get? b = none → g'.get? b = none := fun G' b e => G'.T.none_ b e
  have h50' : g₀.get? h5.objs.size = none := by
    cases e : g₀.get? h5.objs.size with
    | none => rfl
    | some o =>
      obtain ⟨sl, hs⟩ := G.T.up e
      rw [h50] at hs; cases hs
  have hI : ∀ {ha : Heap} {a b c : Int}, IsRangeIter ha h5.objs.size a b c → ∃ o fs, ha.get? h5.objs.size = some o ∧ o.data = .fields fs ∧ o.cls ≠ .none := fun st => ⟨_, _, st, rfl, by intro q; cases q⟩
  refine range_loopC (n := ord.length) (JT w A base g₀ hf s outer L q m vq ord.length) (down_size _) (down_small (by omega)) (by exact hh) hr5 ?_ ?_ ?_ ?_
  · intro h' tk hk
    have k1 : hf.StaysIn h' := fun b o e => hk _ _ (k5 _ _ e)
    refine ⟨h', tk, g, _, _, _, rfl, G, N₀.turn G.T, fr_ex ⟨F5.ns.keeps hk, fun b o e => hk _ _ (F5.keep b o e), F5.above⟩ (fun y => r3_start m y), ?_, hqg, Firm.ofStays k1⟩
    have : vq.take (ord.length - 0) = vq := List.take_of_length_le (by omega)
    rw [this]
    exact hq.keeps k1
  · rintro i s' h' tk st ⟨ha, tka, ga, vn, vt, vd, rfl, Ga, Na, Fa, Ha, hqa, firm⟩ hk
    have hIf : FldAt ha h5.objs.size := ⟨_, _, st, rfl⟩
    exact ⟨h', tk, ga, vn, vt, vd, rfl, Ga, Na, off_fr' Fa hk (Nat.ne_of_lt hL5) (kG Ga _ h50'), Ha.keepI hIf hk, hqa, firm.trans (Firm.ofI (hI st) hk)⟩
  · rintro i s' t hi ⟨ha, tka, ga, vn, vt, vd, rfl, Ga, Na, Fa, Ha, hqa, firm⟩ st
    have hL0 : ga.get? L = none := kts_self Fa
    refine wpAny_assign_Name (wpAny_storeName_local (by rfl) Fa.ns (fun hb hnb hsb => ?_) (by rfl))
    have kb : ∀ b o, b ≠ L → ha.get? b = some o → hb.get? b = some o := fun b o hb e => hsb.extBut b o hb e
    have Fb := fr_ex (m' := r3 m (some (.int ((ord.length : Int) - 1 + (i : Int) * (-1)) t)) vt vd) ⟨hnb, fun b o e => kb b o (fun q => by rw [q, hL0] at e; cases e) (Fa.keep b o e), Fa.above⟩ (fun y => r3_n _ _ _ _ _ y)
    have Hb := Ha.keepL Fa (r3_ini _ _ _ hmi) kb
    have firmb := firm.trans (Firm.ofL Fa kb)
    have stb := kb _ _ (Nat.ne_of_gt hL5) st
    clear Ha firm st Fa hnb hsb
    dsimp only
    refine wpC_execs_cons (wpC_of_any ?_)
    obtain ⟨dq, nq, tq, uq, Iq⟩ := Hb.inst
    have X' := (Ga.cx C).X
    have T' := (Ga.cx C).T
    have F' := Fb
    have N' : News ga L hb (allAt ga L hb) := allAt_news ga L hb
    k_steps
    refine name_local' Fb.ns hms ?_ (by exact rfl) (by kernel_rfl) (by decide)
    refine method_acc ((Ga.cx C).keeps Fb.keep).X Iq (find_pop_from _) (by kernel_rfl) (.inl rfl) (look_ini (by decide)) ?_
    dsimp only
    k_steps
    obtain ⟨hi', hnn, ho', hoi⟩ := down_facts hi
    rw [hnn] at Fb ⊢
    generalize hN : ord.length - 1 - i = nn at hi' ho' hoi Fb ⊢
    have hqlt : nn < vq.length := hqn.symm ▸ hi'
    have hti : (vq.take (ord.length - i)).length = nn + 1 := by rw [List.length_take, hoi, Nat.min_eq_left hqlt]
    refine wpAny_call (pop_spec w ((Ga.cx C).off Fb.keep hqa) (Nat.le_trans hroom' (by decide)) Hb (by rw [List.size_toArray, hti]; exact Nat.le_trans hi' (Nat.le_trans h20 (by decide))) (Int.natCast_nonneg nn) (.inl rfl) fun hp tkp l hkp Hp hlp hl0 => ?_)
    dsimp only
    have hkq := fun b o (hb : b ≠ q) e => hkp b o (by rw [Heap.hide_ne _ hb]; exact e)
    have Fp := off_fr' Fb hkq (acc_neL Fb Hb).symm hqa
    have firmp := firmb.trans (Firm.ofAcc Hb hkp)
    have stp : IsRangeIter hp _ _ _ _ := hkq _ _ (by
      rintro e
      obtain ⟨d, n, t, u, h1, _⟩ := Hb
      rw [← e, stb] at h1
      cases h1) stb
    have Hp0 : AccAt w hp q (vq.take nn).toArray := by
      have e1 : (min (nn : Int) ((vq.take (ord.length - i)).toArray.size : Int)).toNat = nn := by rw [List.size_toArray, hti]; exact min_cast nn
      rw [e1] at Hp
      have e2 : (vq.take (ord.length - i)).toArray.extract 0 nn = (vq.take nn).toArray := by
        rw [hoi, List.extract_toArray, List.extract_eq_take_drop, List.drop_zero, Nat.sub_zero, List.take_take, Nat.min_eq_left (Nat.le_succ nn)]
      rw [e2] at Hp; exact Hp
    have hlp' : hp.IsList l #[vq[nn]] := by
      have e2 : ((vq.take (ord.length - i)).toArray.toList.drop ((nn : Int)).toNat).toArray = #[vq[nn]] := by
        rw [Int.toNat_natCast, List.toList_toArray]
        rw [hoi, List.take_succ_eq_append_getElem hqlt, List.drop_append_of_le_length (by rw [List.length_take]; exact Nat.le_min.mpr ⟨Nat.le_refl _, Nat.le_of_lt hqlt⟩), List.drop_of_length_le (by rw [List.length_take]; exact Nat.min_le_left _ _)]
        rfl
      rw [e2] at hlp; exact hlp
    have hlL : l ≠ L := list_neL Fp hlp'
    have hplt : nn < pp.length := hpn.symm ▸ hi'
    obtain ⟨T, t1, t2, hvT, hT⟩ := (firmp.sheet hSq).2 nn pp[nn].1 pp[nn].2 (List.getElem?_eq_getElem hplt)
    have hvT : vq[nn] = .ref T := by
      have hvT : vq[nn]? = some (PySem.Value.ref T) := hvT
      rw [List.getElem?_eq_getElem hqlt] at hvT
      injection hvT
    rw [hvT] at hlp'
    refine wpAny_storeName_local (by rfl) Fp.ns (fun hc hnc hsc => ?_) (by rfl)
    have kc : ∀ b o, b ≠ L → hp.get? b = some o → hc.get? b = some o := fun b o hb e => hsc.extBut b o hb e
    have Fc := fr_ex (m' := r3 m (some (.int (nn : Int) t)) (some (.ref l)) vd) ⟨hnc, fun b o e => kc b o (fun q => by rw [q, hL0] at e; cases e) (Fp.keep b o e), Fp.above⟩ (fun y => r3_taken _ _ _ _ _ y)
    have Hc := Hp0.keepL Fp (r3_ini _ _ _ hmi) kc
    have firmc := firmp.trans (Firm.ofL Fp kc)
    have stc := kc _ _ (Nat.ne_of_gt hL5) stp
    have hlc := (Firm.ofL Fp kc).list hlp'
    have hTc := (Firm.ofL Fp kc).tuple hT
    clear Hb firmb stb Hp Hp0 firmp stp hlp hlp' hkp hkq hl0 hnc hsc Fp Fb
    dsimp only
    refine wpC_execs_cons (wpC_of_any (wpAny_If (wpAny_isTrue_Compare1 ?_)))
    have X' := (Ga.cx C).X
    have T' := (Ga.cx C).T
    have F' := Fc
    have N' : News ga L hc (allAt ga L hc) := allAt_news ga L hc
    have kbc := @kept_same _ _ _ _ Fc
    have fic := fun h' => @Firm.ofL _ _ h' _ _ Fc
    have Hcc := fun h' => @AccAt.keepL _ _ _ h' _ _ _ _ Hc Fc (r3_ini _ _ _ hmi)
    k_steps
    refine name_local' Fc.ns hmp ?_ (by exact rfl) (by kernel_rfl) (by decide)
    refine name_local' Fc.ns (v := .int (nn : Int) t) (by rfl) ?_ (by exact rfl) (by kernel_rfl) (by decide)
    obtain ⟨T', t1', t2', hvT', hT'⟩ := (firmc.sheet hS).2 nn pp[nn].1 pp[nn].2 (List.getElem?_eq_getElem hplt)
    refine item_listL (x := .ref T') (firmc.plain hDp).isList (Int.natCast_nonneg nn) (small63 hi' h20) (by rw [Int.toNat_natCast]; exact hvT') ?_
    k_steps
    rename_i Ln hd Fd Nd ld
    have kd := kbc Fd (fun p hp => Nd p (.tail _ hp))
    obtain ⟨oL, hoL⟩ : ∃ oL, hd.get? Ln = some oL := ⟨_, (Nd _ (.head _)).1⟩
    have firmd := firmc.trans (fic _ kd)
    have Hd := Hcc _ kd
    have std := kd _ _ (Nat.ne_of_gt hL5) stc
    have hld := (fic _ kd).list hlc
    have hTd := (fic _ kd).tuple hTc
    have hTd' := (fic _ kd).tuple hT'
    obtain ⟨o1, b1, b2, n1, b3⟩ := id hld
    obtain ⟨o2, c1, c2, n2, c3⟩ := id hTd
    obtain ⟨o3, d1, d2, n3, d3⟩ := hTd'
    have rd1 : Reads hd (.ref l) (.list [.tuple [.str pp[nn].1, .str pp[nn].2]]) [l] := .list b1 b2 b3 (.cons (.tuple c1 c2 c3 (.cons (.str _ _) (.cons (.str _ _) .nil))) .nil)
    have rd2 : Reads hd (.ref Ln) (.list [.tuple [.str pp[nn].1, .str pp[nn].2]]) [Ln] := .list (Nd _ (.head _)).1 rfl rfl (.cons (.tuple d1 d2 d3 (.cons (.str _ _) (.cons (.str _ _) .nil))) .nil)
    have hk20 : ord[nn] < ps.length := hord _ (List.getElem_mem hi')
    have hpk : pp[nn] = (colOf (ps.getD ord[nn] none) wd, letOf ord[nn]) := by
      have : (partsIn ps wd ord)[nn]? = some (colOf (ps.getD ord[nn] none) wd, letOf ord[nn]) := by
        unfold partsIn
        rw [List.getElem?_map, List.getElem?_eq_getElem hi']; rfl
      rw [← hpp.1, List.getElem?_eq_getElem hplt] at this
      injection this
    have hx : ∀ p, ps.getD ord[nn] none = some p → 0 ≤ p ∧ p < 100000 := fun p e => by
      rw [List.getD_eq_getElem?_getD, List.getElem?_eq_getElem hk20] at e
      exact hP.bound p (by rw [← show _ = some p from e]; exact List.getElem_mem hk20)
    have hlay : (PyData.list [.tuple [.str pp[nn].1, .str pp[nn].2]]).canLay0 = true := by
      rw [hpk]; exact pair_lay (col_ok hx) (let_ok (Nat.lt_of_lt_of_le hk20 hp20))
    have hcl : cLine = 9900 := rfl
    refine SeqAt.compareNe_reads rd1 rd2 hlay hlay (by
      rw [Around.deeper_units, Nat.min_self]
      exact units_lt hu (by simp only [PyData.depth, PyData.depthAll]; decide)) ?_
    have hev : PyData.eqv (.list [.tuple [.str pp[nn].1, .str pp[nn].2]]) (.list [.tuple [.str pp[nn].1, .str pp[nn].2]]) = true := by simp [PyData.eqv, PyData.eqvAll]
    rw [hev]
    refine wpAny_truthy_bool ?_
    rw [if_neg (by decide)]
    refine wpAny_execs_nil ?_
    dsimp only
    refine wpC_execs_cons (wpC_of_any ?_)
    clear b1 b2 b3 c1 c2 c3 d1 d2 d3 rd1 rd2 firmc stc
    have Fd : Fr ga L hd (r3 m (some (.int (nn : Int) t)) (some (.ref l)) vd) := Fd
    have X' := (Ga.cx C).X
    have T' := (Ga.cx C).T
    have F' := Fd
    have N' : News ga L hd (allAt ga L hd) := allAt_news ga L hd
    have kbd := @kept_same _ _ _ _ Fd
    have fid := fun h' => @Firm.ofL _ _ h' _ _ Fd
    have Hdd := fun h' => @AccAt.keepL _ _ _ h' _ _ _ _ Hd Fd (r3_ini _ _ _ hmi)
    k_steps
    rename_i he Fe Ne
    have Fe : Fr ga L he (r3 m (some (.int (nn : Int) t)) (some (.ref l)) (some (.str (Str.ofString "no number") (tkp + 1)))) := fr_ex Fe (fun y => r3_due _ _ _ _ _ y)
    have ke := kbd Fe Ne
    have firme := firmd.trans (fid _ ke)
    have He := Hdd _ ke
    have ste := ke _ _ (Nat.ne_of_gt hL5) std
    have hle := (fid _ ke).list hld
    have hTe := (fid _ ke).tuple hTd
    clear firmd Hd std hld hTd
    dsimp only
    obtain ⟨items, hli, hpi⟩ := (firme.ports hP).ex
    obtain ⟨⟨oc1, hoc1, hdc1⟩, _⟩ := firme.cells hC
    have hga1 : ga.get? (L + 1) = none := Heap.get?_none_of_le (Nat.le_trans Fe.above (Nat.le_succ L))
    have hlen : items.length = ps.length := hpi.length.symm
    have hport := port_at hpi hk20 (hlen.symm ▸ hk20 : ord[nn] < items.length)
    obtain ⟨tk9, hyk⟩ := hY.2 nn ord[nn] (List.getElem?_eq_getElem hi')
    refine wpC_execs_cons (wpC_of_any (wpAny_mono (Q := DueP ga he s L l m (.int (nn : Int) t) (ps.getD ord[nn] none)) ?_ (fun f s₃ hq => ?_) (fun _ _ x => x)))
    · have X' := (Ga.cx C).X
      have T' := (Ga.cx C).T
      have F' := Fe
      have N' : News ga L he ((L + 1, oc1) :: allAt ga L he) := fun p hp => by
        rcases List.mem_cons.mp hp with rfl | hp
        · exact ⟨hoc1, Nat.ne_of_gt (Nat.lt_succ_self L), hga1⟩
        · exact allAt_news ga L he p hp
      have kbe := @kept_same _ _ _ _ Fe
      have hDoE := (firme.plain hDo).isList
      have hyk' : ys[nn]? = some (PySem.Value.int (ord[nn] : Int) tk9) := hyk
      k_steps
      refine name_local' Fe.ns hmo ?_ (by exact rfl) (by kernel_rfl) (by decide)
      refine name_local' Fe.ns (v := .int (nn : Int) t) (by rfl) ?_ (by exact rfl) (by kernel_rfl) (by decide)
      refine item_listL (x := .int (ord[nn] : Int) tk9) hDoE (Int.natCast_nonneg nn) (small63 hi' h20) (by rw [Int.toNat_natCast]; exact hyk') ?_
      k_steps
      have hgD : ∀ x, ps[ord[nn]] = x → ps.getD ord[nn] none = x := fun x e => by rw [List.getD_eq_getElem?_getD, List.getElem?_eq_getElem hk20, e]; rfl
      have hfic := fun h' => @Firm.ofL _ _ h' _ _ Fe
      cases hpx : ps[ord[nn]] with
      | none =>
        rw [hpx] at hport
        have hv : items[ord[nn]] = PySem.Value.none := hport
        refine item_listL (x := .none) hli.isList (Int.natCast_nonneg _) (small63 hk20 hp20) (by rw [Int.toNat_natCast, List.getElem?_eq_getElem (hlen.symm ▸ hk20), hv]) ?_
        k_steps
        all_goals (try dsimp only)
        exact ⟨rfl, _, _, _, rfl, Fe, fun _ _ _ e => e, .inl ⟨hgD _ hpx, _, rfl⟩⟩
      | some p =>
        rw [hpx] at hport
        obtain ⟨u, hv⟩ : ∃ u, items[ord[nn]] = PySem.Value.int p u := hport
        refine item_listL (x := .int p u) hli.isList (Int.natCast_nonneg _) (small63 hk20 hp20) (by rw [Int.toNat_natCast, List.getElem?_eq_getElem (hlen.symm ▸ hk20), hv]) ?_
        k_steps
        refine name_local' Fe.ns hmo ?_ (by exact rfl) (by kernel_rfl) (by decide)
        refine name_local' Fe.ns (v := .int (nn : Int) t) (by rfl) ?_ (by exact rfl) (by kernel_rfl) (by decide)
        refine item_listL (x := .int (ord[nn] : Int) tk9) hDoE (Int.natCast_nonneg nn) (small63 hi' h20) (by rw [Int.toNat_natCast]; exact hyk') ?_
        k_steps
        refine item_listL (x := .int p u) hli.isList (Int.natCast_nonneg _) (small63 hk20 hp20) (by rw [Int.toNat_natCast, List.getElem?_eq_getElem (hlen.symm ▸ hk20), hv]) ?_
        k_steps
        all_goals (try dsimp only)
        rename_i Tz h1z lz hz Fz Nz
        have Fz : Fr ga L hz (r3 m (some (.int (nn : Int) t)) (some (.ref l)) (some (.ref Tz))) := fr_ex Fz (fun y => r3_due _ _ _ _ _ y)
        exact ⟨rfl, _, _, _, rfl, Fz, kbe Fz (fun p hp => Nz p (.tail _ (.tail _ hp))), .inr ⟨p, Tz, _, _, hgD _ hpx, rfl, _, (Nz _ (.head _)).1, rfl, _, rfl⟩⟩
    · obtain ⟨rfl, hg, tkg, due, rfl, Fg, kg, hdue⟩ := hq
      dsimp only
      have firmg := firme.trans (Firm.ofL Fe kg)
      have Hg := He.keepL Fe (r3_ini _ _ _ hmi) kg
      have stg := kg _ _ (Nat.ne_of_gt hL5) ste
      have hlg := (Firm.ofL Fe kg).list hle
      have hTg := (Firm.ofL Fe kg).tuple hTe
      clear He ste hle hTe Fe kg
      refine wpC_execs_cons (wpC_If (wpC_isTrue_Compare1 (wpC_Call ?_)))
      have X' := (Ga.cx C).X
      have T' := (Ga.cx C).T
      have F' := Fg
      have N' : News ga L hg (allAt ga L hg) := allAt_news ga L hg
      k_steps
      have Fgt : Fr ga L hg (r3 m (some (.int (nn : Int) t)) (some (.ref l)) (some due)) ∧ True := ⟨Fg, trivial⟩
      refine wpC_callWith_K ((Ga.cx C).keeps Fg.keep).X (by first | k_is | kernel_rfl) ?_
      have hl1 : (colOf (ps.getD ord[nn] none) wd).length ≤ 5 := by
        have e1 := (col_len (wd := wd) hx hw.1 hw.2).2
        have e2 : (colOf (ps.getD ord[nn] none) wd).length = (colOf (ps.getD ord[nn] none) wd).cps.toList.length := Array.length_toList.symm
        rw [e2, col_list]; exact e1
      k_steps
      rw [hpk]
      refine PyProof.Rows.add_str (fun ta tka' => ?_) (Nat.le_trans (Nat.add_le_add (Nat.le_refl _) hl1) (by decide))
      k_steps
      have Fg := Fgt.1
      refine wpC_call (read_col w C (Ga.below Fg rfl rfl) (Ga.dicts Fg rfl) (by exact hh) (Nat.le_trans hroom' (by decide)) hx hw.1 hw.2 hdue fun h9 tk9 g9 v9 T9 S9 hv9 => ?_)
      dsimp only
      obtain ⟨g6, G6, F6, hg6, hk6, hg5⟩ := Ga.after Fg rfl T9 S9
      have firm9 := firmg.trans (Ga.firm Fg rfl T9 S9)
      have H9 := Ga.acc Na Fg (r3_ini _ _ _ hmi) Hg rfl T9 S9
      refine wpAny_Name (wpAny_loadName_local (by rfl) (by rfl) F6.ns (by rfl) ?_) (by decide)
      obtain ⟨d5, rd1, rd2, rd3, rd4, rd5⟩ := hv9
      refine SeqAt.compareNe_reads rd1 rd2 rd3 rd3 (by
        rw [Around.deeper_units, Nat.min_self]
        exact units_lt hu (Nat.le_trans rd4 (by decide))) ?_
      rw [rd5]
      refine wpAny_truthy_bool ?_
      (try dsimp only)
      rw [if_neg (by decide)]
      refine wpC_of_any (wpAny_execs_nil ?_)
      dsimp only
      refine wpC_of_any (wpAny_execs_nil ?_)
      dsimp only
      rw [← ho'] at H9
      exact ⟨⟨h9, tk9, g6, _, _, _, rfl, G6, N₀.turn G6.T, F6, H9, hg6 _ hqa, firm9⟩, hk6 _ _ (Nat.ne_of_gt hL5) (kG Ga _ h50') stg⟩
  · rintro s' ⟨ha, tka, ga, vn, vt, vd, rfl, Ga, Na, Fa, Ha, hqa, firm⟩
    dsimp only
    refine wpC_of_any ?_
    have X' := (Ga.cx C).X
    have T' := (Ga.cx C).T
    have F' := Fa
    have N' : News ga L ha (allAt ga L ha) := allAt_news ga L ha
    k_steps
    exact done _ _ _ _ Ga Fa firm
end
end Mine
end

section
open PySem PySem.W PyProof.Rows PySem.Calls
namespace Mine
/-- a pass is stable -/
theorem passOf_pairwise {R : Str × Str → Str × Str → Prop} {sg : Str × Str → Nat} {l : List (Str × Str)} (h : l.Pairwise R) : (passOf sg l).Pairwise fun x y => sg x < sg y ∨ (sg x = sg y ∧ R x y) := by
  unfold passOf rowsOf
  rw [List.pairwise_flatten]
  constructor
  · intro r hr
    obtain ⟨k, _, rfl⟩ := List.mem_map.mp hr
    refine List.Pairwise.imp_of_mem ?_ (h.filter _)
    intro x y hx hy hxy
    have hx := (List.mem_filter.mp hx).2
    have hy := (List.mem_filter.mp hy).2
    have hx : sg x = k := by simpa using hx
    have hy : sg y = k := by simpa using hy
    exact .inr ⟨hx.trans hy.symm, hxy⟩
  · rw [List.pairwise_map]
    refine List.Pairwise.imp ?_ List.pairwise_lt_range
    intro a b hab x hx y hy
    have hx := (List.mem_filter.mp hx).2
    have hy := (List.mem_filter.mp hy).2
    have hx : sg x = a := by simpa using hx
    have hy : sg y = b := by simpa using hy
    exact .inl (by omega)

/-- the order after some passes -/
noncomputable def After (R : Str × Str → Str × Str → Prop) (wd : Int) : Nat → Str × Str → Str × Str → Prop
  | 0 => R
  | i + 1 => fun x y => sgAt (wd - 1 + (i : Int) * (-1)) x < sgAt (wd - 1 + (i : Int) * (-1)) y ∨ (sgAt (wd - 1 + (i : Int) * (-1)) x = sgAt (wd - 1 + (i : Int) * (-1)) y ∧ After R wd i x y)
theorem passes_pairwise {R : Str × Str → Str × Str → Prop} {pts : List (Str × Str)} {wd : Int} (h : pts.Pairwise R) : ∀ i, (passes_ pts wd i).Pairwise (After R wd i)
  | 0 => h
  | i + 1 => passOf_pairwise (passes_pairwise h i)

/-- the value of a column by its last signs -/
noncomputable def valAt (wd : Int) : Nat → Str × Str → Nat
  | 0, _ => 0
  | i + 1, x => sgAt (wd - 1 + (i : Int) * (-1)) x * 12 ^ i + valAt wd i x
theorem val_lt {wd : Int} {x : Str × Str} : ∀ (i : Nat), (∀ j, j < i → sgAt (wd - 1 + (j : Int) * (-1)) x < 12) → valAt wd i x < 12 ^ i
  | 0, _ => by simp [valAt]
  | i + 1, h => by
    have h1 := val_lt i fun j hj => h j (Nat.lt_succ_of_lt hj)
    have h2 := h i (Nat.lt_succ_self i)
    simp only [valAt]
    rw [Nat.pow_succ]
    have : sgAt (wd - 1 + (i : Int) * (-1)) x * 12 ^ i ≤ 11 * 12 ^ i := Nat.mul_le_mul_right _ (by omega)
    omega
theorem after_val {R : Str × Str → Str × Str → Prop} {wd : Int} {x y : Str × Str} : ∀ (i : Nat), (∀ j, j < i → sgAt (wd - 1 + (j : Int) * (-1)) x < 12 ∧ sgAt (wd - 1 + (j : Int) * (-1)) y < 12) → After R wd i x y →
    valAt wd i x < valAt wd i y ∨ (valAt wd i x = valAt wd i y ∧ R x y)
  | 0, _, h => .inr ⟨rfl, h⟩
  | i + 1, hs, h => by
    have hx := val_lt (wd := wd) (x := x) i fun j hj => (hs j (Nat.lt_succ_of_lt hj)).1
    have hy := val_lt (wd := wd) (x := y) i fun j hj => (hs j (Nat.lt_succ_of_lt hj)).2
    simp only [valAt]
    rcases h with h | ⟨h, h'⟩
    · left
      have : sgAt (wd - 1 + (i : Int) * (-1)) x * 12 ^ i + 12 ^ i ≤ sgAt (wd - 1 + (i : Int) * (-1)) y * 12 ^ i := by
        rw [← Nat.succ_mul]; exact Nat.mul_le_mul_right _ h
      omega
    · rw [h]
      rcases after_val i (fun j hj => hs j (Nat.lt_succ_of_lt hj)) h' with h2 | ⟨h2, h3⟩
      · left; omega
      · right; exact ⟨by omega, h3⟩
end Mine
end

section
open PySem PySem.W PyProof.Rows PySem.Calls
namespace Mine
/-- two sorted lists of the same things are the same -/
theorem sorted_unique {α : Type} {S : α → α → Prop} (asym : ∀ a b, S a b → ¬ S b a) : ∀ {l₁ l₂ : List α}, l₁.Perm l₂ → l₁.Pairwise S → l₂.Pairwise S → l₁ = l₂
  | [], l₂, hp, _, _ => hp.nil_eq
  | a :: l₁, [], hp, _, _ => absurd hp.length_eq (by simp)
  | a :: l₁, b :: l₂, hp, h1, h2 => by
    rw [List.pairwise_cons] at h1 h2
    have hab : a = b := by
      have m1 : b ∈ a :: l₁ := hp.mem_iff.mpr (.head _)
      have m2 : a ∈ b :: l₂ := hp.mem_iff.mp (.head _)
      rcases List.mem_cons.mp m1 with e | m1
      · exact e.symm
      · rcases List.mem_cons.mp m2 with e | m2
        · exact e
        · exact absurd (h2.1 _ m2) (asym _ _ (h1.1 _ m1))
    subst hab
    rw [sorted_unique asym (List.Perm.cons_inv hp) h1.2 h2.2]

theorem parts_partsIn (ps : List (Option Int)) (wd : Int) : parts ps wd = partsIn ps wd (List.range ps.length) := by
  unfold parts partsIn
  apply List.ext_getElem?
  intro i
  rw [List.getElem?_map, List.getElem?_map, List.getElem?_zipIdx]
  by_cases h : i < ps.length
  · rw [List.getElem?_range h]
    simp [h]
  · rw [List.getElem?_eq_none (by omega), List.getElem?_eq_none (by simp; omega)]
    rfl
/-- which letter -/
noncomputable def ltr (x : Str × Str) : Nat := x.2.cps.getD 0 0
theorem ltr_let (c : Str) (k : Nat) : ltr (c, letOf k) = 97 + k := rfl
noncomputable def R0 (x y : Str × Str) : Prop := ltr x < ltr y
/-- the whole order -/
noncomputable def RV (V : Str × Str → Nat) (x y : Str × Str) : Prop := V x < V y ∨ (V x = V y ∧ R0 x y)
theorem RV.asym {V : Str × Str → Nat} (a b : Str × Str) (h : RV V a b) : ¬ RV V b a := by
  unfold RV R0 at *; omega
theorem parts_R0 (ps : List (Option Int)) (wd : Int) : (parts ps wd).Pairwise R0 := by
  rw [parts_partsIn]
  unfold partsIn
  rw [List.pairwise_map]
  refine List.Pairwise.imp ?_ List.pairwise_lt_range
  intro a b h
  show 97 + a < 97 + b
  omega
theorem partsIn_perm {ps : List (Option Int)} {wd : Int} {p : Array Nat} (hp : PermOk ps.length p) : (partsIn ps wd p.toList).Perm (parts ps wd) := by
  rw [parts_partsIn]
  unfold partsIn
  refine List.Perm.map _ ?_
  have : p.toList.Perm (List.range ps.length).toArray.toList := Array.Perm.toList hp
  simpa using this
end Mine
end

section
open PySem PySem.W PyProof.Rows PySem.Calls PySem.NumText
namespace Mine
/-- the row of a sign -/
noncomputable def sgC (c : Nat) : Nat := (Txt.find (Str.ofString " -0123456789") ⟨#[c]⟩).toNat
noncomputable def hor : List Nat → Nat
  | [] => 0
  | c :: l => sgC c * 12 ^ l.length + hor l
theorem sg_blank : sgC 32 = 0 := by decide +kernel
theorem sg_dash : sgC 45 = 1 := by decide +kernel
theorem sg_dig {d : Nat} (h : d < 10) : sgC (48 + d) = 2 + d := by
  have : ∀ d, d < 10 → sgC (48 + d) = 2 + d := by decide +kernel
  exact this d h
theorem hor_snoc : ∀ (l : List Nat) (c : Nat), hor (l ++ [c]) = 12 * hor l + sgC c
  | [], c => by simp [hor]
  | a :: l, c => by
    simp only [List.cons_append, hor, hor_snoc l c, List.length_append, List.length_singleton, Nat.pow_succ]
    rw [← Nat.mul_assoc, Nat.mul_add, Nat.mul_comm 12 (sgC a * 12 ^ l.length)]
    omega
theorem hor_blanks : ∀ (k : Nat) (l : List Nat), hor (List.replicate k 32 ++ l) = hor l
  | 0, _ => by simp
  | k + 1, l => by
    rw [List.replicate_succ, List.cons_append]
    simp only [hor, sg_blank, Nat.zero_mul, Nat.zero_add]
    exact hor_blanks k l
theorem hor_num_small {m : Nat} (h : m < 10) : hor (numCps m) = 2 + m := by
  have : ∀ m, m < 10 → hor (numCps m) = 2 + m := by decide +kernel
  exact this m h
theorem hor_num_big {m : Nat} (h : ¬ m < 10) : hor (numCps m) = 12 * hor (numCps (m / 10)) + (2 + m % 10) := by
  rw [numCps_cons h, hor_snoc]
  congr 1
  exact sg_dig (Nat.mod_lt _ (by decide))
theorem hor_num_ge (m : Nat) : 2 ≤ hor (numCps m) := by
  by_cases h : m < 10
  · rw [hor_num_small h]; omega
  · rw [hor_num_big h]; omega
theorem hm1 {a H c : Nat} (ha : a < 10) (hg : 2 ≤ H) : 2 + a < 12 * H + (2 + c) := by omega
theorem hm2 {a b : Nat} (hab : a < b) (he : a / 10 = b / 10) : a % 10 < b % 10 := by omega
theorem hm3 {x y p q : Nat} (h : x < y) (hp : p < 10) : 12 * x + (2 + p) < 12 * y + (2 + q) := by omega
theorem hm5 {H c : Nat} (hg : 2 ≤ H) : 13 < 12 * H + (2 + c) := by omega
theorem hk1 {q : Int} (h : 19 < 2 * q) : 10 ≤ q.toNat := by omega
theorem hk2 {p : Int} (h : 2 * p < 19) : p.toNat < 10 := by omega
theorem hk3 {p q : Int} (h : 2 * p < 2 * q) (hp : 0 ≤ p) : p.toNat < q.toNat := by omega
theorem hor_mono : ∀ (b a : Nat), a < b → hor (numCps a) < hor (numCps b) := by
  intro b
  induction b using Nat.strongRecOn with
  | _ b ih =>
    intro a hab
    by_cases hb : b < 10
    · rw [hor_num_small hb, hor_num_small (Nat.lt_trans hab hb)]; exact Nat.add_lt_add_left hab 2
    · rw [hor_num_big hb]
      have hg := hor_num_ge (b / 10)
      by_cases ha : a < 10
      · rw [hor_num_small ha]; exact hm1 ha hg
      · rw [hor_num_big ha]
        by_cases he : a / 10 = b / 10
        · rw [he]; exact Nat.add_lt_add_left (Nat.add_lt_add_left (hm2 hab he) 2) _
        · exact hm3 (ih (b / 10) (Nat.div_lt_self (Nat.zero_lt_of_lt hab) (by decide)) (a / 10) (Nat.lt_of_le_of_ne (Nat.div_le_div_right (Nat.le_of_lt hab)) he)) (Nat.mod_lt _ (by decide))
/-- the value of a column -/
noncomputable def horOf (x : Option Int) : Nat := match x with
  | none => 13
  | some p => hor (numCps p.toNat)
theorem hor_col {x : Option Int} {wd : Int} (hx : ∀ p, x = some p → 0 ≤ p) : hor (colList x wd) = horOf x := by
  cases x with
  | none =>
    show hor (List.replicate _ 32 ++ [45, 45]) = 13
    rw [hor_blanks]; decide +kernel
  | some p =>
    show hor (List.replicate _ 32 ++ (fig p).cps.toList) = _
    rw [hor_blanks, fig_nat (hx p rfl)]; rfl
theorem hor_key {x y : Option Int} {wd : Int} (hw : 0 < wd) (hx : ∀ p, x = some p → 0 ≤ p) (hy : ∀ p, y = some p → 0 ≤ p) (h : keyOf x wd < keyOf y wd) : horOf x < horOf y := by
  have h10 : ∀ m, 10 ≤ m → 13 < hor (numCps m) := fun m hm => by
    rw [hor_num_big (Nat.not_lt.mpr hm)]
    exact hm5 (hor_num_ge (m / 10))
  unfold keyOf at h
  simp only [gt_iff_lt, hw, if_true] at h
  cases x with
  | none =>
    cases y with
    | none => simp at h
    | some q =>
      have := hy q rfl
      simp only at h
      exact h10 _ (hk1 h)
  | some p =>
    have hp := hx p rfl
    cases y with
    | none =>
      simp only at h
      show hor (numCps p.toNat) < 13
      rw [hor_num_small (hk2 h)]; exact Nat.lt_of_lt_of_le (Nat.add_lt_add_left (hk2 h) 2) (by decide)
    | some q =>
      have := hy q rfl
      simp only at h
      exact hor_mono _ _ (hk3 h hp)
end Mine
end

section
open PySem PySem.W PyProof.Rows PySem.Calls PySem.NumText
namespace Mine
theorem sgAt_of {x y : Str} {p : Int} {c : Nat} (h : Txt.item x p = ⟨#[c]⟩) : sgAt p (x, y) = sgC c := by
  unfold sgAt sgC
  dsimp only
  rw [h]
theorem val_hor {y : Str} : ∀ l : List Nat, l.length ≤ 5 → valAt (l.length : Int) l.length (⟨l.toArray⟩, y) = hor l
  | [], _ => rfl
  | [a], _ => by
    simp only [List.length_cons, List.length_nil, valAt, hor]
    rw [sgAt_of (c := a) (by rfl)]
  | [a, b], _ => by
    simp only [List.length_cons, List.length_nil, valAt, hor]
    rw [sgAt_of (c := a) (by rfl), sgAt_of (c := b) (by rfl)]
  | [a, b, c], _ => by
    simp only [List.length_cons, List.length_nil, valAt, hor]
    rw [sgAt_of (c := a) (by rfl), sgAt_of (c := b) (by rfl), sgAt_of (c := c) (by rfl)]
  | [a, b, c, d], _ => by
    simp only [List.length_cons, List.length_nil, valAt, hor]
    rw [sgAt_of (c := a) (by rfl), sgAt_of (c := b) (by rfl), sgAt_of (c := c) (by rfl), sgAt_of (c := d) (by rfl)]
  | [a, b, c, d, e], _ => by
    simp only [List.length_cons, List.length_nil, valAt, hor]
    rw [sgAt_of (c := a) (by rfl), sgAt_of (c := b) (by rfl), sgAt_of (c := c) (by rfl), sgAt_of (c := d) (by rfl), sgAt_of (c := e) (by rfl)]
  | _ :: _ :: _ :: _ :: _ :: _ :: _, h => by simp at h
end Mine
end

section
open PySem PySem.W PyProof.Rows PySem.Calls PySem.NumText
namespace Mine
theorem width_3 {G : Int} {b : Bool} (h : 0 < widthOf G b) : 3 ≤ widthOf G b := by
  unfold widthOf at h ⊢
  by_cases h0 : G = 0
  · rw [if_pos h0] at h; exact absurd h (Int.lt_irrefl 0)
  · rw [if_neg h0]
    (repeat' split) <;> decide
theorem width_4 {G : Int} {b : Bool} (h : 1000 ≤ G) : 4 ≤ widthOf G b := by
  unfold widthOf
  rw [if_neg (fun e => absurd (e ▸ h) (by decide)), if_neg (Int.not_lt.mpr h)]
  split <;> decide
theorem width_5 {G : Int} {b : Bool} (h : 10000 ≤ G) : 5 ≤ widthOf G b := by
  unfold widthOf
  rw [if_neg (fun e => absurd (e ▸ h) (by decide)), if_neg (Int.not_lt.mpr (Int.le_trans (by decide) h)), if_neg (Int.not_lt.mpr h)]
  exact Int.le_refl 5
theorem pad_len {p : Int} {wd : Int} (h : ((fig p).length : Int) ≤ wd) : (colList (some p) wd).length = wd.toNat := by
  have hl : (fig p).cps.toList.length = (fig p).length := Array.length_toList
  have hf : (fig p).length = (Str.ofString (toString p)).length := rfl
  simp only [colList, List.length_append, List.length_replicate]
  omega
theorem col_wide {ps : List (Option Int)} (hP : ∀ p, some p ∈ ps → 0 ≤ p ∧ p < 100000) (hw : 0 < wideOf ps) {x : Option Int} (hx : x ∈ ps) : (colList x (wideOf ps)).length = (wideOf ps).toNat := by
  cases x with
  | none =>
    have : 2 ≤ wideOf ps := Int.le_trans (by decide) (width_3 (G := greatest ps) (b := ps.any (·.isNone)) hw)
    simp only [colList, List.length_append, List.length_replicate, List.length_cons, List.length_nil]
    omega
  | some p =>
    obtain ⟨h0, h1⟩ := hP p hx
    have hg := (greatest_ge (ps := ps)).2 p (List.mem_filterMap.mpr ⟨some p, hx, rfl⟩)
    obtain ⟨⟨f1, f2⟩, f3, f4, f5⟩ := fig_wide h0 h1
    have hl : (fig p).cps.toList.length = (fig p).length := Array.length_toList
    have hf : (fig p).length = (Str.ofString (toString p)).length := rfl
    have : ((fig p).length : Int) ≤ wideOf ps := by
      unfold wideOf at hw ⊢
      by_cases c1 : p < 1000
      · exact Int.le_trans (Int.ofNat_le.mpr (f3 c1)) (width_3 hw)
      · have c1 := Int.not_lt.mp c1
        by_cases c2 : p < 10000
        · exact Int.le_trans (Int.ofNat_le.mpr (Nat.le_of_eq (f4 c1 c2))) (width_4 (Int.le_trans c1 hg))
        · have c2 := Int.not_lt.mp c2
          exact Int.le_trans (Int.ofNat_le.mpr (Nat.le_of_eq (f5 c2))) (width_5 (Int.le_trans c2 hg))
    exact pad_len this
end Mine
end

section
open PySem PySem.W PyProof.Rows PySem.Calls PySem.NumText
namespace Mine
theorem col_str (x : Option Int) (wd : Int) : colOf x wd = ⟨(colList x wd).toArray⟩ := str_of_list (col_list x wd)
theorem val_col {ps : List (Option Int)} (hP : ∀ p, some p ∈ ps → 0 ≤ p ∧ p < 100000) (hw : 0 < wideOf ps) {x : Option Int} (hx : x ∈ ps) (y : Str) : valAt (wideOf ps) (wideOf ps).toNat (colOf x (wideOf ps), y) = horOf x := by
  have hl := col_wide hP hw hx
  have hb := (wide_bounds ps).2
  have h := val_hor (y := y) (colList x (wideOf ps)) (by omega)
  rw [hl, hor_col (fun p e => (hP p (e ▸ hx)).1), Int.toNat_of_nonneg (Int.le_of_lt hw)] at h
  rw [col_str]
  exact h
/-- the sign at a place -/
theorem item_at : ∀ (l : List Nat), l.length ≤ 5 → ∀ k (h : k < l.length), Txt.item (⟨l.toArray⟩ : Str) ((k : Nat) : Int) = ⟨#[l[k]]⟩
  | [], _, k, h => by simp at h
  | [a], _, k, h => by
    have : k = 0 := (by decide : ∀ m : Fin 1, m.val = 0) ⟨k, h⟩
    subst this; rfl
  | [a, b], _, k, h => by
    have : k = 0 ∨ k = 1 := (by decide : ∀ m : Fin 2, m.val = 0 ∨ m.val = 1) ⟨k, h⟩
    rcases this with rfl | rfl <;> rfl
  | [a, b, c], _, k, h => by
    have : k = 0 ∨ k = 1 ∨ k = 2 := (by decide : ∀ m : Fin 3, m.val = 0 ∨ m.val = 1 ∨ m.val = 2) ⟨k, h⟩
    rcases this with rfl | rfl | rfl <;> rfl
  | [a, b, c, d], _, k, h => by
    have : k = 0 ∨ k = 1 ∨ k = 2 ∨ k = 3 := (by decide : ∀ m : Fin 4, m.val = 0 ∨ m.val = 1 ∨ m.val = 2 ∨ m.val = 3) ⟨k, h⟩
    rcases this with rfl | rfl | rfl | rfl <;> rfl
  | [a, b, c, d, e], _, k, h => by
    have : k = 0 ∨ k = 1 ∨ k = 2 ∨ k = 3 ∨ k = 4 := (by decide : ∀ m : Fin 5, m.val = 0 ∨ m.val = 1 ∨ m.val = 2 ∨ m.val = 3 ∨ m.val = 4) ⟨k, h⟩
    rcases this with rfl | rfl | rfl | rfl | rfl <;> rfl
  | _ :: _ :: _ :: _ :: _ :: _ :: _, h, _, _ => by simp at h
theorem sign_ok {c : Nat} (h : c = 32 ∨ c = 45 ∨ (48 ≤ c ∧ c ≤ 57)) : 0 ≤ Txt.find (Str.ofString " -0123456789") ⟨#[c]⟩ ∧ Txt.find (Str.ofString " -0123456789") ⟨#[c]⟩ < 12 := by
  have key : ∀ c, c < 58 → (c = 32 ∨ c = 45 ∨ (48 ≤ c ∧ c ≤ 57)) → 0 ≤ Txt.find (Str.ofString " -0123456789") ⟨#[c]⟩ ∧ Txt.find (Str.ofString " -0123456789") ⟨#[c]⟩ < 12 := by decide +kernel
  exact key c (by omega) h
theorem place_1 {W : Int} {j n : Nat} (hj : (j : Int) < W) (hl : n = W.toNat) : W.toNat - 1 - j < n := by omega
theorem place_2 {W : Int} {j : Nat} (hj : (j : Int) < W) : W - 1 + (j : Int) * (-1) = ((W.toNat - 1 - j : Nat) : Int) := by omega
theorem to_5 {W : Int} {n : Nat} (hl : n = W.toNat) (hb : W ≤ 5) : n ≤ 5 := by omega
theorem cols_good {ps : List (Option Int)} (hP : ∀ p, some p ∈ ps → 0 ≤ p ∧ p < 100000) : ∀ x ∈ parts ps (wideOf ps), ∀ j : Nat, (j : Int) < wideOf ps → GoodAt x (wideOf ps - 1 + (j : Int) * (-1)) := by
  intro x hx j hj
  unfold parts at hx
  obtain ⟨⟨y, k⟩, hm, rfl⟩ := List.mem_map.mp hx
  have hy : y ∈ ps := by
    have := List.mem_zipIdx hm
    rw [this.2.2]; exact List.getElem_mem _
  have hl := col_wide hP (Int.lt_of_le_of_lt (Int.natCast_nonneg j) hj) hy
  have hb := (wide_bounds ps).2
  have hk : (wideOf ps).toNat - 1 - j < (colList y (wideOf ps)).length := place_1 hj hl
  have e : wideOf ps - 1 + (j : Int) * (-1) = (((wideOf ps).toNat - 1 - j : Nat) : Int) := place_2 hj
  have hi := item_at (colList y (wideOf ps)) (to_5 hl hb) _ hk
  have hs := sign_ok (col_signs (wd := wideOf ps) (fun p e => hP p (e ▸ hy)) _ (List.getElem_mem hk))
  unfold GoodAt
  dsimp only
  rw [e, col_str, hi]
  refine ⟨Int.natCast_nonneg _, ?_, hs.1, hs.2⟩
  show (((wideOf ps).toNat - 1 - j : Nat) : Int) < (((colList y (wideOf ps)).toArray.size : Nat) : Int)
  rw [List.size_toArray]; exact Int.ofNat_lt.mpr hk
end Mine
end

section
open PySem PySem.W PyProof.Rows PySem.Calls PySem.NumText
namespace Mine
theorem dealt_pairwise {ps : List (Option Int)} (hP : ∀ p, some p ∈ ps → 0 ≤ p ∧ p < 100000) :
    (passes_ (parts ps (wideOf ps)) (wideOf ps) (wideOf ps).toNat).Pairwise (RV (valAt (wideOf ps) (wideOf ps).toNat)) := by
  have hw := (wide_bounds ps).1
  have hg := cols_good hP
  have hm := passes_perm hg (wideOf ps).toNat (by omega)
  refine List.Pairwise.imp_of_mem ?_ (passes_pairwise (parts_R0 ps (wideOf ps)) (wideOf ps).toNat)
  intro x y hx hy h
  have hx := hm.mem_iff.mp hx
  have hy := hm.mem_iff.mp hy
  exact after_val _ (fun j hj => ⟨(hg x hx j (by omega)).sg, (hg y hy j (by omega)).sg⟩) h
theorem key_zero {x : Option Int} {wd : Int} (h : ¬ 0 < wd) : keyOf x wd = 0 := by
  unfold keyOf; rw [if_neg h]
theorem hor_key_eq {x y : Option Int} {wd : Int} (hw : 0 < wd) (hx : ∀ p, x = some p → 0 ≤ p) (hy : ∀ p, y = some p → 0 ≤ p) (h : keyOf x wd = keyOf y wd) : horOf x = horOf y := by
  unfold keyOf at h
  simp only [gt_iff_lt, hw, if_true] at h
  cases x with
  | none =>
    cases y with
    | none => rfl
    | some q => simp only at h; omega
  | some p =>
    cases y with
    | none => simp only at h; omega
    | some q =>
      simp only at h
      have : p = q := by omega
      rw [this]
theorem sorted_pairwise {ps : List (Option Int)} {p : Array Nat} (hP : ∀ p, some p ∈ ps → 0 ≤ p ∧ p < 100000) (hp : PermOk ps.length p) (ha : Asc (fun i => (ps.map fun x => keyOf x (wideOf ps)).getD i 0) p ps.length) :
    (partsIn ps (wideOf ps) p.toList).Pairwise (RV (valAt (wideOf ps) (wideOf ps).toNat)) := by
  unfold partsIn
  rw [List.pairwise_map, List.pairwise_iff_getElem]
  intro a b h1 h2 hab
  have hs := hp.size
  have hb : b < ps.length := by rw [← hs]; simpa using h2
  have h := ha a b hab hb
  have e1 : p.getD a 0 = p.toList[a] := by simp at h1; simp [Array.getD, h1]
  have e2 : p.getD b 0 = p.toList[b] := by simp at h2; simp [Array.getD, h2]
  have l1 := hp.lt (Nat.lt_trans hab hb)
  have l2 := hp.lt hb
  rw [e1] at h l1
  rw [e2] at h l2
  generalize p.toList[a] = i at h l1 ⊢
  generalize p.toList[b] = j at h l2 ⊢
  have g : ∀ k, k < ps.length → ps.getD k none ∈ ps := fun k hk => by
    rw [List.getD_eq_getElem?_getD, List.getElem?_eq_getElem hk]; exact List.getElem_mem hk
  have gk : ∀ k, k < ps.length → (ps.map fun x => keyOf x (wideOf ps)).getD k 0 = keyOf (ps.getD k none) (wideOf ps) := fun k hk => by
    simp [List.getD_eq_getElem?_getD, List.getElem?_eq_getElem hk]
  have nn : ∀ k (hk : k < ps.length) q, ps.getD k none = some q → 0 ≤ q := fun k hk q e => (hP q (e ▸ g k hk)).1
  unfold Lt at h
  dsimp only at h
  rw [gk i l1, gk j l2] at h
  unfold RV R0
  rw [ltr_let, ltr_let]
  by_cases hw : 0 < wideOf ps
  · rw [val_col hP hw (g i l1), val_col hP hw (g j l2)]
    rcases h with h | ⟨h, h'⟩
    · exact .inl (hor_key hw (nn i l1) (nn j l2) h)
    · exact .inr ⟨hor_key_eq hw (nn i l1) (nn j l2) h, by omega⟩
  · rw [key_zero hw, key_zero hw] at h
    have h0 : (wideOf ps).toNat = 0 := by omega
    rw [h0]
    refine .inr ⟨rfl, ?_⟩
    omega
theorem dealt_sorted {ps : List (Option Int)} {p : Array Nat} (hP : ∀ p, some p ∈ ps → 0 ≤ p ∧ p < 100000) (hp : PermOk ps.length p) (ha : Asc (fun i => (ps.map fun x => keyOf x (wideOf ps)).getD i 0) p ps.length) :
    passes_ (parts ps (wideOf ps)) (wideOf ps) (wideOf ps).toNat = partsIn ps (wideOf ps) p.toList :=
  sorted_unique RV.asym ((passes_perm (cols_good hP) _ (by have := (wide_bounds ps).1; omega)).trans (partsIn_perm hp).symm) (dealt_pairwise hP) (sorted_pairwise hP hp ha)
end Mine
end

section
open PySem PySem.W PyProof.Rows PySem.Calls PySem.NumText
namespace Mine
theorem short_parts {ps : List (Option Int)} (hP : ∀ p, some p ∈ ps → 0 ≤ p ∧ p < 100000) {ord : List Nat} (hl : ord.length ≤ 20) (ho : ∀ k ∈ ord, k < ps.length) : Short (partsIn ps (wideOf ps) ord) := by
  refine ⟨by simp [partsIn]; omega, fun x hx => ?_⟩
  obtain ⟨k, hk, rfl⟩ := List.mem_map.mp hx
  have hw := wide_bounds ps
  have hlt := ho k hk
  have hc := (col_len (x := ps.getD k none) (wd := wideOf ps) (fun p e => hP p (by
    rw [← e, List.getD_eq_getElem?_getD, List.getElem?_eq_getElem hlt]; exact List.getElem_mem hlt)) hw.1 hw.2).2
  refine ⟨?_, by show (1 : Nat) ≤ 100; decide⟩
  rw [col_str]
  show ((colList _ _).toArray.size : Nat) ≤ 100
  rw [List.size_toArray]; omega
end Mine
end

section
open PySem PySem.W PyProof.Rows PySem.Calls PySem.NumText
namespace Mine
theorem preSum_congr {f g : Nat → Int} : ∀ n, (∀ j, j < n → f j = g j) → preSum f n = preSum g n
  | 0, _ => rfl
  | n + 1, h => by simp only [preSum]; rw [preSum_congr n fun j hj => h j (Nat.lt_succ_of_lt hj), h n (Nat.lt_succ_self n)]
theorem preSum_cons {f : Nat → Int} : ∀ n, preSum f (n + 1) = f 0 + preSum (fun j => f (j + 1)) n
  | 0 => by simp [preSum]
  | n + 1 => by
    have := preSum_cons (f := f) n
    simp only [preSum] at this ⊢
    omega
theorem preSum_len : ∀ pp : List (Str × Str), preSum (lenOf pp) pp.length = ((pp.map fun p => p.1.length + p.2.length).sum : Nat)
  | [] => rfl
  | p :: pp => by
    rw [List.length_cons, preSum_cons, show (fun j => lenOf (p :: pp) (j + 1)) = lenOf pp from rfl, preSum_len pp]
    simp [lenOf]
theorem shown_len (pp : List (Str × Str)) : (shownOf pp).length = (pp.map fun p => p.1.length + p.2.length).sum := by
  show (Builtin.Str.glued (Str.ofString "") (pp.map fun p => p.1 ++ p.2)).length = _
  rw [StrLaws.glued_eq_join]
  cases pp with
  | nil => rfl
  | cons a r =>
    have z : (Str.ofString "").length = 0 := by decide
    rw [List.map_cons, len_join_cons, z, Nat.mul_zero, Nat.add_zero, ← List.map_cons (f := fun p : Str × Str => p.1 ++ p.2), List.map_map]
    congr 1
    apply List.map_congr_left
    intro p _
    exact Str.length_append _ _
theorem shown_sum (pp : List (Str × Str)) : preSum (lenOf pp) pp.length = (shownOf pp).length := by
  rw [preSum_len, shown_len]
theorem sums_le {α : Type} {f : α → Nat} {B : Nat} : ∀ (l : List α), (∀ x ∈ l, f x ≤ B) → (l.map f).sum ≤ l.length * B
  | [], _ => by simp
  | a :: l, h => by
    have h1 := h a (.head _)
    have h2 := sums_le l fun x hx => h x (.tail _ hx)
    simp only [List.map_cons, List.sum_cons, List.length_cons, Nat.succ_mul]
    omega
theorem shown_le {pp : List (Str × Str)} (hS : Short pp) (h20 : pp.length ≤ 20) : (shownOf pp).length ≤ 10000 := by
  rw [shown_len]
  have := sums_le (f := fun p : Str × Str => p.1.length + p.2.length) (B := 200) pp fun x hx => by
    have := hS.2 x hx; omega
  omega
end Mine
end

section
open PySem PySem.W PyProof.Rows PySem.Calls
open PySem.Sem (wp)
set_option maxRecDepth 100000
set_option maxHeartbeats 8000000
namespace Mine
theorem fillRight8 (P : Params) : PySem.Challenge.rw_yh0005_01 = PySem.Challenge.rw_yh0005_01 → hd.heap_1 P = hd.heap_1 P := by
  k_fill
  intro _
  rfl

section
variable {M : Model} {A : Around} {E : Value → Shared → Prop} {env : Env}
theorem wp_execs_append {Γ : Ctx} {b : List Stmt} {Q : Flow → Pos → Shared → Prop} {E : Value → Pos → Shared → Prop} : ∀ (a : List Stmt) (p : Pos) (s : Shared),
    wp M Γ (execs a env) (fun f p' s' => match f with | .next => wp M Γ (execs b env) Q E p' s' | f => Q f p' s') E p s → wp M Γ (execs (a ++ b) env) Q E p s
  | [], p, s, h => by
    rw [execs_nil] at h
    exact h
  | st :: a, p, s, h => by
    rw [List.cons_append, execs_cons, Sem.wp_bind']
    rw [execs_cons, Sem.wp_bind'] at h
    refine Sem.wp_mono M Γ _ (fun f p' s' h' => ?_) (fun _ _ _ h' => h') _ _ h
    cases f with
    | next => exact wp_execs_append a p' s' h'
    | brk => exact h'
    | cont => exact h'
    | ret v => exact h'

theorem wpC_execs_piece {body : List Stmt} {i k j : Nat} (hj : j = i + k) {s : Shared} {Q : Flow → Shared → Prop}
    (h : wpC M A (execs ((body.drop i).take k) env) (fun f s' => match f with | .next => wpC M A (execs (body.drop j) env) Q E s' | f => Q f s') E s) :
    wpC M A (execs (body.drop i) env) Q E s := fun Γ p hΓ hC => by
  have e : body.drop i = (body.drop i).take k ++ body.drop j := by
    subst hj
    rw [← List.drop_drop]
    exact (List.take_append_drop k _).symm
  rw [e]
  refine wp_execs_append _ _ _ ?_
  refine Sem.wp_mono M Γ _ (fun f p' s' h' => ?_) (fun _ _ _ h' => h') _ _ (h Γ p hΓ hC)
  cases f with
  | next => exact h' Γ p' hΓ hC
  | brk => exact h'
  | cont => exact h'
  | ret v => exact h'

/-- one piece that does not raise -/
theorem wpC_piece {body : List Stmt} {i k j : Nat} (hj : j = i + k) {s : Shared} {Q : Flow → Shared → Prop}
    (h : wpAny M A (execs ((body.drop i).take k) env) (fun f s' => match f with | .next => wpC M A (execs (body.drop j) env) Q E s' | f => Q f s') (fun _ _ => False) s) :
    wpC M A (execs (body.drop i) env) Q E s := wpC_execs_piece hj (wpC_of_any (wpAny_noRaise h))
end

section
variable {prog : Program} {w : World} {A : Around} {s : Shared}
theorem codeC_call_cells {R : Result → Shared → Prop} {a : Addr} {o : Obj} {fd : FuncData} {body : List Stmt} {vals : List Value} {binds : List (Str × Value)}
    (hroom : A.depth < recursionLimit) (ho : s.heap.get? a = some o) (hdata : o.data = .func fd) (hlim : s.heap.NoLimit) (hcd : s.heap.CodeRec fd.code fd.qualname)
    (hbody : fd.body = .stmts body) (hbind : bindArgs fd ⟨vals, []⟩ = pure binds) (hclo : fd.closure = [])
    (hkind : ∀ x ∈ binds, fd.scope.names.lookup x.1 = some .local ∨ (fd.scope.names.lookup x.1 = some .cell ∧ ((cellsFrom (s.heap.objs.size + 1) fd.scope.names []).lookup x.1).isSome = true))
    (h : ∀ s₁, InCallC s (callEnvC fd s.heap.objs.size a).locals (bindL (callEnvC fd s.heap.objs.size a).kindOf binds fun _ => none) (callEnvC fd s.heap.objs.size a).cells
        (bindC (callEnvC fd s.heap.objs.size a).kindOf binds fun _ => none) s₁ →
      wpC (model prog w) (A.deeper (callEnvC fd s.heap.objs.size a)) (execs body (callEnvC fd s.heap.objs.size a)) (fun f s' => R (.ok (.ret (match f with | .ret v => v | _ => .none))) s') (fun _ _ => False) s₁)
    (hco : fd.scope.isCoroutine = false) (hgen : fd.scope.isGenerator = false) (hk : fd.scope.kind = .function) :
    codeC (model prog w) A (.call (.ref a) ⟨vals, []⟩) R s := by
  refine codeC_call_function hroom ho hdata hco hgen hbody hcd ?_
  rw [hbind, hclo]
  refine wpAny_pure (wpAny_newFunctionEnv_cells hk hkind fun env he s' x => ?_)
  subst he
  exact ⟨hlim.keeps x.toInCall.keep, codeC_func (wpC_mono (h s' x) (fun _ _ q => q) (fun _ _ q => q.elim))⟩
end

section
variable {w : World} {A : Around} {s : Shared} {base g₀ : Heap} {outer : List Env} {mean : ExcName → Option Value} {mg mb : Str → Option Value} {P0 : Addr} {nums : List Value}
  {name qual : Str} {params : Arguments} {body : List Stmt} {scope : Scope} {dV kV doc pm cdv ct oc : Value} {an od : Option Addr} {osl : Array (Option Value)}
  {L : Addr} {hf : Heap} {tkf : Nat} {Q : Flow → Shared → Prop}

theorem Ports.atL {h h' : Heap} {Pp L : Addr} {ps : List (Option Int)} (X : Ports h Pp ps) (hL : Pp ≠ L) (k : ∀ b o, b ≠ L → h.get? b = some o → h'.get? b = some o) : Ports h' Pp ps :=
  ⟨let ⟨i, a, b⟩ := X.ex; ⟨i, plain_at a fun o e => k _ o hL e, b⟩, X.bound⟩
theorem Tabs.low {g h h' : Heap} {L : Addr} (T : Tabs h) (hL : 69 < L) (h62 : g.get? 62 = none) (h69 : g.get? 69 = none) (k : Low L g h h') : Tabs h' :=
  ⟨T.1.keeps fun o e => k _ o (Nat.lt_trans (by decide) hL) h62 e, T.2.keeps fun o e => k _ o hL h69 e⟩
theorem Tabs.atL {h h' : Heap} {L : Addr} (T : Tabs h) (hL : 69 < L) (k : ∀ b o, b ≠ L → h.get? b = some o → h'.get? b = some o) : Tabs h' :=
  ⟨T.1.keeps fun o e => k _ o (Nat.ne_of_lt (Nat.lt_trans (by decide) hL)) e, T.2.keeps fun o e => k _ o (Nat.ne_of_lt hL) e⟩
theorem Sheet.atL {h₀ h h' : Heap} {L : Addr} {m : Str → Option Value} {vs : List Value} {pp : List (Str × Str)} (S : Sheet h vs pp) (F : Fr h₀ L h m) (k : ∀ b o, b ≠ L → h.get? b = some o → h'.get? b = some o) : Sheet h' vs pp :=
  (Firm.ofL F k).sheet S

/-- what is neither a frame nor a code table -/
noncomputable def Inert (o : Obj) : Prop := (∀ es n, o.data ≠ .dict es n) ∧ ∀ ps, o ≠ tabObj ps
noncomputable def Kept6 (h h' : Heap) : Prop := ∀ b o, Inert o → h.get? b = some o → h'.get? b = some o
theorem kept6_of {h₀ h h' : Heap} {L : Addr} {m : Str → Option Value} (F : Fr h₀ L h m) (T : Tabs h) (k : ∀ b o, b ≠ L → b ≠ 62 → b ≠ 69 → h.get? b = some o → h'.get? b = some o) : Kept6 h h' := fun b o I e => k b o
  (by
    rintro rfl
    obtain ⟨o', es, ep, h1, h2, _⟩ := F.ns
    rw [e] at h1; cases h1
    exact I.1 _ _ h2)
  (by
    rintro rfl
    obtain ⟨ps, e2⟩ := tab_data T.1
    rw [e] at e2; cases e2
    exact I.2 _ rfl)
  (by
    rintro rfl
    obtain ⟨ps, e2⟩ := tab_data T.2
    rw [e] at e2; cases e2
    exact I.2 _ rfl) e
theorem inert_cls {o : Obj} (hd : ∀ es n, o.data ≠ .dict es n) (hc : o.cls ≠ .none) : Inert o := ⟨hd, fun ps e => hc (by subst e; rfl)⟩
theorem Kept6.cell {h h' : Heap} (k : Kept6 h h') {l : Addr} {v : Option Value} (H : h.IsCell l v) : h'.IsCell l v := let ⟨o, a, b⟩ := H
  ⟨o, k _ _ ⟨fun es n e => (by rw [b] at e; cases e), fun ps e => (by subst e; cases b)⟩ a, b⟩
theorem Kept6.plain {h h' : Heap} (k : Kept6 h h') {l : Addr} {items : Array Value} (H : PlainL h l items) : PlainL h' l items := plain_at H fun o e => by
  obtain ⟨o', n, a, b, c, d⟩ := H
  rw [e] at a; cases a
  exact k _ _ (inert_cls (fun es n q => by rw [d] at q; cases q) (fun q => by rw [b] at q; cases q)) e
theorem Kept6.tuple {h h' : Heap} (k : Kept6 h h') {l : Addr} {items : Array Value} (H : h.IsTuple l items) : h'.IsTuple l items := let ⟨o, a, b, n, c⟩ := H
  ⟨o, k _ _ (inert_cls (fun es n q => by rw [c] at q; cases q) (fun q => by rw [b] at q; cases q)) a, b, n, c⟩
theorem Kept6.sheet {h h' : Heap} (k : Kept6 h h') {vs : List Value} {ps : List (Str × Str)} (H : Sheet h vs ps) : Sheet h' vs ps :=
  ⟨H.1, fun j x y e => let ⟨T, t, u, a, b⟩ := H.2 j x y e; ⟨T, t, u, a, k.tuple b⟩⟩
theorem Kept6.ports {h h' : Heap} (k : Kept6 h h') {P : Addr} {ps : List (Option Int)} (H : Ports h P ps) : Ports h' P ps := ⟨let ⟨i, a, b⟩ := H.ex; ⟨i, k.plain a, b⟩, H.bound⟩

theorem right_body (ho : (hd.heap_1 w.params).lookup 191 = some ⟨oc, od, .func (fnOf name qual params body scope dV kV doc pm an cdv ct), osl⟩)
    (C : Cx w mean mg mb base) (hroom : A.depth ≤ 310) (hu : A.units ≤ 1000) (hh : A.handled = none) (G₀ : Gd A base g₀ outer g₀) (N₀ : NoInit g₀ (outer.filterMap (·.frame))) (F₀ : Fr g₀ L hf (r0 P0)) (hc₀ : Cells2 hf L none none)
    (hl : g₀.IsList P0 nums.toArray) (hn : NumsOk nums) (h1 : 1 ≤ nums.length) (hsz : nums.length ≤ 20) (hT₀ : Tabs hf) (h62₀ : g₀.get? 62 = none) (h69₀ : g₀.get? 69 = none) (hL : 69 < L) (hB : AllBare s.gens)
    (done : ∀ s' g' m', s'.os = s.os → AllBare s'.gens → KtsTurn (outer.filterMap (·.frame)) g₀ g' → Fr g' L s'.heap m' → Tabs s'.heap → Q (.ret (.bool true)) s') :
    wpC (model PySem.Challenge.rw_yh0005_01.row.prog w) (A.deeper (envOfC qual scope L 191 cdv)) (execs body (envOfC qual scope L 191 cdv)) Q (fun _ _ => False) { s with heap := hf, toks := tkf } := by
  show wpC _ _ (execs (body.drop 0) _) _ _ _
  refine wpC_piece (k := 2) (j := 2) rfl ?_
  refine right_1 ho C hroom hu hh G₀ F₀ hc₀ hl hn hsz fun h1' tk1 g vx vr vd vp ps Pp G F hP hlen hPg hC low hLP => ?_
  have g62 : g.get? 62 = none := G.T.none_ _ h62₀
  have g69 : g.get? 69 = none := G.T.none_ _ h69₀
  have T1 : Tabs h1' := hT₀.low hL h62₀ h69₀ low
  have Cg := G.cx C
  dsimp only
  refine wpC_piece (k := 3) (j := 5) rfl ?_
  refine right_2 ho Cg hroom hh F hC hP hPg (by omega) fun h2 tk2 Po items vk vy t F hC hP hPo hX hPog low => ?_
  have T2 : Tabs h2 := T1.low hL g62 g69 low
  have hlp : items.length = ps.length := by rw [hX.1, List.length_map]
  dsimp only
  refine wpC_piece (k := 1) (j := 6) rfl ?_
  refine right_3 ho Cg hh F (by rfl) hPo hX (by omega) (by omega) fun h3 tk3 Do ys p hp ha F hDo hY k hDog hDoL => ?_
  have hPL : Pp ≠ L := Nat.ne_of_gt hLP
  have hC := hC.at k
  have hP := hP.atL hPL k
  have T3 := T2.atL hL k
  rw [hlp] at hp ha
  have hsp : p.toList.length = ps.length := by rw [Array.length_toList, hp.size]
  have hord : ∀ k ∈ p.toList, k < ps.length := fun k hk => by
    have := (Array.Perm.mem_iff hp).mp (Array.mem_toList_iff.mp hk)
    simpa using this
  have hwb := wide_bounds ps
  dsimp only
  refine wpC_piece (k := 1) (j := 7) rfl ?_
  refine right_4 ho Cg hh hroom F (by rfl) hDo hY hDoL hC hwb hP hord (by omega) (by omega) fun h4 tk4 Dp vs F4 hDp hS k hDpg hDpL => ?_
  have hC := hC.at k
  have hP := hP.atL hPL k
  have T4 := T3.atL hL k
  have hDo := plain_at hDo fun o e => k _ o hDoL e
  have hSh : Short (partsIn ps (wideOf ps) p.toList) := short_parts hP.bound (by omega) hord
  have hpl : (partsIn ps (wideOf ps) p.toList).length ≤ 20 := by
    simp only [partsIn, List.length_map]; omega
  dsimp only
  refine wpC_piece (k := 1) (j := 8) rfl ?_
  refine right_5 ho Cg hh hroom F4 (by rfl) hDp hS hSh hpl fun h5 tk5 t5 F5 k => ?_
  have hC := hC.at k
  have hP := hP.atL hPL k
  have T5 := T4.atL hL k
  have hDo := plain_at hDo fun o e => k _ o hDoL e
  have hDp := plain_at hDp fun o e => k _ o hDpL e
  have hS := hS.atL F4 k
  dsimp only
  refine wpC_piece (k := 3) (j := 11) rfl ?_
  refine right_6 ho Cg hh hroom hu F5 (by rfl) (by rfl) (by rfl) hDp hS hDpL hSh hpl hC hP (by omega) (cols_good hP.bound) ⟨dealt_sorted hP.bound hp ha, trivial⟩ (shown_sum _) (shown_le hSh hpl) T5 g62 g69 hL hB
    fun s6 q vq hos hB6 F6 hq hSq hqg T6 k6 => ?_
  have K6 := kept6_of F5 T5 k6
  dsimp only
  exact right_7 (s := s6) (tkf := s6.toks) ho C G N₀ hh hroom hu F6 (by rfl) (by rfl) (by rfl) (by rfl) (K6.plain hDp) (K6.sheet hS) (K6.plain hDo) hY hq hSq hqg ⟨K6.cell hC.1, K6.cell hC.2⟩ (K6.ports hP) ⟨rfl, trivial⟩ hord (by omega) (by omega) hwb
    fun h7 tk7 g7 m7 G7 F7 firm => done _ g7 m7 hos hB6 G7.T F7 ⟨firm.tab T6.1, firm.tab T6.2⟩

theorem tab_cls {h : Heap} {a : Addr} (T : TabOk h a) {o : Obj} (e : h.get? a = some o) : o.cls = .none ∧ ∃ fs, o.data = .fields fs := by
  obtain ⟨ps, e2⟩ := tab_data T
  rw [e] at e2; cases e2
  exact ⟨rfl, _, rfl⟩
theorem two_ne {h : Heap} (T : Tabs h) {b : Addr} {o : Obj} (e : h.get? b = some o) (ho : o.cls ≠ .none ∨ ∀ fs, o.data ≠ .fields fs) : b ∉ [62, 69] := by
  have key : ∀ a, TabOk h a → b ≠ a := by
    rintro a Ta rfl
    obtain ⟨h1, fs, h2⟩ := tab_cls Ta e
    rcases ho with x | x
    · exact x h1
    · exact x _ h2
  intro hm
  rcases List.mem_cons.mp hm with q | hm
  · exact key _ T.1 q
  · exact key _ T.2 (List.mem_singleton.mp hm)
/-- the heap without the two code tables -/
noncomputable abbrev bareOf (h : Heap) : Heap := hideAll h [62, 69]
theorem bareOf_at {h : Heap} (T : Tabs h) {b : Addr} {o : Obj} (e : h.get? b = some o) (ho : o.cls ≠ .none ∨ ∀ fs, o.data ≠ .fields fs) : (bareOf h).get? b = some o := hideAll_get _ e (two_ne T e ho)
theorem bareOf_ns {h : Heap} (T : Tabs h) {b : Addr} {m : Str → Option Value} (N : h.Ns b m) : (bareOf h).Ns b m := by
  obtain ⟨o, es, n, h1, h2, h3, h4⟩ := N
  exact ⟨o, es, n, bareOf_at T h1 (.inr fun fs e => by rw [h2] at e; cases e), h2, h3, h4⟩
theorem bareOf_list {h : Heap} (T : Tabs h) {l : Addr} {items : Array Value} (H : h.IsList l items) : (bareOf h).IsList l items := let ⟨o, a, b, n, c⟩ := H
  ⟨o, bareOf_at T a (.inr fun fs e => by rw [c] at e; cases e), b, n, c⟩
theorem base_bare {base h : Heap} (k : base.StaysIn h) (h62 : base.get? 62 = none) (h69 : base.get? 69 = none) : base.StaysIn (bareOf h) := fun b o e => hideAll_get _ (k b o e) (by
  intro hm
  rcases List.mem_cons.mp hm with q | hm
  · rw [q, h62] at e; cases e
  · rw [List.mem_singleton.mp hm, h69] at e; cases e)
theorem gd_bare {h : Heap} (T : Tabs h) (B : Below A base outer h) (D : KtsDicts (outer.filterMap (·.frame)) h) (h62 : base.get? 62 = none) (h69 : base.get? 69 = none) : Gd A base (bareOf h) outer (bareOf h) := by
  have hD : ∀ b ∈ outer.filterMap (·.frame), b ∉ ([62, 69] : List Addr) := fun b hb => by
    obtain ⟨o, es, n, h1, h2⟩ := D b hb
    exact two_ne T h1 (.inr fun fs e => by rw [h2] at e; cases e)
  refine ⟨.refl, ⟨B.stack, base_bare B.stays h62 h69, funFrames_hideAll B.frames fun env he a ha hf => hD a (List.mem_filterMap.mpr ⟨env, he, hf⟩) ha⟩, fun b hb => ?_⟩
  obtain ⟨o, es, n, h1, h2⟩ := D b hb
  exact ⟨o, es, n, hideAll_get _ h1 (hD b hb), h2⟩
theorem noInit_bare {h : Heap} (T : Tabs h) {fs : List Addr} (N : NoInit h fs) : NoInit (bareOf h) fs := fun b hb => let ⟨m, h1, h2⟩ := N b hb; ⟨m, bareOf_ns T h1, h2⟩
end

section
variable {w : World} {A : Around} {s : Shared} {R : Result → Shared → Prop} {mean : ExcName → Option Value} {mg mb : Str → Option Value}
  {name qual : Str} {params : Arguments} {body : List Stmt} {scope : Scope} {dV kV doc pm cdv ct oc : Value} {an od : Option Addr} {osl : Array (Option Value)} {f : Addr} {vals : List Value} {binds : List (Str × Value)}
/-- a def's body with cells, entered under the claim's caller -/
theorem enterCells (C : Cx w mean mg mb s.heap)
    (ho : (hd.heap_1 w.params).lookup f = some ⟨oc, od, .func (fnOf name qual params body scope dV kV doc pm an cdv ct), osl⟩) (hcd : codeIn (hd.heap_1 w.params) cdv qual = true)
    (hroom : A.depth < recursionLimit) (hbind : bindArgs (fnOf name qual params body scope dV kV doc pm an cdv ct) ⟨vals, []⟩ = pure binds)
    (hkind : ∀ x ∈ binds, scope.names.lookup x.1 = some .local) (hco : scope.isCoroutine = false) (hgen : scope.isGenerator = false) (hk : scope.kind = .function)
    (h : ∀ h₁ tk, InCallC s s.heap.objs.size (bindL (envOfC qual scope s.heap.objs.size f cdv).kindOf binds fun _ => none) (cellsFrom (s.heap.objs.size + 1) scope.names []) (bindC (envOfC qual scope s.heap.objs.size f cdv).kindOf binds fun _ => none) { s with heap := h₁, toks := tk } →
      wpC (model PySem.Challenge.rw_yh0005_01.row.prog w) (A.deeper (envOfC qual scope s.heap.objs.size f cdv)) (execs body (envOfC qual scope s.heap.objs.size f cdv)) (fun fl s' => R (.ok (.ret (match fl with | .ret v => v | _ => .none))) s') (fun _ _ => False)
        { s with heap := h₁, toks := tk }) :
    codeC (model PySem.Challenge.rw_yh0005_01.row.prog w) A (.call (.ref f) ⟨vals, []⟩) R s :=
  codeC_call_cells (fd := fnOf name qual params body scope dV kV doc pm an cdv ct) hroom (C.X _ _ ho) rfl C.T.nolimit (codeRec_of C.X hcd) rfl hbind rfl (fun x hx => .inl (hkind x hx))
    (fun s₁ I => by
      obtain ⟨h₁, tk, e, k₁⟩ := I.done
      subst e
      exact h h₁ tk I) hco hgen hk
end

theorem bindL_one {k : Str → Option NameKind} {n : Str} {v : Value} (h : k n = some .local) : bindL k [(n, v)] (fun _ => none) = fun y => List.lookup y [(n, v)].reverse := by
  unfold bindL
  rw [if_pos h]
  funext y
  show (if y = n then some v else none) = List.lookup y [(n, v)]
  by_cases q : y = n
  · subst q; simp
  · rw [if_neg q, List.lookup_cons, beq_eq_false_iff_ne.mpr q]; rfl
theorem right_spec (w : World) {A : Around} {s : Shared} {R : Result → Shared → Prop} {base : Heap} {outer : List Env} {mean : ExcName → Option Value} {mg mb : Str → Option Value} {P0 : Addr} {nums : List Value}
    (C : Cx w mean mg mb base) (B : Below A base outer s.heap) (D : KtsDicts (outer.filterMap (·.frame)) s.heap) (N : NoInit s.heap (outer.filterMap (·.frame))) (hh : A.handled = none) (hroom : A.depth ≤ 310) (hu : A.units ≤ 1000)
    (hl : s.heap.IsList P0 nums.toArray) (hn : NumsOk nums) (h1 : 1 ≤ nums.length) (hsz : nums.length ≤ 20) (hT : Tabs s.heap) (h62 : base.get? 62 = none) (h69 : base.get? 69 = none) (hL : 69 < s.heap.objs.size) (hB : AllBare s.gens)
    (done : ∀ s' g', s'.os = s.os → AllBare s'.gens → KtsTurn (outer.filterMap (·.frame)) (bareOf s.heap) g' → g'.StaysIn s'.heap → Tabs s'.heap → R (.ok (.ret (.bool true))) s') :
    codeC (model PySem.Challenge.rw_yh0005_01.row.prog w) A (.call (.ref 191) ⟨[.ref P0], []⟩) R s := by
  have C₁ := C.keeps B.stays
  refine' enterCells (binds := [(Str.ofString "numbers", .ref P0)]) C₁ ?k1 ?k2 (Nat.lt_of_le_of_lt hroom (by decide)) ?k3 ?k4 ?k5 ?k6 ?k7 ?_
  (case k1 => k_is)
  (case k2 => k_is)
  (case k3 => exact rfl)
  (case k4 => exact locs rfl)
  (case k5 => exact rfl)
  (case k6 => exact rfl)
  (case k7 => exact rfl)
  intro h₁ tk I
  have k₁ := I.toInCall.keep
  have hns := I.toInCall.ns
  rw [bindL_one (by exact rfl)] at hns
  have F₀ : Fr (bareOf s.heap) s.heap.objs.size h₁ (r0 P0) := ⟨hns, fun b o e => k₁ b o (of_hideAll _ e), Nat.le_of_eq (hideAll_size _ _)⟩
  have hc₀ : Cells2 h₁ s.heap.objs.size none none := ⟨I.cell (Str.ofString "ports") _ rfl, I.cell (Str.ofString "wide") _ rfl⟩
  have ho := (fun (e2 : (hd.heap_1 w.params).lookup 191 = some ⟨_, _, .func (fnOf _ _ _ _ _ _ _ _ _ _ _ _), _⟩) => e2) (by k_is)
  exact right_body ho C hroom hu hh (gd_bare hT B D h62 h69) (noInit_bare hT N) F₀ hc₀ (bareOf_list hT hl) hn h1 hsz ⟨hT.1.keeps fun o e => k₁ _ o e, hT.2.keeps fun o e => k₁ _ o e⟩
    (hideAll_none _ (.head _)) (hideAll_none _ (.tail _ (.head _))) hL hB fun s' g' m' h1 h2 h3 h4 h5 => done s' g' h1 h2 h3 h4.keep h5
end Mine
end

section
open PySem PySem.W PyProof.Rows PySem.Calls
set_option maxRecDepth 100000
set_option maxHeartbeats 4000000
namespace Mine
/-! What stands of the text stands without the two code tables. -/
section
variable {h : Heap} {p : Program} {loose : List Str} {mean : ExcName → Option Value} {mg mb : Str → Option Value} {K : Frag}
noncomputable def Empt (h : Heap) : Prop := h.get? 62 = some (tabObj #[]) ∧ h.get? 69 = some (tabObj #[])
theorem Empt.tabs (E : Empt h) : Tabs h := ⟨⟨#[], E.1, trivial⟩, ⟨#[], E.2, trivial⟩⟩
theorem bare_keep (E : Empt h) {b : Addr} {o : Obj} (e : h.get? b = some o) (hn : o ≠ tabObj #[]) : (bareOf h).get? b = some o := hideAll_get _ e fun hm => by
  rcases List.mem_cons.mp hm with rfl | hm
  · rw [E.1] at e; exact hn (Option.some.inj e).symm
  · rw [List.mem_singleton.mp hm, E.2] at e; exact hn (Option.some.inj e).symm
theorem bare_dict (E : Empt h) {a : Addr} {m : Str → Option Value} (x : h.Ns a m) : (bareOf h).Ns a m :=
  let ⟨o, es, ep, e, hd, r⟩ := x; ⟨o, es, ep, bare_keep E e (fun q => by subst q; cases hd), hd, r⟩
theorem bare_tail (E : Empt h) {bmB tl : List Value} (T : OwnTailQ h bmB tl) : OwnTailQ (bareOf h) bmB tl := by
  induction T with
  | base => exact .base
  | own hA hN hq _ ih => exact .own (bare_keep E hA (fun q => by injection q with _ _ q3; cases q3)) (bare_dict E hN) hq ih
theorem bare_rec (E : Empt h) {cd : Value} {q : Str} (x : h.CodeRec cd q) : (bareOf h).CodeRec cd q := by
  obtain ⟨c, o, vs, t, e, g, hd, hv⟩ := x
  exact ⟨c, o, vs, t, e, bare_keep E g (fun z => by subst z; cases hd; cases hv), hd, hv⟩
theorem bare_K (E : Empt h) (X : K.In h) (hK : noTabs K = true) : K.In (bareOf h) := fun a o e => bare_keep E (X a o e) fun q => by
  have h2 := List.all_eq_true.mp hK (a, o) (mem_of_lookupK e)
  subst q
  exact absurd (show false = true from h2) Bool.false_ne_true
/-- no def's own table is one of the two -/
noncomputable def offTabs (K : Frag) (p : Program) : Bool := (recsOf p).all fun d => match tabIn K d.name with
  | some (_, P) => P != 62 && P != 69
  | none => false
theorem tab_lit {x : Str} {c P a : Addr} {o : Obj} {fd : FuncData} {c' : Addr} (X : K.In h) (G : h.Ns mainGlobals mg) (ht : tabIn K x = some (c, P)) (h1 : mg x = some (.ref a)) (h2 : h.get? a = some o) (h3 : o.data = .func fd) (h4 : fd.code = .ref c') :
    c' = c ∧ ∃ oc vs, h.get? c = some oc ∧ oc.data = .fields vs ∧ vs[11]? = some (.ref P) := by
  unfold tabIn at ht
  split at ht
  · rename_i f hf
    have e1 := mg_of X G hf
    rw [h1] at e1
    cases e1
    split at ht
    · rename_i hfo
      have e2 := X _ _ hfo
      rw [h2] at e2
      cases e2
      cases h3
      split at ht
      · rename_i c₂ hc
        rw [h4] at hc
        cases hc
        split at ht
        · rename_i hco
          have e3 := X _ _ hco
          split at ht
          · rename_i P₂ hv
            cases ht
            exact ⟨rfl, _, _, e3, rfl, hv⟩
          · cases ht
        · cases ht
      · cases ht
    · cases ht
  · cases ht

theorem top_bare (E : Empt h) (X : K.In h) (hoff : offTabs K p = true) (T : Top p loose mean mg mb h) : Top p loose mean mg mb (bareOf h) where
  g := bare_dict E T.g
  b := bare_dict E T.b
  nolimit := let ⟨mc, a, r⟩ := T.nolimit; ⟨mc, bare_dict E a, r⟩
  nodigits := let ⟨mc, a, r⟩ := T.nodigits; ⟨mc, bare_dict E a, r⟩
  fn := fun d hd => by
    obtain ⟨a, o, pm, code, doc, h1, h2, h3, h4⟩ := T.fn d hd
    exact ⟨a, o, pm, code, doc, h1, bare_keep E h2 (fun z => by subst z; cases h3), h3, bare_rec E h4⟩
  own := fun o ho => by
    obtain ⟨C, O, hm⟩ := T.own o ho
    obtain ⟨bm, N, nm, q, bs, hdct, sn, sub, ab, col, dd, k0, k1, k2, k3, k5, mN, hC, hN, hq, T'⟩ := O.obj
    exact ⟨C, ⟨O.bound, bm, N, nm, q, bs, hdct, sn, sub, ab, col, dd, k0, k1, k2, k3, k5, mN, bare_keep E hC (fun z => by injection z with _ _ z3; cases z3), bare_dict E hN, hq, bare_tail E T'⟩, hm⟩
  const := T.const
  free := T.free
  builtins := T.builtins
  tab := fun d hd => by
    obtain ⟨a, o, fd, c, P, h1, h2, h3, h4, h5, h6⟩ := T.tab d hd
    have hd' := List.all_eq_true.mp hoff d hd
    split at hd'
    · rename_i c' P' ht
      obtain ⟨rfl, oc, vs, g1, g2, g3⟩ := tab_lit X T.g ht h1 h2 h3 h4
      obtain ⟨⟨oc', vs', e1, e2, e3, e4⟩, e5⟩ := id h6
      rw [g1] at e1; cases e1
      rw [g2] at e3; cases e3
      rw [g3] at e4; cases e4
      obtain ⟨n62, n69⟩ := Bool.and_eq_true_iff.mp hd'
      have nP : P ∉ ([62, 69] : List Addr) := fun hm => by
        rcases List.mem_cons.mp hm with q | hm
        · rw [q] at n62; exact absurd n62 (by decide)
        · rw [List.mem_singleton.mp hm] at n69; exact absurd n69 (by decide)
      have kc : (bareOf h).get? c = some oc := bare_keep E g1 (fun z => by subst z; cases e2)
      have kP := hideAll_get [62, 69] e5 nP
      refine ⟨a, o, fd, c, P, h1, bare_keep E h2 (fun z => by subst z; cases h3), h3, h4, ?_, ⟨⟨oc, vs, kc, e2, g2, g3⟩, kP⟩⟩
      obtain ⟨o', vs', file, tf, flags, tg, inF, text, tt, op, f1, f2, f3, f4, f5, f6, f7, f8, f9, f10, f11⟩ := h5
      rw [g1] at f1; cases f1
      rw [e5] at f8; cases f8
      exact ⟨oc, vs', file, tf, flags, tg, inF, text, tt, _, kc, f2, f3, f4, f5, f6, f7, kP, f9, f10, f11⟩
    · cases hd'
  bmain := by
    obtain ⟨bm, ob, a1, a2, a3, a4, r⟩ := T.bmain
    exact ⟨bm, ob, a1, a2, bare_keep E a3 (fun q => by subst q; cases a4), a4, r⟩
  seer := fun hi => by
    have x := T.seer hi
    refine ⟨?_, ?_, ?_, ?_⟩
    · obtain ⟨mc, a, b⟩ := x.statics; exact ⟨mc, bare_dict E a, b⟩
    · obtain ⟨mc, a, b⟩ := x.mods; exact ⟨mc, bare_dict E a, b⟩
    · obtain ⟨mc, a, b⟩ := x.imp; exact ⟨mc, bare_dict E a, b⟩
    · obtain ⟨mg', bm, ob, a, b, c, d, e⟩ := x.main
      exact ⟨mg', bm, ob, bare_dict E a, b, bare_keep E c (fun q => by subst q; cases d), d, e⟩
end

theorem cx_bare {w : World} {mean : ExcName → Option Value} {mg mb : Str → Option Value} {h : Heap} (E : Empt h) (C : Cx w mean mg mb h) : Cx w mean mg mb (bareOf h) :=
  ⟨bare_K E C.X (by kernel_rfl), top_bare E C.X (by kernel_rfl) C.T⟩
end Mine
end

section
open PySem PySem.W PyProof.Rows PySem.Calls
set_option maxRecDepth 100000
set_option maxHeartbeats 8000000
namespace Mine
theorem fillLaw1 (P : Params) : PySem.Challenge.rw_yh0005_01 = PySem.Challenge.rw_yh0005_01 → hd.heap_1 P = hd.heap_1 P := by
  k_fill
  intro _
  rfl

section
variable {w : World} {s : Shared} {mean : ExcName → Option Value} {mg mb : Str → Option Value} {g : Heap}
  {name qual : Str} {params : Arguments} {body : List Stmt} {scope : Scope} {dV kV doc pm cdv ct oc : Value} {an od : Option Addr} {osl : Array (Option Value)}
  {L l : Addr} {hf : Heap} {tkf : Nat} {Q : Flow → Shared → Prop} {xs : List Value} {ns : List Int}
noncomputable abbrev rl (l : Addr) : Str → Option Value := fun y => List.lookup y [(Str.ofString "script", .ref l)].reverse

/-- the numbers drawn, and those that stand fixed -/
noncomputable def drawnOf (ns : List Int) : List Int := (ns.take 4).map fun n => n.fmod (10 ^ 7)
noncomputable def fixedOf (ns : List Int) : List Int := [207, 0, 182, 1, 2010, 2].take (6 - (drawnOf ns).sum.fmod 7).toNat

theorem news_13 {g h : Heap} {L : Addr} {x y z v : Addr × Obj} {r : List (Addr × Obj)} (N : News g L h (x :: y :: z :: v :: r)) : News g L h [x, z] := fun p hp => N p (by
  rcases List.mem_cons.mp hp with rfl | hp
  · exact .head _
  · rw [List.mem_singleton.mp hp]; exact .tail _ (.tail _ (.head _)))
theorem law_1 (ho : (hd.heap_1 w.params).lookup 196 = some ⟨oc, od, .func (fnOf name qual params body scope dV kV doc pm an cdv ct), osl⟩)
    (C : Cx w mean mg mb g) (F : Fr g L hf (rl l)) (hl : g.IsList l xs.toArray) (hi : IntsAre xs ns) (hlen : ns.length ≤ 63) {p62 p69 : Array Value} (Nt : News g L hf [(62, tabObj p62), (69, tabObj p69)])
    (done : ∀ h' tk D fx M ys n, Fr g L h' (fun y => if y = Str.ofString "fixed" then some (.ref D) else if y = Str.ofString "drawn" then some (.ref M) else rl l y) → IntsAre fx (fixedOf ns) → IntsAre ys (drawnOf ns) →
      News g L h' [(D, W.listOf fx.toArray 0), (M, W.listOf ys.toArray n)] → News g L h' [(62, tabObj p62), (69, tabObj p69)] → Q .next { s with heap := h', toks := tk }) :
    wpAny (model PySem.Challenge.rw_yh0005_01.row.prog w) (callerA.deeper (envOf qual scope L 196 cdv)) (execs ((body.drop 0).take 2) (envOf qual scope L 196 cdv)) Q (fun _ _ => False) { s with heap := hf, toks := tkf } := by
  refine (fun (e2 : (hd.heap_1 w.params).lookup 196 = some ⟨_, _, .func (fnOf _ _ _ _ _ _ _ _ _ _ _ _), _⟩) => ?_) (by k_is)
  rw [ho] at e2
  injection e2 with e2
  injection e2 with e3 e4 e5 e6
  injection e5 with e5
  injection e5 with n1 n2 n3 n4 n5
  injection n4 with n4
  subst_vars
  clear ho
  refine wpAny_execs_cons ?_
  have X' := C.X
  have T' := C.T
  have F' := F
  have N' := Nt
  k_steps
  refine wpAny_execs_nil ?_
  rename_i F5 N5
  exact done _ _ _ _ _ _ _ F5 (by assumption) (by assumption) (news_13 N5) (fun p hp => N5 p (.tail _ (.tail _ (.tail _ (.tail _ hp)))))
end
end Mine
end

section
open PySem PySem.W PyProof.Rows PySem.Calls
set_option maxRecDepth 100000
set_option maxHeartbeats 8000000
namespace Mine
theorem fillLaw2 (P : Params) : PySem.Challenge.rw_yh0005_01 = PySem.Challenge.rw_yh0005_01 → hd.heap_1 P = hd.heap_1 P := by
  k_fill
  intro _
  rfl

section
variable {prog : Program} {w : World} {A : Around} {s : Shared} {env : Env}
/-- for x in a list, under the claim's caller -/
theorem name_loopC {x : Str} {px : Pos} {body : List Stmt} {Q : Flow → Shared → Prop} {E : Value → Shared → Prop} {l : Addr} {items : Array Value} (J : Nat → Shared → Prop) (hh : A.handled = none) (hl : s.heap.IsList l items)
    (hJ : ∀ h' tk, s.heap.StaysIn h' → J 0 { s with heap := h', toks := tk })
    (stable : ∀ i s' h' tk, FldAt s'.heap s.heap.objs.size → J i s' → (∀ b o, b ≠ s.heap.objs.size → s'.heap.get? b = some o → h'.get? b = some o) → J i { s' with heap := h', toks := tk })
    (turn : ∀ i s' v, items[i]? = some v → J i s' → s'.heap.IsListIter s.heap.objs.size l (i + 1) → s'.heap.IsList l items →
      wpAny (model prog w) A (assign (.Name x px) env v) (fun _ s₂ => wpC (model prog w) A (execs body env) (fun f s₃ => match f with
        | .next | .cont => J (i + 1) s₃ ∧ s₃.heap.IsListIter s.heap.objs.size l (i + 1) ∧ s₃.heap.IsList l items
        | .brk => False
        | .ret v => Q (.ret v) s₃) E s₂) E s')
    (done : ∀ s', J items.size s' → Q .next s') :
    wpAny (model prog w) A (pyIter (.ref l)) (fun it s₂ => LoopC prog w A env (.Name x px) body Q E it s₂) E s := by
  refine wpAny_pyIter_list hl ?_
  have k1 : s.heap.StaysIn (s.heap.push { cls := .type "list_iterator", data := .fields #[.ref l, .int 0 0] }) := fun b o e => Heap.get?_push_of_some _ e
  have hne : l ≠ s.heap.objs.size := (let ⟨o, ho, _⟩ := hl; Nat.ne_of_lt (Heap.lt_size ho))
  refine ⟨_, _, _, _, _, _, J, rfl, Walks.list hh s.heap.objs.size l hne items, ⟨⟨_, Heap.get?_push_size _ rfl, rfl, rfl⟩, hl.at fun o e => k1 _ _ e⟩, hJ _ _ k1, ?_, ?_, ?_, done⟩
  · rintro i s' h' tk ⟨⟨o, ho, _, hd⟩, _⟩ j hk
    exact stable i s' h' tk ⟨o, _, ho, hd⟩ j fun b o hb e => hk b o (by simpa using hb) e
  · rintro i v s' Q' _ hq
    exact wpAny_of_eq (a := ()) rfl hq
  · rintro i s' v hi hv j ⟨st1, st2⟩
    exact turn i s' v hv j st1 st2
end

section
variable {w : World} {s : Shared} {mean : ExcName → Option Value} {mg mb : Str → Option Value} {base g : Heap}
  {name qual : Str} {params : Arguments} {body : List Stmt} {scope : Scope} {dV kV doc pm cdv ct oc : Value} {an od : Option Addr} {osl : Array (Option Value)}
  {L l : Addr} {hf : Heap} {tkf : Nat} {Q : Flow → Shared → Prop} {ns : List Int}

theorem fr_bare {h : Heap} {m : Str → Option Value} (F : Fr g L h m) (T : Tabs h) (h62 : g.get? 62 = none) (h69 : g.get? 69 = none) : Fr g L (bareOf h) m :=
  ⟨bareOf_ns T F.ns, base_bare F.keep h62 h69, F.above⟩

noncomputable abbrev rm (l D M : Addr) : Str → Option Value := fun y => if y = Str.ofString "fixed" then some (.ref D) else if y = Str.ofString "drawn" then some (.ref M) else rl l y

/-- what holds between two sheets -/
structure JL (base : Heap) (s : Shared) (L : Addr) (m0 : Str → Option Value) (ls : List (Addr × List Value)) (s' : Shared) : Prop where
  os : s'.os = s.os
  gens : AllBare s'.gens
  tabs : Tabs s'.heap
  gd : ∃ g v, Gd callerA base base [] g ∧ Fr g L s'.heap (bindM m0 (Str.ofString "numbers") v)
  lists : ∀ p ∈ ls, s'.heap.IsList p.1 p.2.toArray

theorem ints_nums {vs : List Value} {ks : List Int} (h : IntsAre vs ks) : (∀ k ∈ ks, 0 ≤ k ∧ k < 10000000) → NumsOk vs := by
  induction h with
  | nil => intro _ v hv; cases hv
  | cons n t r ih =>
    intro h v hv
    rcases List.mem_cons.mp hv with rfl | hv
    · exact ⟨n, t, rfl, h n (.head _)⟩
    · exact ih (fun k hk => h k (.tail _ hk)) v hv
theorem ints_len {vs : List Value} {ks : List Int} (h : IntsAre vs ks) : vs.length = ks.length := by
  induction h with
  | nil => rfl
  | cons _ _ r ih => exact congrArg (· + 1) ih
theorem drawn_ok {ns : List Int} {k : Int} (h : k ∈ drawnOf ns) : 0 ≤ k ∧ k < 10000000 := by
  obtain ⟨n, _, rfl⟩ := List.mem_map.mp h
  exact ⟨Int.fmod_nonneg_of_pos _ (by decide), Int.fmod_lt_of_pos _ (by decide)⟩
theorem fixed_ok {ns : List Int} {k : Int} (h : k ∈ fixedOf ns) : 0 ≤ k ∧ k < 10000000 := by
  have h := List.mem_of_mem_take h
  simp only [List.mem_cons, List.not_mem_nil, or_false] at h
  omega
theorem drawn_len (ns : List Int) : (drawnOf ns).length ≤ 4 := by
  unfold drawnOf; rw [List.length_map, List.length_take]; omega
theorem fixed_len (ns : List Int) : (fixedOf ns).length ≤ 6 := by
  unfold fixedOf; rw [List.length_take]; exact Nat.min_le_right _ _
theorem some_len (ns : List Int) : 1 ≤ (fixedOf ns ++ drawnOf ns).length := by
  cases ns with
  | nil => decide
  | cons n r => rw [List.length_append]; unfold drawnOf; simp; omega
theorem sheet_ok {vs : List Value} {ns : List Int} (h : IntsAre vs (fixedOf ns ++ drawnOf ns)) : NumsOk vs ∧ 1 ≤ vs.length ∧ vs.length ≤ 20 := by
  have h1 := drawn_len ns
  have h2 := fixed_len ns
  have h3 := some_len ns
  rw [ints_len h]
  refine ⟨ints_nums h fun k hk => ?_, h3, by rw [List.length_append]; omega⟩
  rcases List.mem_append.mp hk with hk | hk
  · exact fixed_ok hk
  · exact drawn_ok hk
theorem noInit_one {h : Heap} {L : Addr} {m : Str → Option Value} (N : h.Ns L m) (hm : m (Str.ofString "_initial_size") = none) : NoInit h [L] := fun b hb => by
  rw [List.mem_singleton.mp hb]; exact ⟨m, N, hm⟩
theorem law_2 (ho : (hd.heap_1 w.params).lookup 196 = some ⟨oc, od, .func (fnOf name qual params body scope dV kV doc pm an cdv ct), osl⟩)
    (C : Cx w mean mg mb base) (h62 : base.get? 62 = none) (h69 : base.get? 69 = none) (hL : 69 < L) {D M : Addr} {fx ys : List Value} {n : Nat}
    (F : Fr base L hf (rm l D M)) (hfx : IntsAre fx (fixedOf ns)) (hys : IntsAre ys (drawnOf ns)) (N : News base L hf [(D, W.listOf fx.toArray 0), (M, W.listOf ys.toArray n)]) (hT : Tabs hf) (hB : AllBare s.gens)
    (done : ∀ s' g' m', s'.os = s.os → AllBare s'.gens → Gd callerA base base [] g' → Fr g' L s'.heap m' → Tabs s'.heap → Q (.ret (.bool true)) s') :
    wpC (model PySem.Challenge.rw_yh0005_01.row.prog w) (callerA.deeper (envOf qual scope L 196 cdv)) (execs (body.drop 2) (envOf qual scope L 196 cdv)) Q (fun _ _ => False) { s with heap := hf, toks := tkf } := by
  refine (fun (e2 : (hd.heap_1 w.params).lookup 196 = some ⟨_, _, .func (fnOf _ _ _ _ _ _ _ _ _ _ _ _), _⟩) => ?_) (by k_is)
  rw [ho] at e2
  injection e2 with e2
  injection e2 with e3 e4 e5 e6
  injection e5 with e5
  injection e5 with n1 n2 n3 n4 n5
  injection n4 with n4
  subst_vars
  clear ho
  refine wpC_execs_cons ?_
  refine for_C ?_ (by intro _; rfl) PassesOwn.never
  have X' := C.X
  have T' := C.T
  have F' := F
  obtain ⟨⟨p62, e62⟩, ⟨p69, e69⟩⟩ := And.intro (tab_data hT.1) (tab_data hT.2)
  have N' := news2b ⟨e62, Nat.ne_of_lt (Nat.lt_trans (by decide) hL), h62⟩ ⟨e69, Nat.ne_of_lt hL, h69⟩ N
  clear N
  k_steps
  rename_i l1 hx1 q1 l2 hx2 F2 N2 q2
  have hD2 := (N2 _ (.tail _ (.tail _ (.tail _ (.tail _ (.head _))))))
  have hM2 := (N2 _ (.tail _ (.tail _ (.tail _ (.tail _ (.tail _ (.head _)))))))
  refine kmk_add_ints F2 N2 ⟨_, hD2.1, rfl, _, rfl⟩ ⟨_, hM2.1, rfl, _, rfl⟩ hfx hys ?_ ?_
  rotate_left
  · have h1 := drawn_len ns
    have h2 := fixed_len ns
    rw [sizeLine_eq]; omega
  intro l3 vs h3 F' N' q3 h3i
  k_steps
  rename_i lM h4 F4 N4 q4
  generalize hb1 : (#[Value.int 1 tkf, Value.int 5 (tkf + 1), Value.int 2 (tkf + 1 + 1), Value.int 9 (tkf + 1 + 1 + 1), Value.int 13 (tkf + 1 + 1 + 1 + 1), Value.int 0 (tkf + 1 + 1 + 1 + 1 + 1)] : Array Value) = b1 at N4
  generalize hb2 : (#[Value.int 207 (tkf + 1 + 1 + 1 + 1 + 1 + 1), Value.int 26 (tkf + 1 + 1 + 1 + 1 + 1 + 1 + 1), Value.int 182 (tkf + 1 + 1 + 1 + 1 + 1 + 1 + 1 + 1)] : Array Value) = b2 at N4
  have e1 : NumsOk b1.toList ∧ 1 ≤ b1.toList.length ∧ b1.toList.length ≤ 20 := by
    subst hb1
    exact ⟨ints_nums (ks := _) (by repeat constructor) (by decide), by show 1 ≤ 6; decide, by show 6 ≤ 20; decide⟩
  have e2 : NumsOk b2.toList ∧ 1 ≤ b2.toList.length ∧ b2.toList.length ≤ 20 := by
    subst hb2
    exact ⟨ints_nums (ks := _) (by repeat constructor) (by decide), by show 1 ≤ 3; decide, by show 3 ≤ 20; decide⟩
  have e3 : NumsOk vs ∧ 1 ≤ vs.length ∧ vs.length ≤ 20 := sheet_ok h3i
  clear hb1 hb2
  have i1 := (N4 _ (.tail _ (.tail _ (.tail _ (.head _)))))
  have i2 := (N4 _ (.tail _ (.tail _ (.head _))))
  have i3 := (N4 _ (.tail _ (.head _)))
  have i4 := (N4 _ (.head _))
  have i5 := (N4 _ (.tail _ (.tail _ (.tail _ (.tail _ (.head _))))))
  have i6 := (N4 _ (.tail _ (.tail _ (.tail _ (.tail _ (.tail _ (.head _)))))))
  have T4 : Tabs h4 := ⟨hT.1.keeps fun o e => by rw [e62] at e; cases e; exact i5.1, hT.2.keeps fun o e => by rw [e69] at e; cases e; exact i6.1⟩
  have hlM : h4.IsList lM #[.ref l1, .ref l2, .ref l3] := ⟨_, i4.1, rfl, _, rfl⟩
  have hls : ∀ p ∈ [(l1, b1.toList), (l2, b2.toList), (l3, vs)], (h4.IsList p.1 p.2.toArray) ∧ NumsOk p.2 ∧ 1 ≤ p.2.length ∧ p.2.length ≤ 20 := by
    intro p hp
    rcases List.mem_cons.mp hp with rfl | hp
    · exact ⟨⟨_, i1.1, rfl, _, rfl⟩, e1⟩
    rcases List.mem_cons.mp hp with rfl | hp
    · exact ⟨⟨_, i2.1, rfl, _, rfl⟩, e2⟩
    rw [List.mem_singleton.mp hp]
    exact ⟨⟨_, i3.1, rfl, _, rfl⟩, e3⟩
  have hit : ∀ (i : Nat) (v : Value), (#[.ref l1, .ref l2, .ref l3] : Array Value)[i]? = some v → ∃ p ∈ [(l1, b1.toList), (l2, b2.toList), (l3, vs)], v = .ref p.1 := by
    intro i v hv
    match i, hv with
    | 0, hv => cases hv; exact ⟨_, .head _, rfl⟩
    | 1, hv => cases hv; exact ⟨_, .tail _ (.head _), rfl⟩
    | 2, hv => cases hv; exact ⟨_, .tail _ (.tail _ (.head _)), rfl⟩
    | n + 3, hv => simp at hv
  generalize [(l1, b1.toList), (l2, b2.toList), (l3, vs)] = ls at hls hit
  generalize (#[.ref l1, .ref l2, .ref l3] : Array Value) = its at hlM hit
  clear i1 i2 i3 i4 i5 i6 N4 e1 e2 e3
  have hL4 : L < h4.objs.size := F4.ns.lt
  refine name_loopC (fun _ => JL base s L (rm l D M) ls) (by exact rfl) hlM ?_ ?_ ?_ ?_
  · intro h' tk hk
    refine ⟨rfl, hB, ⟨T4.1.keeps fun o e => hk _ _ e, T4.2.keeps fun o e => hk _ _ e⟩, ⟨base, none, ⟨.refl, below_caller base, ktsDicts_nil⟩, ?_⟩, fun p hp => (hls p hp).1.at fun o e => hk _ _ e⟩
    refine fr_ex ⟨F4.ns.keeps hk, fun b o e => hk _ _ (F4.keep b o e), F4.above⟩ fun y => ?_
    unfold bindM
    by_cases q : y = Str.ofString "numbers"
    · subst q; rfl
    · rw [if_neg q]
  · rintro i s' h' tk hI J hk
    obtain ⟨ga, v, Ga, Fa⟩ := J.gd
    refine ⟨J.os, J.gens, ⟨J.tabs.1.keeps fun o e => hk _ _ (Nat.ne_of_lt (Nat.lt_trans (Nat.lt_trans (by decide) hL) hL4)) e, J.tabs.2.keeps fun o e => hk _ _ (Nat.ne_of_lt (Nat.lt_trans hL hL4)) e⟩, ⟨ga, v, Ga, ?_⟩, fun p hp => list_keepI (J.lists p hp) hI hk⟩
    exact off_fr' Fa hk (Nat.ne_of_lt hL4) (Heap.get?_none_of_le (Nat.le_trans Fa.above (Nat.le_of_lt hL4)))
  · rintro i s' v hv J it1 it2
    obtain ⟨p, hp, rfl⟩ := hit i v hv
    obtain ⟨-, hpn, hp1, hp20⟩ := hls p hp
    obtain ⟨ga, v0, Ga, Fa⟩ := J.gd
    have hLa0 : ga.get? L = none := kts_self Fa
    have hI0 : ga.get? h4.objs.size = none := Heap.get?_none_of_le (Nat.le_trans Fa.above (Nat.le_of_lt hL4))
    have ga62 := Ga.T.none_ _ h62
    have ga69 := Ga.T.none_ _ h69
    refine wpAny_assign_Name (wpAny_storeName_local (by rfl) Fa.ns (fun hb hnb hsb => ?_) (by rfl))
    have kb : ∀ b o, b ≠ L → s'.heap.get? b = some o → hb.get? b = some o := fun b o hb e => hsb.extBut b o hb e
    have Fb : Fr ga L hb (bindM (rm l D M) (Str.ofString "numbers") (some (.ref p.1))) := fr_ex ⟨hnb, fun b o e => kb b o (fun q => by rw [q, hLa0] at e; cases e) (Fa.keep b o e), Fa.above⟩ (fun y => by
      unfold bindM
      by_cases q : y = Str.ofString "numbers"
      · rw [if_pos q, if_pos q]
      · rw [if_neg q, if_neg q, if_neg q])
    have Tb : Tabs hb := J.tabs.atL hL kb
    have hlb : ∀ p ∈ ls, hb.IsList p.1 p.2.toArray := fun p hp => (J.lists p hp).at fun o e => kb _ o (list_neL Fa (J.lists p hp)) e
    have itb : hb.IsList lM its := it2.at fun o e => kb _ o (list_neL Fa it2) e
    have sz : 69 < hb.objs.size := Nat.lt_trans hL Fb.ns.lt
    dsimp only
    refine wpC_execs_cons (wpC_If (wpC_isTrue_Not (wpC_isTrue_value (wpC_Call ?_))))
    have X' := (Ga.cx C).X
    have T' := (Ga.cx C).T
    have F' := Fb
    have Fbt := And.intro Fb trivial
    have N' : News ga L hb (allAt ga L hb) := allAt_news ga L hb
    k_steps
    refine wpC_callWith_K ((Ga.cx C).keeps Fbt.1.keep).X (by first | k_is | kernel_rfl) ?_
    k_steps
    have Fb := Fbt.1
    refine wpC_call (right_spec w C (Ga.below Fb rfl rfl) (Ga.dicts Fb rfl) (noInit_one Fb.ns rfl) (by exact rfl) (Nat.le_of_ble_eq_true rfl) (Nat.le_of_ble_eq_true rfl) (hlb p hp) hpn hp1 hp20 Tb h62 h69 sz J.gens fun s2 g2 hos2 hB2 T2 S2 Tb2 => ?_)
    obtain ⟨g6, G6, F6, hg6, hk6, hg5⟩ := Ga.after (fr_bare Fb Tb ga62 ga69) rfl T2 S2
    (try dsimp only)
    refine wpAny_truthy_bool ?_
    (try dsimp only)
    rw [if_neg (by decide)]
    refine wpC_of_any (wpAny_execs_nil ?_)
    (try dsimp only)
    refine wpC_of_any (wpAny_execs_nil ?_)
    (try dsimp only)
    have keepl : ∀ {a : Addr} {zs : Array Value}, hb.IsList a zs → s2.heap.IsList a zs := fun H => (KtsTurn.isList T2 (bareOf_list Tb H)).at fun o e => S2 _ _ e
    obtain ⟨oi, hoi, hci, hdi⟩ := it1
    exact ⟨⟨hos2.trans J.os, hB2, Tb2, ⟨g6, _, G6, F6⟩, fun p hp => keepl (hlb p hp)⟩,
      ⟨oi, hk6 _ _ (Nat.ne_of_gt hL4) hI0 (bareOf_at Tb (kb _ _ (Nat.ne_of_gt hL4) hoi) (.inl (by rw [hci]; nofun))), hci, hdi⟩, keepl itb⟩
  · intro s' J
    obtain ⟨ga, v0, Ga, Fa⟩ := J.gd
    (try dsimp only)
    refine wpC_of_any ?_
    have X' := (Ga.cx C).X
    have T' := (Ga.cx C).T
    have F' := Fa
    have N' : News ga L s'.heap (allAt ga L s'.heap) := allAt_news ga L s'.heap
    k_steps
    exact done _ _ _ J.os J.gens Ga Fa J.tabs
end
end Mine
end

section
open PySem PySem.W PyProof.Rows PySem.Calls
set_option maxRecDepth 100000
set_option maxHeartbeats 8000000
namespace Mine
theorem fillLaw3 (P : Params) : PySem.Challenge.rw_yh0005_01 = PySem.Challenge.rw_yh0005_01 → hd.heap_1 P = hd.heap_1 P := by
  k_fill
  intro _
  rfl

theorem law_body {w : World} {s : Shared} {mean : ExcName → Option Value} {mg mb : Str → Option Value} {base : Heap}
    {name qual : Str} {params : Arguments} {body : List Stmt} {scope : Scope} {dV kV doc pm cdv ct oc : Value} {an od : Option Addr} {osl : Array (Option Value)}
    {L l : Addr} {hf : Heap} {tkf : Nat} {Q : Flow → Shared → Prop} {xs : List Value} {ns : List Int} (ho : (hd.heap_1 w.params).lookup 196 = some ⟨oc, od, .func (fnOf name qual params body scope dV kV doc pm an cdv ct), osl⟩)
    (C : Cx w mean mg mb base) (h62 : base.get? 62 = none) (h69 : base.get? 69 = none) (hL : 69 < L) (F : Fr base L hf (rl l)) (hl : base.IsList l xs.toArray) (hi : IntsAre xs ns) (hlen : ns.length ≤ 63) (hT : Tabs hf) (hB : AllBare s.gens)
    (done : ∀ s' g' m', s'.os = s.os → AllBare s'.gens → Gd callerA base base [] g' → Fr g' L s'.heap m' → Tabs s'.heap → Q (.ret (.bool true)) s') :
    wpC (model PySem.Challenge.rw_yh0005_01.row.prog w) (callerA.deeper (envOf qual scope L 196 cdv)) (execs body (envOf qual scope L 196 cdv)) Q (fun _ _ => False) { s with heap := hf, toks := tkf } := by
  show wpC _ _ (execs (body.drop 0) _) _ _ _
  refine wpC_piece (k := 2) (j := 2) rfl ?_
  obtain ⟨p62, e62⟩ := tab_data hT.1
  obtain ⟨p69, e69⟩ := tab_data hT.2
  refine law_1 ho C F hl hi hlen (p62 := p62) (p69 := p69) ?_ fun h' tk D fx M ys n F1 hfx hys N1 N2 => ?_
  · intro p hp
    rcases List.mem_cons.mp hp with rfl | hp
    · exact ⟨e62, Nat.ne_of_lt (Nat.lt_trans (show 62 < 69 by decide) hL), h62⟩
    · rw [List.mem_singleton.mp hp]; exact ⟨e69, Nat.ne_of_lt hL, h69⟩
  dsimp only
  refine law_2 ho C h62 h69 hL F1 hfx hys N1 ⟨hT.1.keeps fun o e => ?_, hT.2.keeps fun o e => ?_⟩ hB done
  · rw [e62] at e; cases e; exact (N2 _ (.head _)).1
  · rw [e69] at e; cases e; exact (N2 _ (.tail _ (.head _))).1

theorem law_spec (w : World) {s : Shared} {R : Result → Shared → Prop} {mean : ExcName → Option Value} {mg mb : Str → Option Value} {l : Addr} {xs : List Value} {ns : List Int}
    (C : Cx w mean mg mb s.heap) (E : Empt s.heap) (hl : s.heap.IsList l xs.toArray) (hi : IntsAre xs ns) (hlen : ns.length ≤ 63) (hL : 69 < s.heap.objs.size) (hB : AllBare s.gens)
    (done : ∀ s', s'.os = s.os → AllBare s'.gens → (bareOf s.heap).StaysIn s'.heap → Tabs s'.heap → R (.ok (.ret (.bool true))) s') :
    codeC (model PySem.Challenge.rw_yh0005_01.row.prog w) callerA (.call (.ref 196) ⟨[.ref l], []⟩) R s := by
  have Cb := cx_bare E C
  refine' enterC Cb (fun b o e => of_hideAll _ e) (Nat.le_of_eq (hideAll_size _ _)) ?k1 ?k2 (by decide) ?k3 ?k4 ?k5 ?k6 ?k7 ?k8 ?_
  (case k1 => k_is)
  (case k2 => k_is)
  (case k3 => exact BindsTo.of_eq rfl)
  (case k4 => exact locs rfl)
  (case k5 => decide)
  (case k6 => exact rfl)
  (case k7 => exact rfl)
  (case k8 => exact rfl)
  intro L h₁ hLs F hk
  have ho := (fun (e2 : (hd.heap_1 w.params).lookup 196 = some ⟨_, _, .func (fnOf _ _ _ _ _ _ _ _ _ _ _ _), _⟩) => e2) (by k_is)
  refine wpC_mono (law_body ho Cb (hideAll_none _ (.head _)) (hideAll_none _ (.tail _ (.head _))) (by rw [hLs]; exact hL) F (bareOf_list E.tabs hl) hi hlen
    ⟨E.tabs.1.keeps fun o e => hk _ o e, E.tabs.2.keeps fun o e => hk _ o e⟩ hB (Q := fun fl s' => R (.ok (.ret (match fl with | .ret v => v | _ => .none))) s') ?_) (fun _ _ x => x) (fun _ _ x => x.elim)
  intro s' g' m' h1 h2 G F' h5
  refine done s' h1 h2 (fun b o e => F'.keep _ _ (G.B.stays _ _ e)) h5
end Mine
end

section
open PySem PySem.W PyProof.Rows PySem.Calls
set_option maxRecDepth 100000
set_option maxHeartbeats 8000000
namespace Mine
theorem fillTop (P : Params) : PySem.Challenge.rw_yh0005_01 = PySem.Challenge.rw_yh0005_01 → hd.heap_1 P = hd.heap_1 P := by
  k_fill
  intro _
  rfl
theorem old_of {h h' : Heap} (E : Empt h) (t62 : isCodeTable h 62) (t69 : isCodeTable h 69) (k : (bareOf h).StaysIn h') (T : Tabs h') : OldK h h' := by
  obtain ⟨p62, e62⟩ := tab_data T.1
  obtain ⟨p69, e69⟩ := tab_data T.2
  refine ⟨fun b o e => ?_, fun b o e => ?_⟩
  · by_cases h2 : b = 62
    · subst h2
      rw [E.1] at e; cases e
      exact .inr (.inl ⟨t62, rfl, #[], p62, rfl, by rw [Array.empty_append]; exact e62⟩)
    · by_cases h3 : b = 69
      · subst h3
        rw [E.2] at e; cases e
        exact .inr (.inl ⟨t69, rfl, #[], p69, rfl, by rw [Array.empty_append]; exact e69⟩)
      · exact .inl (k b o (hideAll_get _ e (by simp [h2, h3])))
  · by_cases h2 : b = 62
    · subst h2; exact ⟨_, e62⟩
    · by_cases h3 : b = 69
      · subst h3; exact ⟨_, e69⟩
      · exact ⟨o, k b o (hideAll_get _ e (by simp [h2, h3]))⟩
theorem top : PySem.Challenge.rw_yh0005_01.Holds := by
  refine hd ?_
  intro w s₀ s₁ mg mb G Y fa o pm cd doc dV kV ho hdd hcd hD hmg hg args vals as hpre hlay hrd hwl hlo
  have KX := km_in_of Y
  have tabs := km_tabs_of Y
  clear Y
  refine Ground.open G ?_
  intro T B D TE TW
  have E : Empt s₁.heap := ⟨tabs 62 (.head _), tabs 69 (.tail _ (.head _))⟩
  have C : Cx w _ mg mb s₁.heap := ⟨KX, T⟩
  wrow_args hpre hlay hrd hwl hlo
  rename_i nz _ _ _ _ _ _ _ lz vz _ hL _ _ _ hI _ hc1 _
  have hm := mg_of C.X C.T.g (show nsIn (hd.heap_1 w.params) mainGlobals (Str.ofString "law") = some (some (.ref 196)) by kernel_rfl)
  have hfa : fa = 196 := by
    have := hmg.symm.trans hm
    injection this with this
    injection this
  subst hfa
  have hlen : nz.length ≤ 63 := by omega
  have t62 : isCodeTable s₁.heap 62 := ((codeHd_of_K (c := 66) (P := 62) C.X (by kernel_rfl)).tab E.1).isCodeTable
  have t69 : isCodeTable s₁.heap 69 := ((codeHd_of_K (c := 73) (P := 69) C.X (by kernel_rfl)).tab E.2).isCodeTable
  refine wpC_call (law_spec w C E hL hI hlen (Heap.lt_size E.2) (AllBare.of_eq hg) fun s' hos hB' keep hT' => ?_)
  refine ⟨.inl ⟨.bool true, .bool true, [], rfl, fun _ => rfl, .bool _, ?_, fun _ => ⟨List.nodup_nil, fun _ h => nomatch h⟩⟩, old_of E t62 t69 keep hT', hos, hB'⟩
  kernel_rfl
end Mine
end

theorem PySem.Challenge.cw_yh0005_01_holds : PySem.Challenge.rw_yh0005_01.Holds := by
  exact Mine.top
