import PyProof.Rows.All
import Wide.All
import OpenK.AllK
import Wide.FinOn
import Lean
import PySem.Challenge.RW_bd0009_01
set_option Elab.async false
set_option compiler.extract_closed false
local macro_rules | `(tactic| walk_at $s:str) => `(tactic| k_extra $s)

section
open PySem PySem.W PyProof.Rows
namespace Mine
open PySem.Sem (wp)

/-- a frame that holds a bytearray while it runs (what `exported` looks for) -/
def holdsIt : Code → Bool
  | .builtin id _ => Builtin.Bytes.decodersThatHold.contains id
  | _ => false
def bad (c : Code) : Bool := c.isGuard || holdsIt c
def CleanB (Γ : Ctx) : Prop := ∀ x ∈ Γ.below, bad x.1 = false
def Clean (Γ : Ctx) : Prop := bad Γ.code = false ∧ CleanB Γ

/-- `wpAny` on the stacks that hold nothing -/
def wpN {α : Type} (M : Model) (A : Around) (t : Sem α) (Q : α → Shared → Prop) (E : Value → Shared → Prop) (s : Shared) : Prop :=
  ∀ Γ p, Γ.In A → Clean Γ → wp M Γ t (fun a _ s' => Q a s') (fun e _ s' => E e s') p s
def codeN (M : Model) (A : Around) (c : Code) (R : Result → Shared → Prop) (s : Shared) : Prop :=
  ∀ Γ p, Γ.code = c → Γ.Below A → CleanB Γ → wpCode M Γ R p s

section
variable {α β : Type} {M : Model} {A : Around} {E : Value → Shared → Prop} {s : Shared}

theorem nOf {t : Sem α} {Q : α → Shared → Prop} (h : wpAny M A t Q E s) : wpN M A t Q E s := fun Γ p hΓ _ => h Γ p hΓ
theorem cOf {c : Code} {R : Result → Shared → Prop} (h : codeAny M A c R s) : codeN M A c R s := fun Γ p hc hΓ _ => h Γ p hc hΓ
theorem nMono {t : Sem α} {Q Q' : α → Shared → Prop} {E' : Value → Shared → Prop} (h : wpN M A t Q E s)
    (hQ : ∀ a s, Q a s → Q' a s) (hE : ∀ e s, E e s → E' e s) : wpN M A t Q' E' s :=
  fun Γ p hΓ hC => Sem.wp_mono M Γ t (fun a _ s => hQ a s) (fun e _ s => hE e s) p s (h Γ p hΓ hC)
theorem cMono {c : Code} {R R' : Result → Shared → Prop} (h : codeN M A c R s) (hR : ∀ r s, R r s → R' r s) : codeN M A c R' s :=
  fun Γ p hc hΓ hC => wpCode_mono hR (h Γ p hc hΓ hC)
theorem nPure {a : α} {Q : α → Shared → Prop} (h : Q a s) : wpN M A (pure a) Q E s := fun _ _ _ _ => h
theorem nBind {m : Sem α} {f : α → Sem β} {Q : β → Shared → Prop} (h : wpN M A m (fun a s' => wpN M A (f a) Q E s') E s) :
    wpN M A (m >>= f) Q E s := fun Γ p hΓ hC => by
  rw [Sem.wp_bind']
  exact Sem.wp_mono M Γ m (fun a p' s' h' => h' Γ p' hΓ hC) (fun _ _ _ h' => h') p s (h Γ p hΓ hC)
/-- a step that asks nothing of the stack, ahead of one that does -/
theorem aBind {m : Sem α} {f : α → Sem β} {Q : β → Shared → Prop} (h : wpAny M A m (fun a s' => wpN M A (f a) Q E s') E s) :
    wpN M A (m >>= f) Q E s := nBind (nOf h)
theorem nTry {m : Sem α} {k : Value → Sem α} {Q : α → Shared → Prop} (h : wpN M A m Q (fun e s' => wpN M A (k e) Q E s') s) :
    wpN M A (tryCatch m k) Q E s := fun Γ p hΓ hC => by
  rw [Sem.wp_tryCatch']
  exact Sem.wp_mono M Γ m (fun _ _ _ h' => h') (fun e p' s' h' => h' Γ p' hΓ hC) p s (h Γ p hΓ hC)
theorem nOnRaise {m : Sem α} {k : Value → Sem Unit} {Q : α → Shared → Prop}
    (h : wpN M A m Q (fun e s' => wpN M A (k e) (fun _ s'' => E e s'') E s') s) : wpN M A (m.onRaise k) Q E s := fun Γ p hΓ hC => by
  rw [Sem.wp_onRaise]
  exact Sem.wp_mono M Γ m (fun _ _ _ h' => h') (fun e p' s' h' => h' Γ p' hΓ hC) p s (h Γ p hΓ hC)
theorem nAttempt {m : Sem α} {Q : Except Value α → Shared → Prop} (h : wpN M A m (fun a => Q (.ok a)) (fun e => Q (.error e)) s) :
    wpN M A m.attempt Q E s := fun Γ p hΓ hC => by rw [Sem.wp_attempt]; exact h Γ p hΓ hC
theorem nHolding {vs : List Value} {m : Sem α} {Q : α → Shared → Prop} (h : wpN M A m Q E s) : wpN M A (holding vs m) Q E s :=
  fun Γ p hΓ hC => by rw [Sem.wp_holding]; exact h Γ p hΓ hC
theorem nKeep {vs : List Value} {m : Sem α} {Q : α → Shared → Prop} (h : wpN M A m Q E s) : wpN M A (m.keep vs) Q E s :=
  fun Γ p hΓ hC => by rw [Sem.wp_keep]; exact h Γ p hΓ hC
theorem nStandAt {pos : Pos} {Q : Unit → Shared → Prop} (h : Q () s) : wpN M A (standAt pos) Q E s := fun _ _ _ _ => h
theorem nRule {tag : String} {Q : Unit → Shared → Prop} (h : Q () s) : wpN M A (rule tag) Q E s := fun _ _ _ _ => h
theorem nThrow {e : Value} {Q : α → Shared → Prop} (h : E e s) : wpN M A (throw e : Sem α) Q E s := fun _ _ _ _ => h

theorem clean_enter {Γ : Ctx} {c : Code} {h : Option Value} {p : Pos} (hC : Clean Γ) : CleanB (Γ.enter c h p) := by
  intro x hx
  rcases List.mem_cons.mp (show x ∈ (Γ.code, p) :: Γ.below from hx) with rfl | hx
  · exact hC.1
  · exact hC.2 x hx
theorem nRun {c : Code} {h : Option Value} {Q : Flow → Shared → Prop}
    (hc : codeN M (A.mark h) c (fun r s' => match r with | .ok f => Q f s' | .error e => E e s') s) (hnb : h ≠ some byPass := by intro x; cases x) :
    wpN M A (run c h) Q E s :=
  fun Γ p hΓ hC => by rw [Sem.wp_run]; exact hc _ p rfl (hΓ.enter c h p hnb) (clean_enter hC)
theorem nRunValue {c : Code} {Q : Value → Shared → Prop}
    (hc : codeN M A c (fun r s' => match r with | .ok (.ret v) => Q v s' | .ok _ => False | .error e => E e s') s) :
    wpN M A (runValue c) Q E s := fun Γ p hΓ hC => by rw [Sem.wp_runValue]; exact hc _ p rfl (hΓ.enter c none p (by intro x; cases x)) (clean_enter hC)
theorem nCall {f : Value} {pos : List Value} {kw : List (Str × Value)} {Q : Value → Shared → Prop}
    (hc : codeN M A (.call f ⟨pos, kw⟩) (fun r s' => match r with | .ok (.ret v) => Q v s' | .ok _ => False | .error e => E e s') s) :
    wpN M A (call f pos kw) Q E s := nRunValue hc
theorem nRunOwn {c : Code} {env : Env} {h : Option Value} {Q : Flow → Shared → Prop}
    (hc : codeN M (A.mark h) c (fun r s' => match r with | .ok f => Q f s' | .error e => cameBackBy M A env E e s') s) (hnb : h ≠ some byPass := by intro x; cases x) :
    wpN M A (runOwn c env h) Q E s := by
  unfold runOwn
  exact nOnRaise (nMono (nRun (E := fun e s' => cameBackBy M A env E e s') hc hnb) (fun _ _ x => x) fun _ _ x => nOf x)

theorem cOfTree {c : Code} {R : Result → Shared → Prop} (hb : bad c = false)
    (h : wpN M (A.under c) (M.den c) (fun fin s' => match fin with | .done f => R (.ok f) s' | .again c' => c'.quiet = true ∧ codeN M A c' R s')
      (fun e s' => R (.error e) s') s) : codeN M A c R s := fun Γ p hc hΓ hC => by
  rw [wpCode_iff_wp, hc]
  refine Sem.wp_mono M Γ _ (fun fin p' s' h' => ?_) (fun _ _ _ h' => h') p s (h Γ p (hc ▸ hΓ.in) ⟨hc ▸ hb, hC⟩)
  cases fin with
  | done f => exact h'
  | again c' => exact ⟨h'.1, h'.2 (Γ.goto c') p' rfl (hΓ.goto c') hC⟩

theorem no_id {id s : String} {args : Args} (h : Code.isGuard (.builtin id args) = false) (hs : guardIds.contains s = true) : ¬ id = s := by
  intro x
  subst x
  exact Bool.false_ne_true (h.symm.trans hs)
theorem and_snd {a b : Bool} (h : (a && b) = true) : b = true := by
  cases a
  · exact absurd h Bool.false_ne_true
  · exact h
theorem nExported {v : Value} {Q : Bool → Shared → Prop} (h : Q false s) : wpN M A (Builtin.Bytes.exported v) Q E s := fun Γ p _ hC => by
  show Q (((Γ.code, p) :: Γ.below).any _) s
  have e : ∀ x ∈ (Γ.code, p) :: Γ.below, bad x.1 = false := by
    intro x hx
    rcases List.mem_cons.mp hx with rfl | hx
    · exact hC.1
    · exact hC.2 x hx
  rw [List.any_eq_false.mpr ?_]
  · exact h
  · rintro ⟨c, q⟩ hx
    have hb := e _ hx
    cases c with
    | builtin id args =>
      obtain ⟨pos, kw⟩ := args
      obtain ⟨h1, h2⟩ := Bool.or_eq_false_iff.mp hb
      delta Builtin.Bytes.exported.match_1
      dsimp only
      intro x
      have x := (dif_neg (no_id h1 (by decide +kernel))).symm.trans x
      have x := (dif_neg (no_id h1 (by decide +kernel))).symm.trans x
      have x := (dif_neg (no_id h1 (by decide +kernel))).symm.trans x
      have x := (dif_neg (no_id h1 (by decide +kernel))).symm.trans x
      have x := (dif_neg (no_id h1 (by decide +kernel))).symm.trans x
      cases pos with
      | nil => exact Bool.false_ne_true x
      | cons v tl => exact absurd (and_snd x) (fun y => Bool.false_ne_true (h2.symm.trans y))
    | _ => exact Bool.false_ne_true
end
end Mine
end

section
open PySem PySem.W PySem.Calls PyProof.Rows
namespace Mine
open PySem.Sem (wp)

theorem clean_caller : Clean (⟨.builtin "claim.caller" {}, none, none, [], none⟩ : Ctx) :=
  ⟨by decide +kernel, fun _ hx => nomatch hx⟩

theorem ends_of_wpN {prog : Program} {w : World} {t : Sem Fin} {s : Shared} {R : Result → Shared → Prop} (hreg : s.asleep)
    (h : wpN (model prog w) callerA t (fun fin s' => ∃ f, fin = .done f ∧ (R (.ok f) s' ∧ leftWithCleanup s'.gens = false)) (fun e s' => R (.error e) s' ∧ leftWithCleanup s'.gens = false) s) :
    ∃ n r s' s'', runN (denote table) prog w n s ⟨t, .builtin "claim.caller" {}, default, []⟩ = .halted (outcomeOf r) s' ∧
      schedN (denote table) prog w n (.single s ⟨t, .builtin "claim.caller" {}, default, []⟩) = .halted (outcomeOf r) s' ∧ s'.forget = s''.forget ∧ R r s'' := by
  have h' := h _ default caller_in clean_caller
  have h'' := Sem.wp_mono (model prog w) _ t (post' := Sem.finPost (model prog w) ⟨.builtin "claim.caller" {}, none, none, [], none⟩ fun r s' => R r s' ∧ leftWithCleanup s'.gens = false)
    (exc' := fun e _ s' => R (.error e) s' ∧ leftWithCleanup s'.gens = false) (fun fin p' s' x => by
      obtain ⟨f, rfl, y⟩ := x
      exact y) (fun _ _ _ x => x) default s h'
  obtain ⟨n, r, s₁, s₂, hs, hn, hfo, hR⟩ := wp_halts_full (M := model prog w) (R := R) hreg h''
  exact ⟨n, r, s₂, s₁, hn, hs, hfo, hR⟩

theorem callFromN {c : ClaimW} {tree : List Value → Sem Fin} {w : World} {s : Shared} {free : Addr → Prop} {gens : Prop} {kept : Heap → Prop} (hz : s.asleep) (hgens : s.gens = #[])
    (hspec : ∀ args, c.pre args = true → WData.layableAll args = true →
      ∀ ord : List DictEntry → List DictEntry, (∀ l, (ord l).Perm l) →
      ∃ vs s₁, layAllW c.records (classAt s.heap) w.params ord args s = some (vs, s₁) ∧
        wpN (model c.prog w) callerA (tree vs) (fun fin s' => ∃ f, fin = .done f ∧ (c.Ends s args vs s₁ (.ok f) s' ∧ s'.os = s.os ∧ AllBare s'.gens ∧ kept s'.heap))
          (fun e s' => c.Ends s args vs s₁ (.error e) s' ∧ s'.os = s.os ∧ AllBare s'.gens ∧ kept s'.heap) s₁) :
    c.CallFrom (fun vs => ⟨tree vs, .builtin "claim.caller" {}, default, []⟩) w free gens kept s := by
  intro args hpre hlay ord hord
  obtain ⟨vs, s₁, hlaid, hcode⟩ := hspec args hpre hlay ord hord
  have hal := layAllW_rest _ _ _ hlaid
  obtain ⟨k, r, s', s'', hrun, hsched, hfo, hcase, hos, hkp⟩ := ends_of_wpN (prog := c.prog) (w := w) (t := tree vs) (s := s₁)
    (R := fun r s' => c.Ends s args vs s₁ r s' ∧ s'.os = s.os ∧ kept s'.heap)
    (Shared.asleep_of_life hal.2.2.2 hz)
    (nMono hcode (fun fin s' x => by
      obtain ⟨f, e, h1, h2, h3, h4⟩ := x
      exact ⟨f, e, ⟨h1, h2, h4⟩, leftWithCleanup_false_of_bare h3⟩) (fun e s' x => by
      obtain ⟨h1, h2, h3, h4⟩ := x
      exact ⟨⟨h1, h2, h4⟩, leftWithCleanup_false_of_bare h3⟩))
  have eh := (Shared.forget_eq hfo).1
  have eo := (Shared.forget_eq hfo).2.2.2.1
  have hcase' := hcase.congr eh
  have hkp' : kept s'.heap := by rw [eh]; exact hkp
  have hos' : s'.os = s.os := eo.trans hos
  have hlife : s'.heap.life = s.heap.life := (runN_life _ _ _ hrun).trans hal.2.2.2
  refine ⟨vs, s₁, hlaid, k, _, s', hsched, ?_, (fun _ i x hx => by rw [hgens] at hx; simp at hx), hkp', by rw [hlife], Shared.rest_eq hos'⟩
  exact hcase'.imp (fun x => x.imp fun v y => ⟨congrArg outcomeOf y.1, y.2.1, y.2.2.1, y.2.2.2.1, fun b o z _ => y.2.2.2.2.1 b o z, y.2.2.2.2.2⟩)
    (fun x => x.imp fun e y => y.imp fun ob y => y.imp fun cls y => ⟨congrArg outcomeOf y.1, y.2.1, y.2.2.1, y.2.2.2.1, y.2.2.2.2.1, fun b o z _ => y.2.2.2.2.2 b o z⟩)

abbrev WalkN' (q : Program) (loose : List Str) (XP : (Str → Option Value) → Heap → Prop) (YP : World → Heap → Prop) (r : RowW) (d : DefRec) (kwd : List (Str × Expr)) : Prop :=
  ∀ (w : World) (s₀ s₁ : Shared) (mg mb : Str → Option Value), Ground q loose r.records XP w s₀ mg mb s₁.heap → YP w s₁.heap → ∀ (a : Addr) (o : Obj) (pm cd doc dV kV : Value), s₁.heap.get? a = some o →
    o.data = .func { docDef d.name d.params d.body d.scope pm cd doc with defaults := dV, kwdefaults := kV } → s₁.heap.CodeRec cd d.name → Dflts mg s₁.heap d.params kwd dV kV → mg d.name = some (.ref a) → s₁.gens = #[] →
    ∀ (args : List WData) (vals : List Value) (as : List Addr), r.claim.pre args = true → WData.layableAll args = true → ReadsAllW r.records (classAt s₀.heap) s₁.heap vals args as → WellAll w.params s₁.heap vals args → (∀ a ∈ as, (a == sysModules) = false) →
      wpN (model r.prog w) callerA (PySem.call (.ref a) vals) (fun v s' => GoodWG r.claim (classAt s₀.heap) (ExcName.means s₀.heap) args s₁ (.ok (.ret v)) s')
        (fun e s' => GoodWG r.claim (classAt s₀.heap) (ExcName.means s₀.heap) args s₁ (.error e) s') s₁

/-- the head's last step, for a walk over the stacks that hold nothing: the name is the one that the head's line asks for, under this namespace -/
theorem PySem.W.holds_open {r : OpenRow} {q : Program} {loose : List Str} {Xt : Shared → Bool} {XP : (Str → Option Value) → Heap → Prop} {α : Type} {Yf : Shared → α} {Ya : World → α} {YP : World → Heap → Prop} {d : DefRec} {kwd : List (Str × Expr)} {N : Nat}
    (left : LeftO r.prog q loose Xt Yf Ya N) (hY : ∀ w s, Yf s = Ya w → YP w s.heap) (hYk : ∀ w h h', YP w h → (∀ b o, h.get? b = some o → h'.get? b = some o) → YP w h')
    (hX : ∀ s, Xt s = true → XP (s.heap.nsMap mainGlobals) s.heap) (hXk : ∀ mg h h', XP mg h → (∀ b o, h.get? b = some o → h'.get? b = some o) → XP mg h')
    (hdef : defOf q r.name = some (d, kwd)) (hp : r.prog.theDef r.name = some (d.params, d.body, d.scope)) (hk : kwWritten? d.params.kwonlyargs d.params.kw_defaults = some kwd) (hRf : ∀ s, Xt s = true → RecFacts r.records s.heap) (hwr : (!r.writes || r.records.isEmpty) = true)
    (k1 : r.wellSaid = true) (ok : (chainsOk q && opensWell r.prog && (frees r.toRowW && r.within.isEmpty)) = true) (hb : r.prog.bare) (hw : r.toRowW.promised)
    (call : WalkN' q loose XP YP r.toRowW d kwd) : r.Holds := by
  refine ⟨k1, hw, ?_⟩
  obtain ⟨ok, k5⟩ := Bool.and_eq_true_iff.mp ok
  obtain ⟨hch, o1⟩ := Bool.and_eq_true_iff.mp ok
  obtain ⟨k5, k6⟩ := Bool.and_eq_true_iff.mp k5
  obtain ⟨hsame, hu, ha, hap, hm⟩ := frees_parts k5
  have hm' : r.toRowW.claim.makers = [] := by show r.makers.map _ = []; rw [hm]; rfl
  refine ⟨⟨hb, o1, hm'⟩, hw.witness, fun w => ⟨(left.behind hX hch w).1, fun s' hs' => ?_⟩⟩
  obtain ⟨s₀, hf, hg0, s, hT, hz, hgens, hg, G00, y⟩ := (left.behind (XP := fun mg h => XP mg h ∧ RecFacts r.records h) (fun s hs => ⟨hX s hs, hRf s hs⟩) hch w).2 s' hs'
  have G0 : Ground q loose [] XP w s (s.heap.nsMap mainGlobals) (s.heap.nsMap builtinsNs) s.heap := ⟨G00.T, G00.B, G00.D, G00.TE, G00.TD, G00.W, G00.X.1, G00.cls, G00.has, G00.apart, G00.once, G00.K⟩
  have RF := G00.X.2
  have pin : ∀ n ∈ (if r.pinned then [r.name] else []), isTheDefsW r.prog s.heap n := fun n hn => by
    obtain rfl : n = r.name := by split at hn <;> simp_all
    exact pinned_of_view hg G0 hdef hp hk
  refine ⟨s₀, hf, hg0, s, hT, pin, RF.1, RF.2.1, ?_⟩
  have hgens : s.gens = #[] := Array.eq_empty_of_size_eq_zero (beq_iff_eq.mp hgens)
  have G : Ground q loose r.records XP w s _ _ s.heap := RF.ground G0
  refine callFromN (c := r.toRowW.claim) (tree := fun vs => do match ← nsGet mainNs r.name with
      | some f => do ret (← PySem.call f vs)
      | none => unsupported "claim.caller:no-such-global") hz hgens fun args hpre hlay ord hord => ?_
  obtain ⟨⟨vs, s₁⟩, hlaid⟩ := Option.isSome_iff_exists.mp (layAllW_isSome (P := w.params) (ord := ord) G.has args r.args s (pre_splitW hpre).1)
  have keeps := layAllW_keeps _ _ _ hlaid
  have hal := layAllW_rest _ _ _ hlaid
  obtain ⟨as, hrd, hin, hold⟩ := reads_layAllW hord _ _ _ hlaid hlay s₁.heap (fun _ _ e => e)
  have L : Laid r.records w s s₁ args vs as := ⟨⟨ord, hord, hlaid⟩, hrd, hin, hold, keeps, hal.1.trans hgens, hal.2.2.1⟩
  have G₁ := G.keeps hXk keeps
  obtain ⟨a, o, pm, cd, doc, dV, kV, h1, h2, h3, h4, h5⟩ := G₁.fn hdef
  have h := call w s s₁ _ _ G₁ (hYk _ _ _ (hY w s y) keeps) a o pm cd doc dV kV h2 h3 h4 h5 (defOf_name hdef ▸ h1) L.gens args vs as hpre hlay L.reads L.well (L.low G.low)
  have hi := ident_freeW hu ha hap
  have hwi : r.toRowW.claim.within = [] := List.isEmpty_iff.mp k6
  refine ⟨vs, s₁, hlaid, aBind (wpAny_nsGet G₁.T.g ?_)⟩
  rw [h1]
  refine nBind (nMono h (fun v s' g => nPure ⟨_, rfl, ?_⟩) fun e s' g => ?_)
  · have z := g.laid (c := r.toRowW.claim) hsame hwi hi L
    exact ⟨z.1, z.2.1, z.2.2, fun q => ⟨namesKept_of hT hg r.keeps keeps g.2.1.old, noTable hwr q⟩⟩
  · have z := g.laid (c := r.toRowW.claim) hsame hwi hi L
    exact ⟨z.1, z.2.1, z.2.2, fun q => ⟨namesKept_of hT hg r.keeps keeps g.2.1.old, noTable hwr q⟩⟩
end Mine
end

section
open PySem PySem.W PyProof.Rows
set_option maxRecDepth 100000
set_option maxHeartbeats 8000000
namespace Mine
/-- The kit proves a quick twin of a constant by a chain as long as the square of what the constant names; for the pieces of this top that alone would make 300 MB.
A twin whose name is taken is left out by the kit (`makeTwin`), and the kernel reads the constant itself: so the names of the great ones are taken here. -/
def taken : Str := Str.ofString "x"
theorem taken_e : taken = taken := rfl
name_quick tw17152643517016024388 for taken by taken_e
name_quick tw17252204748960688645 for taken by taken_e
name_quick tw16616699407766980992 for taken by taken_e
name_quick tw8075568018651887793 for taken by taken_e
name_quick tw11865712921756482267 for taken by taken_e
name_quick tw7365418143572279482 for taken by taken_e
name_quick tw8174014738114668324 for taken by taken_e
name_quick tw2688807393722556119 for taken by taken_e
name_quick tw11738680885798957460 for taken by taken_e
name_quick tw18078706397584847548 for taken by taken_e
name_quick tw12928585917629333117 for taken by taken_e
name_quick tw12123760966772057192 for taken by taken_e
name_quick tw9717034708461421297 for taken by taken_e
name_quick tw14722251836836517640 for taken by taken_e
name_quick tw12632674754891743685 for taken by taken_e
name_quick tw14979626087600564940 for taken by taken_e
name_quick tw7876582115897175935 for taken by taken_e
name_quick tw12741189161924615318 for taken by taken_e
name_quick tw2480624987951253665 for taken by taken_e
name_quick tw8342603281565665359 for taken by taken_e
name_quick tw6487607542567909272 for taken by taken_e
name_quick tw15293694290771056936 for taken by taken_e
name_quick tw10532037691210839823 for taken by taken_e
name_quick tw11033229525477584929 for taken by taken_e
name_quick tw1649557021532216605 for taken by taken_e
name_quick tw383478444716035976 for taken by taken_e
name_quick tw8658103293671471659 for taken by taken_e
name_quick tw4600395469775339435 for taken by taken_e
name_quick tw16243683426749602078 for taken by taken_e
name_quick tw6832808476680081064 for taken by taken_e
name_quick tw10379131730601215995 for taken by taken_e
name_quick tw6148621092414575339 for taken by taken_e
name_quick tw17045043414572947948 for taken by taken_e
name_quick tw2948108419219029167 for taken by taken_e
name_quick tw1379578315556383370 for taken by taken_e
name_quick tw882838713213173450 for taken by taken_e
name_quick tw6683783046931543321 for taken by taken_e
name_quick tw16697116713213952808 for taken by taken_e
name_quick tw7082770336023389322 for taken by taken_e
name_quick tw3256587380925597060 for taken by taken_e
name_quick tw9281714027785469542 for taken by taken_e
name_quick tw5082074563857973206 for taken by taken_e
name_quick tw1615719349143574890 for taken by taken_e
name_quick tw2968979199505139716 for taken by taken_e
name_quick tw3093977132361051618 for taken by taken_e
name_quick tw13070384816801012346 for taken by taken_e
name_quick tw3267979357774110234 for taken by taken_e
name_quick tw387338674003428930 for taken by taken_e
name_quick tw16494616584097029746 for taken by taken_e
name_quick tw937105155873367277 for taken by taken_e
name_quick tw10030586065758793078 for taken by taken_e
name_quick tw2378363196638174374 for taken by taken_e
name_quick tw16292439048969090190 for taken by taken_e
name_quick tw894076849921957361 for taken by taken_e
name_quick tw1617757218408452269 for taken by taken_e
name_quick tw15028816761298942483 for taken by taken_e
name_quick tw4109823476700235019 for taken by taken_e
name_quick tw16655555454665732581 for taken by taken_e
name_quick tw9515652053505349548 for taken by taken_e
name_quick tw13912434898499826684 for taken by taken_e
name_quick tw12807690338718825411 for taken by taken_e
name_quick tw13002492023102617099 for taken by taken_e
name_quick tw4949472239710415697 for taken by taken_e
name_quick tw16904869804480856166 for taken by taken_e
name_quick tw6834602518627153040 for taken by taken_e
name_quick tw10093032338203421213 for taken by taken_e
name_quick tw3545756843259802059 for taken by taken_e
name_quick tw13809362725867891129 for taken by taken_e
name_quick tw11939915149646268982 for taken by taken_e
name_quick tw4319011637217762917 for taken by taken_e
name_quick tw10589684114461592954 for taken by taken_e
name_quick tw725871291056497461 for taken by taken_e
name_quick tw3094477031063562474 for taken by taken_e
name_quick tw5345256250457102556 for taken by taken_e
name_quick tw5978237884098788730 for taken by taken_e
name_quick tw11892598404827812706 for taken by taken_e
name_quick tw5425108064043664162 for taken by taken_e
name_quick tw11306939235166856333 for taken by taken_e
name_quick tw2905824091091238844 for taken by taken_e
name_quick tw662354867322794072 for taken by taken_e
name_quick tw8017206721242287953 for taken by taken_e
name_quick tw10010936943081839664 for taken by taken_e
name_quick tw7585139358526817783 for taken by taken_e
name_quick tw11137651959834898467 for taken by taken_e
name_quick tw8474383852179026721 for taken by taken_e
name_quick tw13195905796856590283 for taken by taken_e
name_quick tw15007238320947547705 for taken by taken_e
name_quick tw5902227825499142635 for taken by taken_e
name_quick tw15059462757989803610 for taken by taken_e
name_quick tw18287117734903463105 for taken by taken_e
name_quick tw8432684481940611981 for taken by taken_e
name_quick tw4733837786962973091 for taken by taken_e
name_quick tw13236226663087606529 for taken by taken_e
name_quick tw4173924237407464957 for taken by taken_e
name_quick tw6213697211615256494 for taken by taken_e
name_quick tw931183843429516998 for taken by taken_e
name_quick tw13335737130258781183 for taken by taken_e
name_quick tw17000756265888016 for taken by taken_e
name_quick tw9411460985935078520 for taken by taken_e
name_quick tw6123655918767846522 for taken by taken_e
name_quick tw18350638575300117064 for taken by taken_e
name_quick tw10314498396905981064 for taken by taken_e
name_quick tw12268644228514654432 for taken by taken_e
name_quick tw3972328310683599613 for taken by taken_e
name_quick tw12128325577817847261 for taken by taken_e
name_quick tw1495452243305574823 for taken by taken_e
name_quick tw15781324953245214433 for taken by taken_e
name_quick tw7785048605280242668 for taken by taken_e
name_quick tw7561037823649445926 for taken by taken_e
name_quick tw8621552478659558853 for taken by taken_e
name_quick tw1410096668721982599 for taken by taken_e
name_quick tw7692015426583400375 for taken by taken_e
name_quick tw16414604833108395602 for taken by taken_e
name_quick tw11013792430000457035 for taken by taken_e
name_quick tw1278341880987251545 for taken by taken_e
name_quick tw13526986893379352335 for taken by taken_e
name_quick tw9082586571710850966 for taken by taken_e
name_quick tw13145125596335152023 for taken by taken_e
name_quick tw1460277438893781036 for taken by taken_e
name_quick tw1423138165483278961 for taken by taken_e
name_quick tw4989861115921178866 for taken by taken_e
name_quick tw9868982950595657695 for taken by taken_e
name_quick tw5423003317807263696 for taken by taken_e
name_quick tw8164371507598914237 for taken by taken_e
name_quick tw9626942728845285128 for taken by taken_e
name_quick tw3306904295867340462 for taken by taken_e
name_quick tw704327219915372674 for taken by taken_e
name_quick tw7344376507651311505 for taken by taken_e
name_quick tw17919728810627054236 for taken by taken_e
name_quick tw5882768191206486792 for taken by taken_e
name_quick tw1258717718454355964 for taken by taken_e
name_quick tw5144633987255907666 for taken by taken_e
name_quick tw6606113021469975653 for taken by taken_e
name_quick tw9062771732600952553 for taken by taken_e
name_quick tw1375587502874563802 for taken by taken_e
name_quick tw5994239182223829532 for taken by taken_e
name_quick tw17318589155259679147 for taken by taken_e
name_quick tw11328821685186248670 for taken by taken_e
name_quick tw5550314157272711993 for taken by taken_e
name_quick tw11254254501726123291 for taken by taken_e
name_quick tw15560500314895047343 for taken by taken_e
name_quick tw1829445100760108279 for taken by taken_e
name_quick tw16916688483869632129 for taken by taken_e
name_quick tw1189118826323900759 for taken by taken_e
name_quick tw3039592710220408265 for taken by taken_e
name_quick tw1059901042614829057 for taken by taken_e
name_quick tw12731603968600162155 for taken by taken_e
name_quick tw7957090006295546105 for taken by taken_e
name_quick tw17955133630450735404 for taken by taken_e
name_quick tw6380782515089751550 for taken by taken_e
name_quick tw12635813782599140982 for taken by taken_e
name_quick tw2721586585765338809 for taken by taken_e
name_quick tw3353693220867276294 for taken by taken_e
name_quick tw1962928258387122110 for taken by taken_e
name_quick tw18188234029961486008 for taken by taken_e
name_quick tw2401699919119007470 for taken by taken_e
name_quick tw8999186272805695465 for taken by taken_e
name_quick tw12224578244612797663 for taken by taken_e
name_quick tw10029231156530900338 for taken by taken_e
name_quick tw6662432510661729299 for taken by taken_e
name_quick tw16326889199254633757 for taken by taken_e
name_quick tw13640514254501968386 for taken by taken_e
name_quick tw17728961539438068574 for taken by taken_e
name_quick tw4966674849315620570 for taken by taken_e
name_quick tw5698774287046732500 for taken by taken_e
name_quick tw9577309144901391297 for taken by taken_e
name_quick tw6990963922061375149 for taken by taken_e
name_quick tw11641389924110848164 for taken by taken_e
name_quick tw2708163388286742659 for taken by taken_e
name_quick tw6614585292965373069 for taken by taken_e
name_quick tw11935356649212052271 for taken by taken_e
name_quick tw610167625130883901 for taken by taken_e
name_quick tw16548257151911338427 for taken by taken_e
name_quick tw558745408833754511 for taken by taken_e
name_quick tw13951257522405164796 for taken by taken_e
name_quick tw14844032806303022069 for taken by taken_e
name_quick tw2736616831223182526 for taken by taken_e
name_quick tw6125931036764729998 for taken by taken_e
name_quick tw15207642765257501584 for taken by taken_e
name_quick tw8693227569615203950 for taken by taken_e
name_quick tw17517737089405305841 for taken by taken_e
name_quick tw13607416678640721797 for taken by taken_e
name_quick tw9893030918988833448 for taken by taken_e
name_quick tw6993175162768986339 for taken by taken_e
name_quick tw4769018279307018242 for taken by taken_e
name_quick tw13316322371389871543 for taken by taken_e
name_quick tw14190725551584542720 for taken by taken_e
name_quick tw14364280277409689854 for taken by taken_e
name_quick tw8656719876789144132 for taken by taken_e
name_quick tw6801968546669101340 for taken by taken_e
name_quick tw1257650718994608863 for taken by taken_e
name_quick tw1481926694345511941 for taken by taken_e
name_quick tw12659028871203227004 for taken by taken_e
name_quick tw6722154040420286063 for taken by taken_e
name_quick tw6952355047532471503 for taken by taken_e
name_quick tw4888971946704870899 for taken by taken_e
name_quick tw7853834085085047284 for taken by taken_e
name_quick tw5396446701170858492 for taken by taken_e
name_quick tw15195428891847259777 for taken by taken_e
name_quick tw5357591511691535388 for taken by taken_e
name_quick tw5248340912204065574 for taken by taken_e
name_quick tw11625766737575182897 for taken by taken_e
name_quick tw12635297910168745909 for taken by taken_e
name_quick tw10500077913531017323 for taken by taken_e
name_quick tw7191607858210974391 for taken by taken_e
name_quick tw11036193050239951465 for taken by taken_e
name_quick tw2110668173088178060 for taken by taken_e
name_quick tw13036272033356848781 for taken by taken_e
name_quick tw17672482021469178181 for taken by taken_e
name_quick tw13262538273218963204 for taken by taken_e
name_quick tw14920864480051887209 for taken by taken_e
name_quick tw5815302876190815700 for taken by taken_e
name_quick tw13783648951372772217 for taken by taken_e
name_quick tw10819683100428557426 for taken by taken_e
name_quick tw11161088081135249708 for taken by taken_e
name_quick tw7538125934224741611 for taken by taken_e
name_quick tw8540232549379673566 for taken by taken_e
name_quick tw12945968074294007009 for taken by taken_e
name_quick tw15894407043143930727 for taken by taken_e
name_quick tw12825359941727978080 for taken by taken_e
name_quick tw11055029398406535253 for taken by taken_e
name_quick tw15067931366933112725 for taken by taken_e
name_quick tw14588557730865908194 for taken by taken_e
name_quick tw9917628215930124269 for taken by taken_e
name_quick tw6888100737891179579 for taken by taken_e
name_quick tw4183877074749451670 for taken by taken_e
name_quick tw3783086151370532256 for taken by taken_e
name_quick tw6698160770425034372 for taken by taken_e
name_quick tw16737559591592110954 for taken by taken_e
name_quick tw12064662690394058248 for taken by taken_e
name_quick tw272414042388314806 for taken by taken_e
name_quick tw9575948337506731703 for taken by taken_e
name_quick tw15041003319150489328 for taken by taken_e
name_quick tw8588708647495961459 for taken by taken_e
name_quick tw8881496252177385917 for taken by taken_e
name_quick tw932993149863042379 for taken by taken_e
name_quick tw5823794197072137003 for taken by taken_e
name_quick tw11891824955294080559 for taken by taken_e
name_quick tw12182807814244774211 for taken by taken_e
name_quick tw8987815912523675519 for taken by taken_e
name_quick tw4091194055036891139 for taken by taken_e
name_quick tw9413167413068371254 for taken by taken_e
name_quick tw5862295025349918931 for taken by taken_e
name_quick tw8686407601681055034 for taken by taken_e
name_quick tw10455430044892516648 for taken by taken_e
name_quick tw5152784196030571298 for taken by taken_e
name_quick tw17554001833073541016 for taken by taken_e
name_quick tw7112787868492120936 for taken by taken_e
name_quick tw11838138170533393997 for taken by taken_e
name_quick tw17532440430192770315 for taken by taken_e
name_quick tw17001327861769816259 for taken by taken_e
name_quick tw878741703135273975 for taken by taken_e
name_quick tw6929956602132211858 for taken by taken_e
name_quick tw7299303143086499733 for taken by taken_e
name_quick tw16947794391021106201 for taken by taken_e
name_quick tw9130231340562597213 for taken by taken_e
name_quick tw14386061602966655976 for taken by taken_e
name_quick tw5228443966233409354 for taken by taken_e
name_quick tw15902184279288820625 for taken by taken_e
name_quick tw7783732958741208154 for taken by taken_e
name_quick tw17730448691065144110 for taken by taken_e
name_quick tw7269565832213808900 for taken by taken_e
name_quick tw9236875199018929784 for taken by taken_e
name_quick tw17172517015917474193 for taken by taken_e
name_quick tw2504501939568898240 for taken by taken_e
name_quick tw4665496328224945229 for taken by taken_e
name_quick tw11363912090873407280 for taken by taken_e
name_quick tw17300597898927385350 for taken by taken_e
name_quick tw17954471519018878134 for taken by taken_e
name_quick tw8509908385975216990 for taken by taken_e
name_quick tw16495097172686442475 for taken by taken_e
name_quick tw15062378111984178829 for taken by taken_e
name_quick tw7074795694173733578 for taken by taken_e
name_quick tw1706496860858754268 for taken by taken_e
name_quick tw18350330562280901221 for taken by taken_e
name_quick tw2958062672499776758 for taken by taken_e
name_quick tw8430678208038309684 for taken by taken_e
name_quick tw6517296806544964722 for taken by taken_e
name_quick tw17183712847048597117 for taken by taken_e
name_quick tw14096952598973939363 for taken by taken_e
name_quick tw12450158673883907302 for taken by taken_e
name_quick tw13759679279233594173 for taken by taken_e
name_quick tw4936483359421988267 for taken by taken_e
name_quick tw2506853364499732696 for taken by taken_e
name_quick tw6813294653679155843 for taken by taken_e
name_quick tw17026713947507217902 for taken by taken_e
name_quick tw16406328271908756883 for taken by taken_e
name_quick tw2660918139993853925 for taken by taken_e
name_quick tw6127375697748050860 for taken by taken_e
name_quick tw5303519439607764402 for taken by taken_e
name_quick tw17503288770812694035 for taken by taken_e
name_quick tw11519604305632133818 for taken by taken_e
name_quick tw9759809726879904816 for taken by taken_e
name_quick tw347637069881736656 for taken by taken_e
name_quick tw11566699232636054958 for taken by taken_e
name_quick tw4275521005467322725 for taken by taken_e
name_quick tw17552769576498331613 for taken by taken_e
name_quick tw6291368078380397288 for taken by taken_e
name_quick tw1708024556718086227 for taken by taken_e
name_quick tw9787396351842916947 for taken by taken_e
name_quick tw3504847659760329788 for taken by taken_e
name_quick tw6019396324639902685 for taken by taken_e
name_quick tw8595292554425487202 for taken by taken_e
name_quick tw16413264400604254196 for taken by taken_e
name_quick tw1156252341971683116 for taken by taken_e
name_quick tw1377046205977697930 for taken by taken_e
name_quick tw14766643958189025262 for taken by taken_e
name_quick tw14323765505736481980 for taken by taken_e
name_quick tw10782641618400255816 for taken by taken_e
name_quick tw2447775223705975068 for taken by taken_e
name_quick tw11588390666370768167 for taken by taken_e
name_quick tw11786184479649081736 for taken by taken_e
name_quick tw1735007293439650466 for taken by taken_e
name_quick tw1667231139898017245 for taken by taken_e
name_quick tw196644378293983589 for taken by taken_e
name_quick tw951843321253372498 for taken by taken_e
name_quick tw11462045893675790159 for taken by taken_e
name_quick tw10010511219673018494 for taken by taken_e
name_quick tw3302314484089059179 for taken by taken_e
name_quick tw17975652961387846372 for taken by taken_e
name_quick tw8376441433122354887 for taken by taken_e
name_quick tw7652866986338317172 for taken by taken_e
name_quick tw10092856319447448734 for taken by taken_e
name_quick tw17100903815162463580 for taken by taken_e
name_quick tw6679490504615227074 for taken by taken_e
name_quick tw16417370028952169744 for taken by taken_e
name_quick tw148260917463534702 for taken by taken_e
name_quick tw17993156020533580102 for taken by taken_e
name_quick tw13804622635509601256 for taken by taken_e
name_quick tw17768419659990539469 for taken by taken_e
name_quick tw2718901123391026995 for taken by taken_e
name_quick tw10885399304501877467 for taken by taken_e
name_quick tw4405960384096086239 for taken by taken_e
name_quick tw13833065179229638619 for taken by taken_e
name_quick tw8802822988693486460 for taken by taken_e
name_quick tw6179359751918216688 for taken by taken_e
name_quick tw8473563963867554017 for taken by taken_e
name_quick tw13156168479132978002 for taken by taken_e
name_quick tw7081425507203772304 for taken by taken_e
name_quick tw2735471455948067141 for taken by taken_e
name_quick tw2193789692954389824 for taken by taken_e
name_quick tw11788150170368784547 for taken by taken_e
name_quick tw1184552218554016812 for taken by taken_e
name_quick tw14884601019740666482 for taken by taken_e
name_quick tw2719445374943340272 for taken by taken_e
name_quick tw4434333111790514575 for taken by taken_e
name_quick tw682011567655089306 for taken by taken_e
name_quick tw7035115661146626270 for taken by taken_e
name_quick tw6434138532213402376 for taken by taken_e
name_quick tw13642483538084851733 for taken by taken_e
name_quick tw6144853644547557980 for taken by taken_e
name_quick tw13746126617404028095 for taken by taken_e
name_quick tw10996506086634736982 for taken by taken_e
name_quick tw8224813933742928703 for taken by taken_e
name_quick tw14168537005229113720 for taken by taken_e
name_quick tw7299951869573292228 for taken by taken_e
name_quick tw6267220430429643429 for taken by taken_e
name_quick tw12143486254990352099 for taken by taken_e
name_quick tw6057444674265745922 for taken by taken_e
name_quick tw4352594626159697269 for taken by taken_e
name_quick tw716658179208862652 for taken by taken_e
name_quick tw14907048974825807369 for taken by taken_e
name_quick tw9537544019596298400 for taken by taken_e
name_quick tw13903129631018457399 for taken by taken_e
name_quick tw5076957145309523181 for taken by taken_e
name_quick tw13789449189825218787 for taken by taken_e
name_quick tw16309933130070103497 for taken by taken_e
name_quick tw12022618010286034681 for taken by taken_e
name_quick tw1355338860687761863 for taken by taken_e
name_quick tw12734952128020822468 for taken by taken_e
name_quick tw17765544955259793912 for taken by taken_e
name_quick tw13902233598862641821 for taken by taken_e
name_quick tw7231524377534056507 for taken by taken_e
name_quick tw9265879793445154701 for taken by taken_e
name_quick tw3152983702415266003 for taken by taken_e
name_quick tw9467589175468403638 for taken by taken_e
name_quick tw8727135674562949291 for taken by taken_e
name_quick tw5697894365363955025 for taken by taken_e
name_quick tw14285029430470858289 for taken by taken_e
name_quick tw5976474108018559520 for taken by taken_e
name_quick tw12973657651903071711 for taken by taken_e
name_quick tw15103234261437856402 for taken by taken_e
name_quick tw1711657323119017317 for taken by taken_e
name_quick tw16942194440817826258 for taken by taken_e
name_quick tw10028428298569065181 for taken by taken_e
name_quick tw1631149150583789468 for taken by taken_e
name_quick tw17020146562604978829 for taken by taken_e
name_quick tw9676229304581654039 for taken by taken_e
name_quick tw13141144453892091621 for taken by taken_e
name_quick tw43969757491396457 for taken by taken_e
name_quick tw13424232207471783386 for taken by taken_e
name_quick tw18328561965235511954 for taken by taken_e
name_quick tw9206804518496725263 for taken by taken_e
name_quick tw7405434945208526273 for taken by taken_e
name_quick tw4278798014809849964 for taken by taken_e
name_quick tw973662469405803806 for taken by taken_e
name_quick tw14389334442490810641 for taken by taken_e
name_quick tw10138199336372458610 for taken by taken_e
name_quick tw14031254098957005024 for taken by taken_e
name_quick tw7275051467321613617 for taken by taken_e
name_quick tw17719373434677690450 for taken by taken_e
name_quick tw6090905460779295987 for taken by taken_e
name_quick tw9190918148164325157 for taken by taken_e
name_quick tw12985358249318526461 for taken by taken_e
name_quick tw12477758415327278626 for taken by taken_e
name_quick tw39160002569200845 for taken by taken_e
name_quick tw9529234661008812162 for taken by taken_e
name_quick tw13925586954763233925 for taken by taken_e
name_quick tw5646442142991981755 for taken by taken_e
name_quick tw16339471991904476338 for taken by taken_e
name_quick tw14952990662201256454 for taken by taken_e
name_quick tw1499420768645567495 for taken by taken_e
name_quick tw9047900276149940361 for taken by taken_e
name_quick tw18011898689540126615 for taken by taken_e
name_quick tw3797612339304411714 for taken by taken_e
name_quick tw3395616883899927064 for taken by taken_e
name_quick tw8450942572126056277 for taken by taken_e
name_quick tw7573151900890175926 for taken by taken_e
name_quick tw7057405563618977329 for taken by taken_e
name_quick tw14305139224198610471 for taken by taken_e
name_quick tw10352308551163946355 for taken by taken_e
name_quick tw16645262185327669138 for taken by taken_e
name_quick tw13160144027095335755 for taken by taken_e
name_quick tw6789855027759293466 for taken by taken_e
name_quick tw5386766301290243201 for taken by taken_e
name_quick tw11817470609975844035 for taken by taken_e
name_quick tw9136488742655976645 for taken by taken_e
name_quick tw930746551332336609 for taken by taken_e
name_quick tw9305466669911107070 for taken by taken_e
name_quick tw9504726810853072989 for taken by taken_e
name_quick tw18163462532019968843 for taken by taken_e
name_quick tw8180830640274347804 for taken by taken_e
name_quick tw4407734736301137906 for taken by taken_e
name_quick tw17827458813498177553 for taken by taken_e
name_quick tw3698559305507148144 for taken by taken_e
name_quick tw6012508502120743258 for taken by taken_e
name_quick tw16039550372008468697 for taken by taken_e
name_quick tw13871001218405608335 for taken by taken_e
name_quick tw8944806292087596576 for taken by taken_e
name_quick tw3976722010076183465 for taken by taken_e
name_quick tw5450187663091677483 for taken by taken_e
name_quick tw3325841961599345399 for taken by taken_e
name_quick tw11166942722945506595 for taken by taken_e
name_quick tw482417222145425773 for taken by taken_e
name_quick tw2387720566874501970 for taken by taken_e
name_quick tw17341736924252097559 for taken by taken_e
name_quick tw13551572312386263098 for taken by taken_e
name_quick tw396607853666888187 for taken by taken_e
name_quick tw11863081143760314161 for taken by taken_e
name_quick tw13121200027793486533 for taken by taken_e
name_quick tw15823609455315575823 for taken by taken_e
name_quick tw12885971956603332375 for taken by taken_e
name_quick tw6580340599500149305 for taken by taken_e
name_quick tw13241461904039861399 for taken by taken_e
name_quick tw2001226814458364393 for taken by taken_e
name_quick tw14112274594779413971 for taken by taken_e
name_quick tw11994158751524154303 for taken by taken_e
name_quick tw8125055898148337911 for taken by taken_e
name_quick tw2334299552400917057 for taken by taken_e
name_quick tw5706481520468235054 for taken by taken_e
name_quick tw4292500188555128830 for taken by taken_e
name_quick tw15562837088269578035 for taken by taken_e
name_quick tw9455686188066324210 for taken by taken_e
name_quick tw15194748194917737719 for taken by taken_e
name_quick tw14934708107589980039 for taken by taken_e
name_quick tw11767421526060770920 for taken by taken_e
name_quick tw4549333791460862111 for taken by taken_e
name_quick tw1102190903223815498 for taken by taken_e
name_quick tw10706342367453228570 for taken by taken_e
name_quick tw2408619945344806742 for taken by taken_e
name_quick tw15224661121926592747 for taken by taken_e
name_quick tw11310463157757771331 for taken by taken_e
name_quick tw11882390891050353253 for taken by taken_e
name_quick tw7232422423428716515 for taken by taken_e
name_quick tw2651664433501786496 for taken by taken_e
name_quick tw6059929106960060952 for taken by taken_e
name_quick tw608726401823008365 for taken by taken_e
name_quick tw9674257727999782656 for taken by taken_e
name_quick tw7386744729831018872 for taken by taken_e
name_quick tw11333186260410459676 for taken by taken_e
name_quick tw1886563365779066154 for taken by taken_e
name_quick tw11964429278604863157 for taken by taken_e
name_quick tw15450981722951097364 for taken by taken_e
name_quick tw7496433998918960881 for taken by taken_e
name_quick tw16049961110935095269 for taken by taken_e
name_quick tw1620339239838986703 for taken by taken_e
name_quick tw3315324234476444515 for taken by taken_e
name_quick tw2951486255847992690 for taken by taken_e
name_quick tw293829605474521371 for taken by taken_e
name_quick tw13251646731365433171 for taken by taken_e
name_quick tw4075660801711882420 for taken by taken_e
name_quick tw12945451867199242903 for taken by taken_e
name_quick tw17804436615005485693 for taken by taken_e
name_quick tw16138931208732196661 for taken by taken_e
name_quick tw5770868932273138760 for taken by taken_e
name_quick tw16223305294053301992 for taken by taken_e
name_quick tw11707433790658880453 for taken by taken_e
name_quick tw11317593695737139937 for taken by taken_e
name_quick tw5111356299099525756 for taken by taken_e
name_quick tw13342524657329470049 for taken by taken_e
name_quick tw12832477231654346042 for taken by taken_e
name_quick tw13102660428377437172 for taken by taken_e
name_quick tw10317580896714288900 for taken by taken_e
name_quick tw16648231224745350325 for taken by taken_e
name_quick tw10015664371746657536 for taken by taken_e
name_quick tw5936146933674214641 for taken by taken_e
name_quick tw618205885557783147 for taken by taken_e
name_quick tw2354101950205528012 for taken by taken_e
name_quick tw12828332729040242785 for taken by taken_e
name_quick tw2081907255765424308 for taken by taken_e
name_quick tw2039238271031011813 for taken by taken_e
name_quick tw912392155897948271 for taken by taken_e
name_quick tw7499937903120025604 for taken by taken_e
name_quick tw10823345740709935493 for taken by taken_e
name_quick tw3633577522364906407 for taken by taken_e
name_quick tw10071868454641916008 for taken by taken_e
name_quick tw607167704815816724 for taken by taken_e
name_quick tw9501820088010722379 for taken by taken_e
name_quick tw17848772402925894760 for taken by taken_e
name_quick tw1537898542681612871 for taken by taken_e
name_quick tw3459824189758198600 for taken by taken_e
name_quick tw6363645014702824404 for taken by taken_e
name_quick tw7393211689510517793 for taken by taken_e
name_quick tw12606261883493885652 for taken by taken_e
name_quick tw4507309187265873474 for taken by taken_e
name_quick tw2447921434856996015 for taken by taken_e
name_quick tw6504275150365058295 for taken by taken_e
name_quick tw12377561305857167785 for taken by taken_e
name_quick tw10846213317406478298 for taken by taken_e
name_quick tw9626621113073979434 for taken by taken_e
name_quick tw6122645084068987007 for taken by taken_e
name_quick tw7504490480230193789 for taken by taken_e
name_quick tw11130039905162102590 for taken by taken_e
name_quick tw1370275717833778536 for taken by taken_e
name_quick tw17828083071136270317 for taken by taken_e
name_quick tw6697550738653902072 for taken by taken_e
name_quick tw12472836147817038354 for taken by taken_e
name_quick tw3619232141914619222 for taken by taken_e
name_quick tw9151444980202551346 for taken by taken_e
name_quick tw8123005709971320403 for taken by taken_e
name_quick tw3856783459128436802 for taken by taken_e
name_quick tw14942985259670156941 for taken by taken_e
name_quick tw10460931487171540145 for taken by taken_e
name_quick tw15953636156762407896 for taken by taken_e
name_quick tw18283703058932287227 for taken by taken_e
name_quick tw11518781747449614426 for taken by taken_e
name_quick tw16751196440357475278 for taken by taken_e
name_quick tw2088544591296533915 for taken by taken_e
name_quick tw3891137856419664920 for taken by taken_e
name_quick tw8860024209350480642 for taken by taken_e
name_quick tw18345786424863182364 for taken by taken_e
name_quick tw15112985482279097393 for taken by taken_e
name_quick tw16531745337717519161 for taken by taken_e
name_quick tw2302674139485633275 for taken by taken_e
name_quick tw3398876845080916796 for taken by taken_e
name_quick tw10833955939284561965 for taken by taken_e
name_quick tw2862820112641550484 for taken by taken_e
name_quick tw10970087489707964778 for taken by taken_e
name_quick tw7729641633298002090 for taken by taken_e
name_quick tw12233582284571471492 for taken by taken_e
name_quick tw10181792811725400092 for taken by taken_e
name_quick tw4978915544186085027 for taken by taken_e
name_quick tw17842620306162639686 for taken by taken_e
name_quick tw189603312586018693 for taken by taken_e
name_quick tw16451151925259046446 for taken by taken_e
name_quick tw16792545251062261874 for taken by taken_e
name_quick tw3196378941336150401 for taken by taken_e
name_quick tw2314638664359121040 for taken by taken_e
name_quick tw830924265138556478 for taken by taken_e
name_quick tw13816233472422033322 for taken by taken_e
name_quick tw8579058602437062094 for taken by taken_e
name_quick tw12224272158712414510 for taken by taken_e
name_quick tw17295947923314359676 for taken by taken_e
name_quick tw3536357697601684980 for taken by taken_e
name_quick tw219737044198020058 for taken by taken_e
name_quick tw9396933662098498411 for taken by taken_e
name_quick tw17169101284591775605 for taken by taken_e
name_quick tw9862997608875712007 for taken by taken_e
name_quick tw7198390536060210744 for taken by taken_e
name_quick tw13900631225919944168 for taken by taken_e
name_quick tw4745058802850807175 for taken by taken_e
name_quick tw13453990235181961046 for taken by taken_e
name_quick tw1857294707202544078 for taken by taken_e
name_quick tw13749758060653150092 for taken by taken_e
name_quick tw11334522289143818824 for taken by taken_e
name_quick tw14401720017095790664 for taken by taken_e
name_quick tw16729788964589934307 for taken by taken_e
name_quick tw9267298106668617725 for taken by taken_e
name_quick tw7431591544816029494 for taken by taken_e
name_quick tw17018449646109014956 for taken by taken_e
name_quick tw11861152243698038893 for taken by taken_e
name_quick tw9951705424602377420 for taken by taken_e
name_quick tw11236458984494512445 for taken by taken_e
name_quick tw6245536207120538393 for taken by taken_e
name_quick tw18220123701641295943 for taken by taken_e
name_quick tw6891000109920058784 for taken by taken_e
name_quick tw757081541053455785 for taken by taken_e
name_quick tw13314330512976039754 for taken by taken_e
name_quick tw16018607276475445134 for taken by taken_e
name_quick tw2011108890870493169 for taken by taken_e
name_quick tw10758392820592806131 for taken by taken_e
name_quick tw7276740287692124622 for taken by taken_e
name_quick tw7650934615059315214 for taken by taken_e
name_quick tw18263319221461684349 for taken by taken_e
name_quick tw3826639566459466600 for taken by taken_e
name_quick tw17730428716208468724 for taken by taken_e
name_quick tw3953757239420563355 for taken by taken_e
name_quick tw6792406925840432001 for taken by taken_e
name_quick tw11420187438672877268 for taken by taken_e
name_quick tw18131936236247874842 for taken by taken_e
name_quick tw18099695126128789690 for taken by taken_e
name_quick tw4090926877573551719 for taken by taken_e
name_quick tw5952267759425050802 for taken by taken_e
name_quick tw4681523508651956083 for taken by taken_e
name_quick tw151948405760981731 for taken by taken_e
name_quick tw17123425798396237403 for taken by taken_e
name_quick tw2641759234206370714 for taken by taken_e
name_quick tw17111948838632640456 for taken by taken_e
name_quick tw4218973218030334637 for taken by taken_e
name_quick tw2387691838786202048 for taken by taken_e
name_quick tw17889576293545820479 for taken by taken_e
name_quick tw5065222861578795731 for taken by taken_e
name_quick tw9229659659347644043 for taken by taken_e
name_quick tw3421647286062184163 for taken by taken_e
open_top hd for PySem.Challenge.rw_bd0009_01
end Mine
end

open PySem PySem.W PyProof.Rows in
/-- open_top leaves the walker with the lines of the top on -/
example : True := by
  w_top off
  trivial

section
open PySem PySem.W PyProof.Rows
set_option maxRecDepth 100000
namespace Mine
noncomputable abbrev LS : List Str := looseW Mine.hd.view_39
      [Str.ofString "UnsupportedOperation", Str.ofString "IOBase", Str.ofString "BufferedIOBase",
        Str.ofString "TextIOBase", Str.ofString "BytesIO", Str.ofString "StringIO", Str.ofString "read_from_compact",
        Str.ofString "NETWORKS", Str.ofString "EmbitBase", Str.ofString "Script", Str.ofString "Witness"]
/-- a call of a def of the text's that gives an immediate value back and leaves what the call had made as it was -/
abbrev PC (w : World) (mean : ExcName → Option Value) (mg mb : Str → Option Value) (f : Addr) (news : List (Addr × Obj)) (A : List (Addr × List Value × List Int)) (vs : List Value) (R : Tok → Value) : Prop :=
  ∀ (dp un : Nat) (gd : Option (List Code)) (cn : Str) (nms : List (Str × NameKind)) (ig ic : Bool) (mr : List (Str × Const)) (a : Addr) (ccd : Value) (cl : List (Str × Addr)) (outer : List Env) (A₀ : Around) (base h₀ : Heap) (L : Addr) (m : Str → Option Value) (s : Shared) (Q E : Value → Shared → Prop),
    Below A₀ base outer h₀ → Fr h₀ L s.heap m → (Mine.hd.heap_39 w.params).In h₀ → News h₀ L s.heap news → Top Mine.hd.view_39 LS mean mg mb h₀ →
    CbLists base A (dp + 50 < recursionLimit → un + 200 < cLine → CbRet h₀ L m news s Q R →
      wpAny (model Challenge.rw_bd0009_01.row.prog w) (ktrTop dp un gd cn ⟨.function, nms, ig, ic, mr⟩ L a ccd cl outer) (call (.ref f) vs) Q E s)
section
variable {h₀ h' : Heap} {L : Addr} {m : Str → Option Value} {news : List (Addr × Obj)} {s : Shared} {Q : Value → Shared → Prop} {t : Tok} {tk' : Nat}
theorem retI {x y : Int} (hret : ∀ (t : Tok) (h' : Heap) (tk' : Nat), Fr h₀ L h' m → News h₀ L h' news → Q (.int x t) { s with heap := h', toks := tk' }) (e : y = x) (F : Fr h₀ L h' m) (N : News h₀ L h' news) : Q (.int y t) { s with heap := h', toks := tk' } := by
  subst e
  exact hret t h' tk' F N
theorem retB {x y : Array UInt8} (hret : ∀ (t : Tok) (h' : Heap) (tk' : Nat), Fr h₀ L h' m → News h₀ L h' news → Q (.bytes x t) { s with heap := h', toks := tk' }) (e : y = x) (F : Fr h₀ L h' m) (N : News h₀ L h' news) : Q (.bytes y t) { s with heap := h', toks := tk' } := by
  subst e
  exact hret t h' tk' F N
end
theorem room_a {d a L : Nat} (h : d + a < L) : d < L := Nat.lt_of_le_of_lt (Nat.le_add_right d a) h
theorem room_b {d a c L : Nat} (h : d + a < L) (k : c ≤ a) : d + c < L := Nat.lt_of_le_of_lt (Nat.add_le_add_left k d) h
theorem room_c {d a b c L : Nat} (h : d + a < L) (k : b + c ≤ a) : d + b + c < L := by rw [Nat.add_assoc]; exact room_b h k
theorem room_d {d a b c e L : Nat} (h : d + a < L) (k : b + c + e ≤ a) : d + b + c + e < L := by rw [Nat.add_assoc, Nat.add_assoc]; exact room_b h (by rw [← Nat.add_assoc]; exact k)
end Mine
end

local macro_rules | `(tactic| k_room) => `(tactic| ktr_room)
local macro_rules | `(tactic| ktr_room) => `(tactic| first | exact Mine.room_c (by assumption) (by decide) | exact Mine.room_b (by assumption) (by decide) | exact Mine.room_a (by assumption) | exact Mine.room_d (by assumption) (by decide))
local macro_rules | `(tactic| ktr_units) => `(tactic| first | exact Mine.room_c (by assumption) (by decide) | exact Mine.room_b (by assumption) (by decide) | exact Mine.room_a (by assumption) | exact Mine.room_d (by assumption) (by decide))
section
open PySem PySem.W PyProof.Rows
set_option maxRecDepth 100000
set_option maxHeartbeats 4000000
namespace Mine
/-- `_law_number` -/
def num (ns : List Int) (k : Int) : Int := (if ns = [] then 0 else ns.getD (k % (ns.length : Int)).toNat 0) + 7 * k
theorem num1 {ns : List Int} {k : Int} (h : 0 < ns.length) : ns.getD (k.fmod ns.length).toNat 0 + 7 * k = num ns k := by
  unfold num
  rw [if_neg (by intro e; subst e; simp at h), Int.fmod_eq_emod_of_nonneg _ (by omega)]
theorem num0 {ns : List Int} {k : Int} (h : ns.length = 0) : 0 + 7 * k = num ns k := by
  unfold num
  rw [if_pos (List.eq_nil_of_length_eq_zero h)]
theorem c_number {w : World} {mean : ExcName → Option Value} {mg mb : Str → Option Value} {news : List (Addr × Obj)} (l : Addr) (vs : List Value) (ns : List Int) (k : Int) (tk : Tok) (h0 : 0 ≤ k) :
    PC w mean mg mb 843 news [(l, vs, ns)] [.ref l, .int k tk] (fun t => .int (num ns k) t) := by
  dsimp only [PC, CbLists, CbRet]
  k_fill
  intros
  rename_i hret
  refine wpAny_call ?_
  k_enter
  k_steps
  all_goals first
    | exact retI hret (num1 (by omega)) (by k_asm) (by k_asm)
    | exact retI hret (num0 (by omega)) (by k_asm) (by k_asm)
end Mine
end

section
open PySem PySem.W PySem.Calls PyProof.Rows
set_option maxRecDepth 100000
namespace Mine
/-- n octets of x, the least first -/
def le (n : Nat) (x : Int) : List UInt8 := (List.range n).map fun i => (x / 256 ^ i % 256).toNat.toUInt8
theorem le_length (n : Nat) (x : Int) : (le n x).length = n := by simp [le]

theorem ints_inj : ∀ {a b : List UInt8}, a.map (fun c => ((c.toNat : Nat) : Int)) = b.map (fun c => ((c.toNat : Nat) : Int)) → a = b
  | [], [], _ => rfl
  | [], _ :: _, h => by simp at h
  | _ :: _, [], h => by simp at h
  | x :: a, y :: b, h => by
    simp only [List.map_cons, List.cons.injEq] at h
    rw [ints_inj h.2, UInt8.toNat_inj.mp (Int.ofNat.inj h.1)]
theorem le_ints {n : Nat} {x : Int} (_h0 : 0 ≤ x) : (le n x).map (fun c => ((c.toNat : Nat) : Int)) = (List.range n).map fun i => x / 256 ^ i % 256 := by
  unfold le
  rw [List.map_map]
  refine List.map_congr_left fun i _ => ?_
  show (((x / 256 ^ i % 256).toNat.toUInt8.toNat : Nat) : Int) = _
  have h1 := Int.emod_nonneg (x / 256 ^ i) (show (256 : Int) ≠ 0 by decide)
  have h2 := Int.emod_lt_of_pos (x / 256 ^ i) (show (0 : Int) < 256 by decide)
  generalize x / 256 ^ i % 256 = y at h1 h2
  have e : (UInt8.ofNat y.toNat).toNat = y.toNat := by rw [UInt8.toNat_ofNat']; omega
  show (((UInt8.ofNat y.toNat).toNat : Nat) : Int) = y
  rw [e]; omega
theorem low_le {n : Nat} {x : Int} (h0 : 0 ≤ x) (h1 : x < 256 ^ n) : KTBy.low x n = le n x := ints_inj (by rw [le_ints h0, KTBy.low_ints h0 h1])

section
variable {prog : Program} {w : World} {A : Around} {E : Value → Shared → Prop} {s : Shared}
open KTBy in
theorem toLittle {x : Int} {k : Int} {t u v : Tok} {Q : Value → Shared → Prop} (hk0 : 0 ≤ k) (hk : k ≤ 100000) (h0 : 0 ≤ x) (h1 : x < 256 ^ k.toNat)
    (h : ∀ t' k', Q (.bytes (le k.toNat x).toArray t') { s with toks := k' }) :
    wpAny (model prog w) A (call (.builtin "int.to_bytes") [.int x t, .int k u, .str (Str.ofString "little") v]) Q E s := by
  obtain ⟨n, rfl⟩ := Int.eq_ofNat_of_zero_le hk0
  rw [Int.toNat_natCast] at h1 h
  refine wpAny_call_entry slot (typeIs_int s x t) entry ?_ (args _ _ _)
  have hb := bits_le (k := n) rfl h0 h1
  show wpAny _ _ (Builtin.Int.intOfSelf (.int x t) >>= fun y => _) _ _ s
  refine wpAny_bind (wpAny_of_eq (a := x) rfl ?_)
  show wpAny _ _ (Builtin.Int.intBindNamed "to_bytes" ["length", "byteorder", "signed"] 0 2 [.int (n : Int) u, .str (Str.ofString "little") v] [] >>= fun l => _) _ _ s
  refine wpAny_bind (wpAny_of_eq (a := [some (.int (n : Int) u), some (.str (Str.ofString "little") v), none]) (by kernel_rfl) ?_)
  show wpAny _ _ (Builtin.Int.intIndex "int.to_bytes" (.int (n : Int) u) >>= fun n => _) _ _ s
  refine wpAny_bind (wpAny_of_eq (a := (n : Int)) rfl ?_)
  refine if_not (by show (decide ((n : Int) < -(2 ^ 63 : Int)) || decide ((n : Int) ≥ 2 ^ 63)) = false; rw [decide_eq_false (show ¬ ((n : Int) < -(2 ^ 63 : Int)) by omega), decide_eq_false (show ¬ ((n : Int) ≥ 2 ^ 63) by omega)]; rfl) ?_
  refine wpAny_bind (wpAny_of_eq (a := Str.ofString "little") (by kernel_rfl) ?_)
  refine wpAny_bind (wpAny_of_eq (a := false) rfl ?_)
  refine wpAny_bind (wpAny_of_eq (a := true) (by kernel_rfl) ?_)
  refine wpAny_ite_false (decide_eq_false (show ¬ ((n : Int) < 0) by omega)) ?_
  refine wpAny_ite_false (decide_eq_false (show ¬ ((n : Int) > 2 ^ 63 - 1 - 33) by omega)) ?_
  refine wpAny_ite_false (decide_eq_false (show ¬ ((n : Int) > (sizeLine : Int)) by rw [sizeLine_eq]; omega)) ?_
  refine if_not (by show (decide (x < 0) && !false) = false; rw [decide_eq_false (show ¬ x < 0 by omega)]; rfl) ?_
  refine if_not (by show (_ && decide ((Builtin.Int.intBits x : Int) > 8 * (n : Int))) = false; rw [decide_eq_false (show ¬ ((Builtin.Int.intBits x : Int) > 8 * (n : Int)) by omega), Bool.and_false]) ?_
  refine wpAny_bind (wpAny_mkBytes (wpAny_pure ⟨_, rfl, ?_⟩) (by show (low x (Int.toNat (n : Int))).length ≤ sizeLine; rw [low_length, Int.toNat_natCast, sizeLine_eq]; omega))
  show Q (.bytes (low x (Int.toNat (n : Int))).toArray _) _
  rw [Int.toNat_natCast, low_le h0 h1]
  exact h _ _
end
end Mine
end

section
open PySem PySem.W PyProof.Rows
set_option maxRecDepth 100000
set_option maxHeartbeats 4000000
namespace Mine
theorem mul_any {x C : Int} (h : Builtin.Int.intBits x ≤ 2000000) (hC : Builtin.Int.intBits C ≤ 1000) : IntMulOk x C := by
  unfold IntMulOk
  have : Builtin.Int.intTooBig ((Builtin.Int.intBits x : Int) + (Builtin.Int.intBits C : Int)) = false := by
    unfold Builtin.Int.intTooBig bitsLine
    simp; omega
  rw [this, Bool.and_false]
  exact Bool.false_ne_true
theorem fmod_pow {x k : Int} : 0 ≤ x.fmod ((256 : Int) ^ k.toNat) ∧ x.fmod ((256 : Int) ^ k.toNat) < 256 ^ k.toNat := by
  have hp : (0 : Int) < 256 ^ k.toNat := Int.pow_pos (by decide)
  rw [Int.fmod_eq_emod_of_nonneg _ (Int.le_of_lt hp)]
  exact ⟨Int.emod_nonneg _ (Int.ne_of_gt hp), Int.emod_lt_of_pos _ hp⟩
def oct (x k : Int) : Array UInt8 := (le k.toNat ((x * 16395309179817738009521987751666139093583423331470737840399399094199505546377).fmod (256 ^ k.toNat))).toArray
theorem oct_size (x k : Int) : (oct x k).size = k.toNat := by simp [oct, le_length]

theorem c_octets {w : World} {mean : ExcName → Option Value} {mg mb : Str → Option Value} {news : List (Addr × Obj)} (x k : Int) (tk tk' : Tok) (p1 : 0 ≤ k) (p2 : k ≤ 300) (p3 : Builtin.Int.intBits x ≤ 2000000) :
    PC w mean mg mb 850 news [] [.int x tk, .int k tk'] (fun t => .bytes (oct x k) t) := by
  k_with_none
  k_with "binaryOp Mult int int" => (refine mul_int ?_ (hm := mul_any (by assumption) (by decide)))
  k_with "binaryOp Mod int int" => (refine mod_int' (Int.ne_of_gt (Int.pow_pos (by decide))) ?_)
  k_with "binaryOp Pow int int" => (refine pow_int_small (by assumption) (by omega) (by decide) ?_)
  k_with "call builtin:int.to_bytes" => (refine toLittle (by assumption) (by omega) fmod_pow.1 fmod_pow.2 ?_; intro _ _)
  dsimp only [PC, CbLists, CbRet]
  k_fill
  intro dp un gd cn nms ig ic mr a ccd cl outer A₀ base h₀ L m s Q E B F X N T hd hu hret
  refine wpAny_call ?_
  k_enter
  k_steps
  all_goals exact hret _ _ _ (by k_asm) (by k_asm)
end Mine
end

section
open PySem PySem.W PySem.Calls PyProof.Rows
set_option maxRecDepth 100000
set_option maxHeartbeats 4000000
namespace Mine
section
variable {prog : Program} {w : World} {A : Around} {R : Result → Shared → Prop} {s : Shared}
theorem cFunc {body : List Stmt} {env : Env}
    (h : wpN (model prog w) (A.deeper env) (execs body env) (fun f s' => R (.ok (.ret (match f with | .ret v => v | _ => .none))) s')
      (fun e s' => wpAny (model prog w) (A.deeper env) (leaving env e) (fun _ s'' => R (.error e) s'') (fun e' s'' => R (.error e') s'') s') s) :
    codeN (model prog w) A (.func body env) R s := by
  refine cOfTree rfl ?_
  show wpN _ (A.deeper env) (do point; match ← (execs body env).onRaise (leaving env) with | .ret v => ret v | _ => ret .none) _ _ s
  refine aBind (wpAny_point (nBind (nOnRaise (nMono h (fun f s' h' => ?_) fun _ _ h' => nOf h'))))
  cases f <;> exact nPure h'
theorem cCallFunction {a : Addr} {args : Args} {o : Obj} {fd : FuncData} {body : List Stmt} (hroom : A.depth < recursionLimit)
    (ho : s.heap.get? a = some o)
    (hd' : o.data = .func fd) (hco : fd.scope.isCoroutine = false) (hgen : fd.scope.isGenerator = false) (hbody : fd.body = .stmts body) (hcd : s.heap.CodeRec fd.code fd.qualname)
    (h : wpAny (model prog w) A.in1 (bindArgs fd args) (fun binds s₁ =>
      wpAny (model prog w) A.in1 (newFunctionEnv fd.scope fd.globals fd.closure binds (fd.qualname ++ ".<locals>.") (some a) fd.code none fd.builtins)
        (fun env s₂ => s₂.heap.NoLimit ∧ codeN (model prog w) A (.func body env) R s₂) (fun e s' => R (.error e) s') s₁) (fun e s' => R (.error e) s') s) :
    codeN (model prog w) A (.call (.ref a) args) R s := by
  refine cOfTree rfl ?_
  show wpN _ A.in1 (callAny (.ref a) args) _ _ s
  simp only [callAny]
  refine aBind (wpAny_load ho ?_)
  obtain ⟨c, oc, vs, tq, hc, hoc, hdc, hq⟩ := hcd
  simp only [hd', callFunction, hco, hgen, hbody, hc]
  rw [hc] at h
  refine aBind (m := field (.ref c) 1) (wpAny_field hoc hdc hq (nBind (nPure ?_)))
  exact aBind (wpAny_mono h (fun binds s₁ h₁ => aBind (wpAny_mono h₁ (fun env s₂ h₂ => aBind (wpAny_enterFrame h₂.1 hroom
    (nPure (And.intro rfl h₂.2)))) fun _ _ h' => h')) fun _ _ h' => h')
end
section
variable {prog : Program} {w : World} {A₀ A : Around} {s : Shared} {base h₀ : Heap} {outer : List Env} {L : Addr} {m : Str → Option Value} {env : Env} {news : List (Addr × Obj)} {K : Frag} {p : Program} {loose : List Str} {mean : ExcName → Option Value} {mg mb : Str → Option Value}
  {R : Result → Shared → Prop} {name qual : Str} {params : Arguments} {body : List Stmt} {scope : Scope} {dV kV doc pm cdv ct oc : Value} {an od : Option Addr} {osl : Array (Option Value)} {f : Addr} {args : Args} {binds : List (Str × Value)}
theorem nFrame {E : Value → Shared → Prop} (B : Below A₀ base outer h₀) (F : Fr h₀ L s.heap m) (N : News h₀ L s.heap news) (hlim : h₀.NoLimit) (hA : A.frames = some (env :: outer)) (hf : env.frame = some L) (hke : env.scope.kind = .function)
    (hloc : ∀ y ∈ binds, scope.names.lookup y.1 = some .local)
    (h : ∀ g L' h₁, Fr h₀ L g m → Fr g L' h₁ (fun y => binds.reverse.lookup y) → News g L' h₁ news → Below A base (env :: outer) g → h₀.StaysIn g →
      wpN (model prog w) (A.deeper (envOf qual scope L' f cdv)) (execs body (envOf qual scope L' f cdv))
        (fun fl s' => LeaveK h₀ L m g R (match fl with | .ret v => v | _ => .none) s')
        (fun e s' => wpAny (model prog w) (A.deeper (envOf qual scope L' f cdv)) (leaving (envOf qual scope L' f cdv) e) (fun _ s'' => R (.error e) s'') (fun e' s'' => R (.error e') s'') s')
        { s with heap := h₁, toks := s.toks + binds.length })
    (hcell : ∀ x ∈ scope.names, x.2 ≠ .cell) (hk : scope.kind = .function) :
    wpAny (model prog w) A.in1 (newFunctionEnv scope mainGlobals [] binds (qual ++ ".<locals>.") (some f) cdv none builtinsNs) (fun env' s₂ => s₂.heap.NoLimit ∧ codeN (model prog w) A (.func body env') R s₂) E s := by
  obtain ⟨FG, BG, st, lv⟩ := groundX (R := R) B F N hA hf hke
  refine wpAny_newFunctionEnv hcell hloc (fun h₁ hns hsb => ⟨(hlim.keeps F.keep).fresh _ hsb, cFunc ?_⟩) hk
  have hk₁ : ∀ b o, s.heap.get? b = some o → h₁.get? b = some o := fun b o e => hsb.extBut b o (Nat.ne_of_lt (Heap.lt_size e)) (Heap.get?_push_of_some _ e)
  show wpN (model prog w) (A.deeper (envOf qual scope s.heap.objs.size f cdv)) (execs body (envOf qual scope s.heap.objs.size f cdv)) _ _ _
  exact nMono (h _ s.heap.objs.size h₁ FG ⟨hns, fun b o e => hk₁ b o (of_hideAll _ e), Nat.le_of_eq (hideAll_size _ _)⟩
    (fun p hp => ⟨hk₁ _ _ (N p hp).1, Nat.ne_of_lt (Heap.lt_size (N p hp).1), hideAll_none _ (List.mem_map_of_mem hp)⟩) BG st) (fun fl s' hl => lv _ _ hl) fun _ _ y => y
/-- a def of the text's, entered -/
theorem cDef (B : Below A₀ base outer h₀) (F : Fr h₀ L s.heap m) (X₀ : K.In h₀) (N : News h₀ L s.heap news) (T : Top p loose mean mg mb h₀) (hA : A.frames = some (env :: outer)) (hf : env.frame = some L) (hke : env.scope.kind = .function)
    (ho : K.lookup f = some ⟨oc, od, .func (fnOf name qual params body scope dV kV doc pm an cdv ct), osl⟩) (hcd : codeIn K cdv qual = true) (hroom : A.depth < recursionLimit)
    (hbind : BindsTo s (fnOf name qual params body scope dV kV doc pm an cdv ct) args binds) (hloc : ∀ y ∈ binds, scope.names.lookup y.1 = some .local)
    (h : ∀ g L' h₁, Fr h₀ L g m → Fr g L' h₁ (fun y => binds.reverse.lookup y) → News g L' h₁ news → Below A base (env :: outer) g → K.In g → Top p loose mean mg mb g →
      wpN (model prog w) (A.deeper (envOf qual scope L' f cdv)) (execs body (envOf qual scope L' f cdv))
        (fun fl s' => LeaveK h₀ L m g R (match fl with | .ret v => v | _ => .none) s')
        (fun e s' => wpAny (model prog w) (A.deeper (envOf qual scope L' f cdv)) (leaving (envOf qual scope L' f cdv) e) (fun _ s'' => R (.error e) s'') (fun e' s'' => R (.error e') s'') s')
        { s with heap := h₁, toks := s.toks + binds.length })
    (hco : scope.isCoroutine = false) (hgen : scope.isGenerator = false) (hk : scope.kind = .function)
    (hcell : ∀ x ∈ scope.names, x.2 ≠ .cell) : codeN (model prog w) A (.call (.ref f) args) R s := by
  refine cCallFunction (fd := fnOf name qual params body scope dV kV doc pm an cdv ct) (body := body) hroom ((X₀.keeps F.keep) _ _ ho) rfl hco hgen rfl (codeRec_of (X₀.keeps F.keep) hcd) (hbind _ _ _ _ ?_)
  exact nFrame B F N T.nolimit hA hf hke hloc (fun g L' h₁ FG FL NG BG st => h g L' h₁ FG FL NG BG (X₀.keeps st) (T.keeps st)) hcell hk
/-- the same, of a def with *args and **kwargs that are handed nothing -/
theorem cBoth {nm nr : Str} {front : List (Str × Value)} {g₁ : Addr → Sem (List (Str × Value))} {g₂ : Addr → Addr → Sem (List (Str × Value))}
    (B : Below A₀ base outer h₀) (F : Fr h₀ L s.heap m) (X₀ : K.In h₀) (N : News h₀ L s.heap news) (T : Top p loose mean mg mb h₀) (hA : A.frames = some (env :: outer)) (hf : env.frame = some L) (hke : env.scope.kind = .function)
    (ho : K.lookup f = some ⟨oc, od, .func (fnOf name qual params body scope dV kV doc pm an cdv ct), osl⟩) (hcd : codeIn K cdv qual = true) (hroom : A.depth < recursionLimit)
    (hp : peekA K ⟨prog, w.params⟩ (bindArgs (fnOf name qual params body scope dV kV doc pm an cdv ct) args) = some (({ cls := .type "tuple", data := .seq #[] } : Obj), g₁))
    (hp₂ : ∀ D, peekA K ⟨prog, w.params⟩ (g₁ D) = some (dictOf [] 0, g₂ D))
    (hk₂ : ∀ C D, g₂ C D = pure (front ++ [(nr, Value.ref C)] ++ [(nm, Value.ref D)]))
    (hloc : ∀ C D, ∀ y ∈ front ++ [(nr, Value.ref C)] ++ [(nm, Value.ref D)], scope.names.lookup y.1 = some .local)
    (h : ∀ C D g L' h₁ tk, (∀ p ∈ news, p.1 < C) → C < D → Fr h₀ L g m → Fr g L' h₁ (fun y => (front ++ [(nr, Value.ref C)] ++ [(nm, Value.ref D)]).reverse.lookup y) →
      News g L' h₁ ((D, dictOf [] 0) :: (C, ({ cls := .type "tuple", data := .seq #[] } : Obj)) :: news) → Below A base (env :: outer) g → K.In g → Top p loose mean mg mb g →
      wpN (model prog w) (A.deeper (envOf qual scope L' f cdv)) (execs body (envOf qual scope L' f cdv))
        (fun fl s' => LeaveK h₀ L m g R (match fl with | .ret v => v | _ => .none) s')
        (fun e s' => wpAny (model prog w) (A.deeper (envOf qual scope L' f cdv)) (leaving (envOf qual scope L' f cdv) e) (fun _ s'' => R (.error e) s'') (fun e' s'' => R (.error e') s'') s')
        { s with heap := h₁, toks := tk })
    (hco : scope.isCoroutine = false) (hgen : scope.isGenerator = false) (hk : scope.kind = .function)
    (hcell : ∀ x ∈ scope.names, x.2 ≠ .cell) : codeN (model prog w) A (.call (.ref f) args) R s := by
  refine cCallFunction (fd := fnOf name qual params body scope dV kV doc pm an cdv ct) (body := body) hroom ((X₀.keeps F.keep) _ _ ho) rfl hco hgen rfl (codeRec_of (X₀.keeps F.keep) hcd) ?_
  refine wp_of_peekA (o := ({ cls := .type "tuple", data := .seq #[] } : Obj)) F N (X₀.keeps F.keep) rfl _ g₁ hp fun h' F' N' l => ?_
  refine wp_of_peekA (s := { s with heap := h' }) (o := dictOf [] 0) F' N' (X₀.keeps F'.keep) rfl _ (g₂ s.heap.objs.size) (hp₂ _) fun h'' F'' N'' l' => ?_
  rw [hk₂]
  refine wpAny_pure ?_
  exact nFrame (s := { s with heap := h'' }) B F'' N'' T.nolimit hA hf hke (hloc _ _)
    (fun g L' h₁ FG FL NG BG st => h _ _ g L' h₁ _ l (l' _ (.head _)) FG FL NG BG (X₀.keeps st) (T.keeps st)) hcell hk
end
end Mine
end

section
open PySem PySem.W PySem.Calls PyProof.Rows
set_option maxRecDepth 100000
set_option maxHeartbeats 4000000
namespace Mine
section
variable {α : Type} {M : Model} {A : Around} {E : Value → Shared → Prop} {s : Shared} {env : Env}
theorem nOperate {vs : List Value} {m : Sem Value} {Q : Value → Shared → Prop} (h : wpN M A m Q E s) : wpN M A (operate vs m) Q E s :=
  fun Γ p hΓ hC => by rw [Sem.wp_operate]; exact h Γ p hΓ hC
theorem nExecsCons {st : Stmt} {rest : List Stmt} {Q : Flow → Shared → Prop}
    (h : wpN M A (exec st env) (fun f s' => match f with | .next => wpN M A (execs rest env) Q E s' | f => Q f s') E s) : wpN M A (execs (st :: rest) env) Q E s := by
  rw [execs_cons]
  refine nBind (nMono h (fun f s' h' => ?_) fun _ _ x => x)
  cases f <;> first | exact h' | exact nPure h'
theorem nExecsNil {Q : Flow → Shared → Prop} (h : Q .next s) : wpN M A (execs [] env) Q E s := by
  rw [execs]; exact nPure h
theorem nIf {test : Expr} {body orelse : List Stmt} {pos : Pos} {Q : Flow → Shared → Prop}
    (h : wpN M A (isTrue test env (eval test env)) (fun b s' => if b then wpN M A (execs body env) Q E s' else wpN M A (execs orelse env) Q E s') E s) : wpN M A (exec (.If test body orelse pos) env) Q E s := by
  rw [exec_If]
  refine aBind (wpAny_standAt (nBind (nMono h (fun b s' h' => ?_) fun _ _ x => x)))
  cases b <;> exact h'
theorem nReturn {e : Expr} {pos : Pos} {Q : Flow → Shared → Prop} (h : wpN M A (eval e env) (fun v => Q (.ret v)) E s) : wpN M A (exec (.Return (some e) pos) env) Q E s := by
  rw [exec_Return_some]
  exact aBind (wpAny_standAt (nBind (nMono h (fun _ _ x => nPure x) fun _ _ x => x)))
theorem nAssignName {x : Str} {pos' : Pos} {value : Expr} {pos : Pos} {Q : Flow → Shared → Prop}
    (h : wpN M A (eval value env) (fun v s₁ => wpAny M A (storeName env x v) (fun _ => Q .next) E s₁) E s)
    (hs : swapsWith value (some (.Name x pos')) pos.line env = pure false := by rfl) : wpN M A (exec (.Assign [.Name x pos'] value pos) env) Q E s := by
  rw [exec_Assign_Name env x pos' value pos hs]
  exact aBind (wpAny_standAt (nBind (nMono h (fun _ _ x => aBind (wpAny_standAt (aBind (wpAny_mono (wpAny_bindName x) (fun _ _ y => nPure y) fun _ _ y => y)))) fun _ _ x => x)))
theorem nExpr {e : Expr} {pos : Pos} {Q : Flow → Shared → Prop} (h : wpN M A (eval e env) (fun v s₁ => wpAny M A (dropValue e pos v) Q E s₁) E s)
    (hi : interactive env = false := by rfl) (hs : swapsWith e none pos.line env = pure false := by rfl) : wpN M A (exec (.Expr e pos) env) Q E s := by
  rw [exec_Expr env e pos hi hs]
  exact aBind (wpAny_standAt (nBind (nMono h (fun _ _ x => nOf x) fun _ _ x => x)))
theorem nAugName {x : Str} {pos' : Pos} {op : Operator} {value : Expr} {pos : Pos} {Q : Flow → Shared → Prop}
    (h : wpAny M A (loadName env x) (fun old s₁ => wpN M A (eval value env) (fun v s₂ => wpAny M A (inplaceOp op old v)
      (fun r s₃ => wpAny M A (storeName env x r) (fun _ => Q .next) E s₃) E s₂) E s₁) E s) : wpN M A (exec (.AugAssign (.Name x pos') op value pos) env) Q E s := by
  rw [exec_AugAssign_Name]
  refine aBind (wpAny_standAt (aBind (wpAny_mono h (fun old s₁ h₁ => nBind (nHolding (nMono h₁ (fun v s₂ h₂ => ?_) fun _ _ y => y))) fun _ _ y => y)))
  refine aBind (wpAny_standAt (aBind (wpAny_operateT (wpAny_mono h₂ (fun r s₃ h₃ => ?_) fun _ _ y => y))))
  exact aBind (wpAny_standAt (aBind (wpAny_mono (wpAny_bindName h₃) (fun _ _ y => nPure y) fun _ _ y => y)))
/-- a call whose callee is no value of another kind than these -/
theorem nCallWith {pos : Pos} {f : Value} {first : List Value} {args : List (Bool × Sem Value)} {keywords : List (Option Str × Sem Value)} {Q : Value → Shared → Prop}
    (h : wpAny M A (evalArgs f true args keywords) (fun a s₁ => (∃ k, Looks M s₁.heap (keeperOf f) k) ∧ wpN M A (call f (first ++ a.pos) a.kw) Q E s₁) E s) :
    wpN M A (callWith pos f first args keywords) Q E s := by
  unfold callWith
  refine aBind (wpAny_holding (wpAny_mono h (fun a s₁ h₁ => aBind (wpAny_standAt ?_)) fun _ _ y => y))
  obtain ⟨⟨k, L⟩, hc⟩ := h₁
  have tail : ∀ {t : Sem Value}, wpN M A t Q E s₁ → wpN M A (t >>= fun r => holding [r] point >>= fun _ => pure r) Q E s₁ :=
    fun ht => nBind (nMono ht (fun r s₂ hr => aBind (wpAny_holding (wpAny_point (nPure hr)))) fun _ _ y => y)
  refine aBind (L.here ?_)
  have mk : ∀ v, wpN M A (callMarked v f (first ++ a.pos) a.kw) Q E s₁ := fun v => by unfold callMarked; exact nKeep hc
  cases k <;> cases hs : (args.any (·.1) || keywords.any (·.1.isNone)) <;> dsimp only
  all_goals first
    | exact tail (mk _)
    | exact tail hc
    | exact tail (nOperate hc)
    | (split <;> first | exact tail hc | exact tail (mk _))
def Kp (M : Model) (h : Heap) (f : Value) (P : Prop) : Prop := (∃ k, Looks M h (keeperOf f) k) ∧ P
theorem Kp.of {h : Heap} {f : Value} {P : Prop} (k : Keeper) (hk : Looks M h (keeperOf f) k) (p : P) : Kp M h f P := ⟨⟨k, hk⟩, p⟩
theorem nCallW {pos : Pos} {f : Value} {first : List Value} {e : Expr} {rest : List Expr} {Q : Value → Shared → Prop}
    (h : wpAny M A (spliced (backTo pos (starEach (e :: rest) env))) (fun vs s₁ => Kp M s₁.heap f (wpN M A (call f (first ++ vs)) Q E s₁)) E s)
    (he : starEach (e :: rest) env = (false, eval e env) :: starEach rest env := by rfl) : wpN M A (callWith pos f first (backTo pos (starEach (e :: rest) env)) (backToKw pos (keywordEach [] env))) Q E s := by
  rw [he] at h ⊢
  exact nCallWith (evalArgs_plain h)
theorem nCallW0 {pos : Pos} {f : Value} {first : List Value} {Q : Value → Shared → Prop}
    (h : Kp M s.heap f (wpN M A (call f (first ++ [])) Q E s)) : wpN M A (callWith pos f first (backTo pos (starEach [] env)) (backToKw pos (keywordEach [] env))) Q E s :=
  nCallWith (evalArgs_nil3 h)
theorem nCallName {id : Str} {p pos : Pos} {args : List Expr} {keywords : List Keyword} {Q : Value → Shared → Prop}
    (h : wpAny M A (eval (.Name id p) env) (fun f s₁ => wpN M A (callWith pos f [] (backTo pos (starEach args env)) (backToKw pos (keywordEach keywords env))) Q E s₁) E s) :
    wpN M A (eval (.Call (.Name id p) args keywords pos) env) Q E s := by
  rw [arm_eval_Call_Name']
  exact aBind h
theorem nAssignAttr {o : Expr} {attr : Str} {pos' : Pos} {value : Expr} {pos : Pos} {Q : Flow → Shared → Prop}
    (h : wpN M A (eval value env) (fun v s₁ => wpAny M A (eval o env) (fun ov s₂ => wpAny M A (setAttr ov attr v) (fun _ => Q .next) E s₂) E s₁) E s)
    (hs : swapsWith value (some (.Attribute o attr pos')) pos.line env = pure false := by rfl) : wpN M A (exec (.Assign [.Attribute o attr pos'] value pos) env) Q E s := by
  rw [plainObj_exec_Assign_Attribute o attr pos' value pos hs]
  refine aBind (wpAny_standAt (nBind (nMono h (fun v s₁ h₁ => ?_) fun _ _ x => x)))
  have e : assign (.Attribute o attr pos') env v = (do
      let ov ← holding [v] (eval o env)
      standAt pos'.atName
      holding [v, ov] (setAttr ov attr v)
      release [v, ov] []) := rfl
  rw [e]
  refine nOf (wpAny_bind (wpAny_bind (wpAny_holding (wpAny_mono h₁ (fun ov s₂ h₂ => wpAny_bind (wpAny_standAt (wpAny_bind (wpAny_holding (wpAny_mono h₂ (fun _ s₃ h₃ => ?_) fun _ _ x => x))))) fun _ _ x => x))))
  exact fun Γ p _ => by rw [Sem.wp_release]; exact wpAny_pure h₃
theorem nAssignSub {o i : Expr} {pos' : Pos} {value : Expr} {pos : Pos} {Q : Flow → Shared → Prop}
    (h : wpAny M A (eval value env) (fun v s₁ => wpAny M A (eval o env) (fun ov s₂ => wpAny M A (eval i env) (fun iv s₃ => wpN M A (setItem ov iv v) (fun _ => Q .next) E s₃) E s₂) E s₁) E s)
    (hs : swapsWith value (some (.Subscript o i pos')) pos.line env = pure false := by rfl) : wpN M A (exec (.Assign [.Subscript o i pos'] value pos) env) Q E s := by
  rw [exec_Assign_Subscript o i pos' value pos hs]
  refine aBind (wpAny_standAt (aBind (wpAny_mono h (fun v s₁ h₁ => ?_) fun _ _ x => x)))
  rw [assign_Subscript]
  refine nBind (aBind (wpAny_holding (wpAny_mono h₁ (fun ov s₂ h₂ => aBind (wpAny_holding (wpAny_mono h₂ (fun iv s₃ h₃ => ?_) fun _ _ x => x))) fun _ _ x => x)))
  refine aBind (wpAny_standAt (nBind (nHolding (nMono h₃ (fun _ s₄ h₄ => ?_) fun _ _ x => x))))
  exact fun Γ p _ _ => by rw [Sem.wp_release]; exact nPure h₄
theorem nIfExp {test body orelse : Expr} {pos : Pos} {Q : Value → Shared → Prop}
    (h : wpN M A (isTrue test env (eval test env)) (fun b s' => if b then wpN M A (eval body env) Q E s' else wpN M A (eval orelse env) Q E s') E s) : wpN M A (eval (.IfExp test body orelse pos) env) Q E s := by
  have e : eval (.IfExp test body orelse pos) env = (do if ← isTrue test env (eval test env) then eval body env else eval orelse env) := rfl
  rw [e]
  refine nBind (nMono h (fun b s' h' => ?_) fun _ _ x => x)
  cases b <;> exact h'
end
end Mine
end

section
open PySem PySem.W PySem.Calls PyProof.Rows
set_option maxRecDepth 100000
set_option maxHeartbeats 4000000
namespace Mine
namespace FB
theorem mro_ba : mroOf (.type "bytearray") = pure (.type "bytearray" :: [.type "object"]) := by first | exact mroOf_type_of (by kernel_rfl) | kernel_rfl
theorem slot_ba_init : Slot "bytearray" "__init__" "bytearray.__init__" :=
  .of (owner := "bytearray") (n := "__init__") (by rw [typeLookup_type, builtinLookup_eq_fast]; kernel_rfl) (by decide +kernel) (by decide +kernel) (by decide +kernel)
    (by first | exact .inl (by decide +kernel) | exact .inr (by decide +kernel)) (by rw [isSubtype_type]; kernel_rfl)
theorem newCall (l : List Value) : checkBuiltinCall "bytearray.__new__" ⟨.type "bytearray" :: l, []⟩ = pure () := by kernel_rfl
theorem typeCall1 (a : Value) : checkTypeCall "bytearray" ⟨[a], []⟩ = pure () := by kernel_rfl
theorem typeCall0 : checkTypeCall "bytearray" ⟨[], []⟩ = pure () := by kernel_rfl
theorem entry_new : entryFor table "bytearray.__new__" = some Builtin.«list.__new__» :=
  entryFor_alias (id' := "list.__new__") (by kernel_rfl) (by first | rfl | decide +kernel) (by decide +kernel) (by kernel_rfl)
theorem plain_new : plainId "bytearray.__new__" = true := by decide +kernel
theorem entry_init : entryFor table "bytearray.__init__" = some Builtin.«bytearray.__init__» := entryFor_of_fast (by kernel_rfl)
theorem args_init0 (a : Value) : argsOk "bytearray.__init__" ⟨[a], []⟩ := by unfold argsOk; kernel_rfl
theorem args_init1 (a b : Value) : argsOk "bytearray.__init__" ⟨[a, b], []⟩ := by unfold argsOk; kernel_rfl
set_option maxRecDepth 1000000 in
set_option maxHeartbeats 4000000 in
theorem owner_new : ("bytearray.__new__".splitOn ".__new__").headD "" = "bytearray" := by simp +decide [String.splitOn, String.splitOnAux]
theorem sub_self : isSubtype (.type "bytearray") (.type "bytearray") = pure true := by rw [isSubtype_type]; kernel_rfl
end FB
end Mine
end

section
open PySem PySem.W PySem.Calls PyProof.Rows
set_option maxRecDepth 100000
set_option maxHeartbeats 4000000
namespace Mine
section
variable {α β : Type} {M : Model} {A : Around} {E : Value → Shared → Prop} {s : Shared}
theorem nEq {m : Sem α} {a : α} {f : α → Sem β} {Q : β → Shared → Prop} (h : m = pure a) (hq : wpN M A (f a) Q E s) : wpN M A (m >>= f) Q E s := by subst h; exact hq
theorem nLook {m : Sem α} {r : α} {f : α → Sem β} {Q : β → Shared → Prop} (x : Looks M s.heap m r) (hq : wpN M A (f r) Q E s) : wpN M A (m >>= f) Q E s := aBind (x.here hq)
theorem nIfF {c : Bool} {a b : Sem α} {Q : α → Shared → Prop} (hc : c = false) (h : wpN M A b Q E s) : wpN M A (if c = true then a else b) Q E s := by subst hc; exact h
theorem nIfT {c : Bool} {a b : Sem α} {Q : α → Shared → Prop} (hc : c = true) (h : wpN M A a Q E s) : wpN M A (if c = true then a else b) Q E s := by subst hc; exact h
end
abbrev baObj (b : Array UInt8) : Obj := { cls := .type "bytearray", data := .bytearray b }
section
variable {M : Model} {h : Heap} {a : Addr} {b : Array UInt8}
theorem ba_type (ho : h.get? a = some (baObj b)) : Looks M h (typeOf (.ref a)) (.type "bytearray") := (Looks.ld (part := none) ho).andThen .now
theorem ba_special (ho : h.get? a = some (baObj b)) {n : Str} {r : Option Value} (e : typeLookup (.type "bytearray") n = pure r) : Looks M h (specialOf (.ref a) n) r := (ba_type ho).andThen (Looks.of_pure e)
theorem lk_rel : typeLookup (.type "bytearray") "__release_buffer__" = pure (some (.builtin "bytearray.__release_buffer__")) := by rw [typeLookup_type, builtinLookup_eq_fast]; kernel_rfl
theorem lk_buf : typeLookup (.type "bytearray") "__buffer__" = pure (some (.builtin "bytearray.__buffer__")) := by rw [typeLookup_type, builtinLookup_eq_fast]; kernel_rfl
set_option maxRecDepth 1000000 in
theorem ends_rel : "bytearray.__release_buffer__".endsWith ("." ++ "__release_buffer__") = true := by decide +kernel
set_option maxRecDepth 1000000 in
theorem own_rel : "bytearray.__release_buffer__".dropRight ("__release_buffer__".length + 1) = "bytearray" := by decide +kernel
set_option maxRecDepth 1000000 in
theorem ends_buf : "bytearray.__buffer__".endsWith ("." ++ "__buffer__") = true := by decide +kernel
set_option maxRecDepth 1000000 in
theorem own_buf : "bytearray.__buffer__".dropRight ("__buffer__".length + 1) = "bytearray" := by decide +kernel
theorem ba_inst (ho : h.get? a = some (baObj b)) : Looks M h (isInstance (.ref a) (.type "bytearray")) true := (ba_type ho).andThen (Looks.of_pure FB.sub_self)
theorem ba_own (ho : h.get? a = some (baObj b)) {n : String} {id : String} (e : typeLookup (.type "bytearray") (Str.ofString n) = pure (some (.builtin id))) (e1 : id.endsWith ("." ++ n) = true) (e2 : id.dropRight (n.length + 1) = "bytearray") :
    Looks M h (Builtin.Bytes.slotIsOwn (.ref a) n) true := by
  unfold Builtin.Bytes.slotIsOwn
  refine (ba_special ho e).andThen ?_
  dsimp only
  rw [e1, e2]
  exact ba_inst ho
theorem ba_rel (ho : h.get? a = some (baObj b)) : Looks M h (Builtin.Bytes.ownRelease (.ref a)) false := by
  unfold Builtin.Bytes.ownRelease
  exact (ba_own ho lk_rel ends_rel own_rel).andThen (Looks.of_pure rfl)
theorem ba_payload (ho : h.get? a = some (baObj b)) : Looks M h (Builtin.Bytes.payload (.ref a)) b := by
  unfold Builtin.Bytes.payload Builtin.Bytes.payload?
  exact ((Looks.ld (part := none) ho).andThen .now).andThen .now
theorem ba_exports (ho : h.get? a = some (baObj b)) : Looks M h (Builtin.Bytes.exportsOf (.ref a)) 0 := by
  unfold Builtin.Bytes.exportsOf
  exact (Looks.ld (part := none) ho).andThen .now
end
section
variable {M : Model} {A : Around} {E : Value → Shared → Prop} {s : Shared} {a : Addr} {b : Array UInt8}
theorem sizeL (c : Array UInt8) (h : c.size ≤ sizeLine) : (Data.bytearray c).pastItsLine = none := by
  show (if c.size > sizeLine then some "bytearray:memory" else none) = none
  rw [if_neg (Nat.not_lt.mpr h)]
theorem ba_write {Q : Unit → Shared → Prop} {f : Array UInt8 → Array UInt8} (ho : s.heap.get? a = some (baObj b)) (hs : (f b).size ≤ sizeLine)
    (h : (s.heap.update a (Obj.mapBytearray f)).get? a = some (baObj (f b)) → Q () { s with heap := s.heap.update a (Obj.mapBytearray f) }) : wpAny M A (Builtin.Bytes.write (.ref a) f) Q E s := by
  show wpAny M A (updateBytearray a f) Q E s
  unfold updateBytearray
  have hu : (s.heap.update a (Obj.mapBytearray f)).get? a = some (baObj (f b)) := Heap.get?_update_self _ ho rfl
  refine wpAny_bind (wpAny_load ho ?_)
  dsimp only
  refine wpAny_bind (wpAny_update ho ?_)
  exact wpAny_lookBehind hu (sizeL _ hs) (h hu)
/-- nothing holds it: it may grow -/
theorem nResize {Q : Unit → Shared → Prop} (ho : s.heap.get? a = some (baObj b)) (h : Q () s) : wpN M A (Builtin.Bytes.checkResize (.ref a)) Q E s := by
  unfold Builtin.Bytes.checkResize
  refine nBind (m := (Builtin.Bytes.exported (.ref a) <||> (do return (← Builtin.Bytes.exportsOf (.ref a)) > 0))) ?_
  refine nBind (nExported ?_)
  refine nLook (ba_exports ho) ?_
  exact nPure (nPure h)
end
end Mine
end

section
open PySem PySem.W PySem.Calls PyProof.Rows
set_option maxRecDepth 100000
set_option maxHeartbeats 4000000
namespace Mine
namespace FB
theorem bind0 : Builtin.Bytes.bindOptional "bytearray.__init__" "bytearray" ["source", "encoding", "errors"] [] [] = pure [none, none, none] := by kernel_rfl
theorem bind1 (v : Value) : Builtin.Bytes.bindOptional "bytearray.__init__" "bytearray" ["source", "encoding", "errors"] [v] [] = pure [some v, none, none] := by kernel_rfl
theorem str_bytes (b : Array UInt8) (t : Tok) : asStr? (.bytes b t) = pure none := by kernel_rfl
theorem idx_bytes (b : Array UInt8) (t : Tok) : specialOf (.bytes b t) "__index__" = pure none := by
  show typeLookup (.type "bytes") "__index__" = pure none
  rw [typeLookup_type, builtinLookup_eq_fast]; kernel_rfl
theorem buf_bytes (b : Array UInt8) (t : Tok) : specialOf (.bytes b t) "__buffer__" = pure (some (.builtin "bytes.__buffer__")) := by
  show typeLookup (.type "bytes") "__buffer__" = _
  rw [typeLookup_type, builtinLookup_eq_fast]; kernel_rfl
theorem rel_bytes (b : Array UInt8) (t : Tok) : specialOf (.bytes b t) "__release_buffer__" = pure none := by
  show typeLookup (.type "bytes") "__release_buffer__" = _
  rw [typeLookup_type, builtinLookup_eq_fast]; kernel_rfl
set_option maxRecDepth 1000000 in
theorem ends_bytes : "bytes.__buffer__".endsWith ("." ++ "__buffer__") = true := by decide +kernel
set_option maxRecDepth 1000000 in
theorem own_bytes : "bytes.__buffer__".dropRight ("__buffer__".length + 1) = "bytes" := by decide +kernel
theorem inst_bytes (b : Array UInt8) (t : Tok) : isInstance (.bytes b t) (.type "bytes") = pure true := by
  show isSubtype (.type "bytes") (.type "bytes") = pure true
  rw [isSubtype_type]; kernel_rfl
theorem slot_bytes (b : Array UInt8) (t : Tok) : Builtin.Bytes.slotIsOwn (.bytes b t) "__buffer__" = pure true := by
  unfold Builtin.Bytes.slotIsOwn
  rw [buf_bytes]
  show (if (!"bytes.__buffer__".endsWith ("." ++ "__buffer__")) = true then pure false else isInstance (.bytes b t) (.type ("bytes.__buffer__".dropRight ("__buffer__".length + 1)))) = pure true
  rw [ends_bytes, own_bytes]
  exact inst_bytes b t
theorem slotR_bytes (b : Array UInt8) (t : Tok) : Builtin.Bytes.slotIsOwn (.bytes b t) "__release_buffer__" = pure true := by
  unfold Builtin.Bytes.slotIsOwn
  rw [rel_bytes]
  rfl
theorem ownR_bytes (b : Array UInt8) (t : Tok) : Builtin.Bytes.ownRelease (.bytes b t) = pure false := by
  unfold Builtin.Bytes.ownRelease
  rw [slotR_bytes]; rfl
theorem buffer_bytes (id : String) (b : Array UInt8) (t : Tok) (full : Bool) : Builtin.Bytes.buffer? id (.bytes b t) full = pure (some b) := by
  unfold Builtin.Bytes.buffer?
  rw [buf_bytes]
  show (Builtin.Bytes.slotIsOwn (.bytes b t) "__buffer__" >>= fun c => _) = _
  rw [slot_bytes]
  show (Builtin.Bytes.ownRelease (.bytes b t) >>= fun c => _) = _
  rw [ownR_bytes]
  rfl
end FB
section
variable {M : Model} {A : Around} {E : Value → Shared → Prop} {s : Shared} {a : Addr} {c : Array UInt8}
def upd0 (h : Heap) (a : Addr) (b : Array UInt8) : Heap := h.update a (Obj.mapBytearray fun _ => b)
theorem upd0_get {h : Heap} (b : Array UInt8) (ho : h.get? a = some (baObj c)) : (upd0 h a b).get? a = some (baObj b) := Heap.get?_update_self _ ho rfl
theorem nInit0 {Q : Fin → Shared → Prop} (ho : s.heap.get? a = some (baObj c)) (h : Q (.done (.ret .none)) { s with heap := upd0 s.heap a #[] }) :
    wpN M A (Builtin.«bytearray.__init__» ⟨[.ref a], []⟩) Q E s := by
  unfold Builtin.«bytearray.__init__»
  refine nLook (ba_rel ho) ?_
  refine nIfF rfl ?_
  refine nEq FB.bind0 ?_
  refine nEq (a := ()) rfl ?_
  refine nEq (a := ()) rfl ?_
  refine nBind (m := (Builtin.Bytes.exported (.ref a) <||> (do return (← Builtin.Bytes.exportsOf (.ref a)) > 0))) ?_
  refine nBind (nExported ?_)
  refine nLook (ba_exports ho) ?_
  refine nPure ?_
  refine nIfF rfl ?_
  refine aBind (ba_write ho (Nat.zero_le _) fun hu => ?_)
  exact nPure h
theorem nInit1 {Q : Fin → Shared → Prop} {b : Array UInt8} {t : Tok} (hb : b.size ≤ sizeLine) (ho : s.heap.get? a = some (baObj c)) (h : Q (.done (.ret .none)) { s with heap := upd0 (upd0 s.heap a #[]) a b }) :
    wpN M A (Builtin.«bytearray.__init__» ⟨[.ref a, .bytes b t], []⟩) Q E s := by
  unfold Builtin.«bytearray.__init__»
  refine nLook (ba_rel ho) ?_
  refine nIfF rfl ?_
  refine nEq (FB.bind1 _) ?_
  refine nEq (a := ()) rfl ?_
  refine nEq (a := ()) rfl ?_
  refine nBind (m := (Builtin.Bytes.exported (.ref a) <||> (do return (← Builtin.Bytes.exportsOf (.ref a)) > 0))) ?_
  refine nBind (nExported ?_)
  refine nLook (ba_exports ho) ?_
  refine nPure ?_
  refine nIfF rfl ?_
  refine aBind (ba_write ho (Nat.zero_le _) fun hu => ?_)
  refine nEq (FB.str_bytes _ _) ?_
  refine nIfF rfl ?_
  refine nEq (a := ()) rfl ?_
  refine nEq (FB.idx_bytes _ _) ?_
  refine nIfF rfl ?_
  refine nEq (FB.buffer_bytes _ _ _ _) ?_
  refine nBind (nRule ?_)
  refine aBind (ba_write hu hb fun hv => ?_)
  exact nPure h
end
end Mine
end

section
open PySem PySem.W PySem.Calls PyProof.Rows
set_option maxRecDepth 100000
set_option maxHeartbeats 4000000
namespace Mine
namespace FB
theorem kind_init : builtinKind "bytearray.__init__" = some .slot := by decide +kernel
theorem split_init : splitId "bytearray.__init__" = some ("bytearray", "__init__") := by decide +kernel
theorem made_ba : Bind.madeBy (.type "bytearray") = pure (some "bytearray.__new__") := madeBy_type mro_ba (by rw [typeLookup_type, builtinLookup_eq_fast]; kernel_rfl) (by decide +kernel)
theorem lk_init : typeLookup (.type "bytearray") "__init__" = pure (some (.builtin "bytearray.__init__")) := by rw [typeLookup_type, builtinLookup_eq_fast]; kernel_rfl
theorem can_ba : ((Manifest.find? "bytearray").bind (·.mro.findSome? fun t => (Manifest.find? t).bind fun b => if b.noNew then some true else if b.attrs.any (·.1 == "__new__") then some false else none)).getD false = false := by decide +kernel
end FB
theorem bad_ok {id : String} {args : Args} (h1 : guardIds.contains id = false) (h2 : Builtin.Bytes.decodersThatHold.contains id = false) : bad (.builtin id args) = false := by
  show (guardIds.contains id || Builtin.Bytes.decodersThatHold.contains id) = false
  rw [h1, h2]; rfl
section
variable {prog : Program} {w : World} {A : Around} {E : Value → Shared → Prop} {s : Shared} {R : Result → Shared → Prop}
theorem ba_made (l : List Value) (h : R (.ok (.ret (.ref s.heap.objs.size))) { s with heap := s.heap.push (baObj #[]) }) :
    codeAny (model prog w) A (.call (.builtin "bytearray.__new__") ⟨.type "bytearray" :: l, []⟩) R s := by
  refine codeAny_of_tree ?_
  show wpAny _ A.in1 (do checkBuiltinCall "bytearray.__new__" ⟨.type "bytearray" :: l, []⟩; again (.builtin "bytearray.__new__" ⟨.type "bytearray" :: l, []⟩)) _ _ s
  refine wpAny_bind (wpAny_of_eq (FB.newCall l) (wpAny_pure ⟨plainId_quiet FB.plain_new _, codeAny_builtin_stack FB.entry_new rfl fun p st => ?_⟩))
  rw [Around.under_plainId FB.plain_new _]
  have hsub := FB.sub_self
  have hown := FB.owner_new
  obtain ⟨hp, g, d, tk, os⟩ := s
  simp only [hown]
  wp_walk
  exact h

theorem cBuiltin {id : String} {args : Args} {b : Builtin} (hg : bad (.builtin id args) = false) (hb : entryFor table id = some b)
    (h : wpN (model prog w) (A.under (.builtin id args)) (b args)
      (fun fin s' => match fin with | .done f => R (.ok f) s' | .again c' => c'.quiet = true ∧ codeN (model prog w) A c' R s') (fun e s' => R (.error e) s') s) :
    codeN (model prog w) A (.builtin id args) R s := by
  refine cOfTree hg ?_
  show wpN _ _ (match entryFor table id with | some b => b args | none => unsupported ((withoutEnding? id "#data").getD id)) _ _ s
  rw [hb]; exact h
/-- `bytearray(..)`, the tree of `__init__` given -/
theorem nBAof {args : List Value} {Q : Value → Shared → Prop} (hc : checkTypeCall "bytearray" ⟨args, []⟩ = pure ()) (ha : ∀ a, argsOk "bytearray.__init__" ⟨a :: args, []⟩)
    (hi : ∀ A, wpN (model prog w) A (Builtin.«bytearray.__init__» ⟨.ref s.heap.objs.size :: args, []⟩) (fun fin s' => fin = .done (.ret .none) ∧ Q (.ref s.heap.objs.size) s') E { s with heap := s.heap.push (baObj #[]) }) :
    wpN (model prog w) A (call (.type "bytearray") args) Q E s := by
  refine nCall (cOfTree rfl ?_)
  show wpN _ _ (callAny (.type "bytearray") ⟨args, []⟩) _ _ _
  refine nPure ⟨Code.quiet_builtin _ (by decide +kernel), cBuiltin (bad_ok (by decide) (by decide)) PySem.F.entry_type_call ?_⟩
  show wpN _ _ (Builtin.«type.__call__» ⟨.type "bytearray" :: args, []⟩) _ _ _
  unfold Builtin.«type.__call__»
  refine nIfF (by decide) ?_
  dsimp only
  rw [FB.can_ba]
  refine nIfF rfl ?_
  refine nEq hc ?_
  refine nEq FB.mro_ba ?_
  refine nIfF rfl ?_
  refine nEq FB.made_ba ?_
  refine nEq (a := Value.builtin "bytearray.__new__") rfl ?_
  refine aBind (wpAny_holding (wpAny_call (ba_made args ?_)))
  have ho : (s.heap.push (baObj #[])).get? s.heap.objs.size = some (baObj #[]) := Heap.get?_push_size _ rfl
  refine nLook (ba_inst ho) ?_
  refine nIfF rfl ?_
  refine nBind (nHolding ?_)
  unfold callSpecial?
  refine nLook (ba_special ho FB.lk_init) ?_
  refine nHolding ?_
  refine nEq (FB.slot_ba_init.bind _) ?_
  refine nBind (nCall (cOfTree rfl ?_))
  show wpN _ _ (do checkBuiltinCall "bytearray.__init__" ⟨.ref s.heap.objs.size :: args, []⟩; again (.builtin "bytearray.__init__" ⟨.ref s.heap.objs.size :: args, []⟩)) _ _ _
  refine aBind ?_
  refine check_slot (i := "bytearray.__init__") (owner := "bytearray") (n := "__init__") (self := .ref s.heap.objs.size) (rest := args) (kw := []) FB.kind_init FB.split_init ?hi1 ?ha1 ?_
  case hi1 => exact ba_inst ho
  case ha1 => exact ha _
  refine nPure ⟨Code.quiet_builtin _ (by decide +kernel), cBuiltin (bad_ok (by decide) (by decide)) FB.entry_init ?_⟩
  refine nMono (hi _) (fun fin s' hq => ?_) fun _ _ x => x
  obtain ⟨rfl, hq⟩ := hq
  refine nPure (nPure ?_)
  exact hq
theorem nBA0 {h₀ : Heap} {L : Addr} {m : Str → Option Value} {news : List (Addr × Obj)} {Q : Value → Shared → Prop} (F : Fr h₀ L s.heap m) (N : News h₀ L s.heap news)
    (h : ∀ y h', Fr h₀ L h' m → News h₀ L h' ((y, baObj #[]) :: news) → (∀ p ∈ news, p.1 < y) → Q (.ref y) { s with heap := h' }) : wpN (model prog w) A (call (.type "bytearray") []) Q E s := by
  refine nBAof FB.typeCall0 FB.args_init0 fun A => ?_
  have ho : (s.heap.push (baObj #[])).get? s.heap.objs.size = some (baObj #[]) := Heap.get?_push_size _ rfl
  have lt : ∀ p ∈ news, p.1 < s.heap.objs.size := fun p hp => Heap.lt_size (N p hp).1
  have U := news_upd (pre := []) (post := news) (f := Obj.mapBytearray fun _ => #[]) (F.push (baObj #[])) (N.push F (baObj #[])) (fun _ hp => nomatch hp) (fun p hp => Nat.ne_of_lt (lt p hp)) rfl rfl
  exact nInit0 (s := { s with heap := s.heap.push (baObj #[]) }) ho ⟨rfl, h _ _ U.1 U.2 lt⟩
theorem nBA1 {h₀ : Heap} {L : Addr} {m : Str → Option Value} {news : List (Addr × Obj)} {Q : Value → Shared → Prop} {b : Array UInt8} {t : Tok} (hb : b.size ≤ sizeLine) (F : Fr h₀ L s.heap m) (N : News h₀ L s.heap news)
    (h : ∀ y h', Fr h₀ L h' m → News h₀ L h' ((y, baObj b) :: news) → (∀ p ∈ news, p.1 < y) → Q (.ref y) { s with heap := h' }) : wpN (model prog w) A (call (.type "bytearray") [.bytes b t]) Q E s := by
  refine nBAof (FB.typeCall1 _) (fun a => FB.args_init1 a _) fun A => ?_
  have ho : (s.heap.push (baObj #[])).get? s.heap.objs.size = some (baObj #[]) := Heap.get?_push_size _ rfl
  have lt : ∀ p ∈ news, p.1 < s.heap.objs.size := fun p hp => Heap.lt_size (N p hp).1
  have U := news_upd (pre := []) (post := news) (f := Obj.mapBytearray fun _ => #[]) (F.push (baObj #[])) (N.push F (baObj #[])) (fun _ hp => nomatch hp) (fun p hp => Nat.ne_of_lt (lt p hp)) rfl rfl
  have V := news_upd (pre := []) (post := news) (f := Obj.mapBytearray fun _ => b) (o' := baObj b) U.1 U.2 (fun _ hp => nomatch hp) (fun p hp => Nat.ne_of_lt (lt p hp)) rfl rfl
  exact nInit1 (s := { s with heap := s.heap.push (baObj #[]) }) hb ho ⟨rfl, h _ _ V.1 V.2 lt⟩
end
end Mine
end

section
open PySem PySem.W PySem.Calls PyProof.Rows
set_option maxRecDepth 100000
set_option maxHeartbeats 4000000
namespace Mine
theorem pk_check (P : Params) (S : Setting) : peek (Mine.hd.heap_39 P) S (checkBuiltinCall "object.__new__" ⟨[.ref 329], []⟩) = some () := by kernel_rfl
theorem pk_isType (P : Params) (S : Setting) : peek (Mine.hd.heap_39 P) S (isType (.ref 329)) = some true := by kernel_rfl
theorem pk_made (P : Params) (S : Setting) : peek (Mine.hd.heap_39 P) S (Bind.madeHere "object.__new__" (.ref 329)) = some () := by kernel_rfl
theorem pk_abs (P : Params) (S : Setting) : (peek (Mine.hd.heap_39 P) S (classData 329)).map (fun c => c.abstract) = some false := by kernel_rfl
theorem pk_del (P : Params) (S : Setting) : peek (Mine.hd.heap_39 P) S (classHasDel 329) = some false := by kernel_rfl
theorem map_some {α β : Type} {f : α → β} {x : Option α} {b : β} (h : x.map f = some b) : ∃ a, x = some a ∧ f a = b := by
  cases x with
  | none => cases h
  | some a => exact ⟨a, rfl, Option.some.inj h⟩
section
variable {prog : Program} {w : World} {A : Around} {R : Result → Shared → Prop} {s : Shared}
theorem new_obj (X : (Mine.hd.heap_39 w.params).In s.heap)
    (hq : R (.ok (.ret (.ref (s.heap.objs.size + 1)))) { s with heap := (s.heap.push emptyDict).push (instObj 329 s.heap.objs.size) }) :
    codeAny (model prog w) A (.call (.builtin "object.__new__") ⟨[.ref 329], []⟩) R s := by
  refine codeAny_call_builtin_code (Code.quiet_builtin _ PySem.F.objNew.quiet) ?_
  refine (Looks.of_peek X (pk_check _ _)).here ?_
  refine codeAny_builtin PySem.F.objNew.entry ?_
  unfold Builtin.«object.__new__»
  refine wpAny_bind ((Looks.of_peek X (pk_isType _ _)).here ?_)
  simp only [Bool.not_true, Bool.false_eq_true, if_false]
  refine wpAny_bind ((Looks.of_peek X (pk_made _ _)).here ?_)
  obtain ⟨c, hc, ha⟩ := map_some (pk_abs w.params ⟨(model prog w).prog, (model prog w).w.params⟩)
  simp only [List.isEmpty_nil, Bool.not_true, Bool.or_false, Bool.false_eq_true, if_false]
  refine wpAny_bind ((Looks.of_peek X hc).here ?_)
  simp only [ha, Bool.false_eq_true, if_false]
  have X2 : (Mine.hd.heap_39 w.params).In ((s.heap.push emptyDict).push (instObj 329 s.heap.objs.size)) := X.keeps fun b o e => Heap.get?_push_of_some _ (Heap.get?_push_of_some _ e)
  show wpAny _ _ ((alloc emptyDict >>= fun x => pure (some x)) >>= _) _ _ _
  refine wpAny_bind (wpAny_bind (wpAny_alloc (wpAny_pure (wpAny_bind ?_))))
  show wpAny _ _ (newObjAsIs _ _ _) _ _ _
  unfold newObjAsIs
  refine wpAny_bind (wpAny_alloc (wpAny_bind ((Looks.of_peek X2 (pk_del _ _)).here ?_)))
  refine wpAny_pure (wpAny_pure ?_)
  show R _ _
  rw [Heap.size_push]
  exact hq
theorem call_new {E : Value → Shared → Prop} {Q : Value → Shared → Prop} {h₀ : Heap} {L : Addr} {m : Str → Option Value} {news : List (Addr × Obj)} (F : Fr h₀ L s.heap m) (X₀ : (Mine.hd.heap_39 w.params).In h₀) (N : News h₀ L s.heap news)
    (h : ∀ x dx h', Fr h₀ L h' m → News h₀ L h' ((x, instObj 329 dx) :: (dx, emptyDict) :: news) → (∀ p ∈ news, p.1 < dx) → dx < x → Q (.ref x) { s with heap := h' }) :
    wpAny (model prog w) A (call (.builtin "object.__new__") [.ref 329]) Q E s := by
  refine wpAny_call (new_obj (X₀.keeps F.keep) ?_)
  have N' := (N.push F emptyDict).push (F.push _) (instObj 329 s.heap.objs.size)
  rw [Heap.size_push] at N'
  exact h _ _ _ ((F.push _).push _) N' (fun p hp => Heap.lt_size (N p hp).1) (Nat.lt_succ_self _)
end
end Mine
end

section
open PySem PySem.W PyProof.Rows
set_option maxRecDepth 100000
set_option maxHeartbeats 4000000
namespace Mine
theorem c_new {w : World} {mean : ExcName → Option Value} {mg mb : Str → Option Value} {news : List (Addr × Obj)} (b : Array UInt8) (t : Tok) 
   (dp un : Nat) (gd : Option (List Code)) (cn : Str) (nms : List (Str × NameKind)) (ig ic : Bool) (mr : List (Str × Const)) (a : Addr) (ccd : Value) (cl : List (Str × Addr)) (outer : List Env) (A₀ : Around) (base h₀ : Heap) (L : Addr) (m : Str → Option Value) (s : Shared) (Q E : Value → Shared → Prop)
   (B : Below A₀ base outer h₀) (F : Fr h₀ L s.heap m) (X : (Mine.hd.heap_39 w.params).In h₀) (N : News h₀ L s.heap news) (T : Top Mine.hd.view_39 LS mean mg mb h₀)
    (hd : dp + 50 < recursionLimit) (hu : un + 200 < cLine)
    (hret : ∀ x dx h' tk', Fr h₀ L h' m → News h₀ L h' ((x, instObj 329 dx) :: (dx, emptyDict) :: news) → Q (.ref x) { s with heap := h', toks := tk' }) :
      wpAny (model Challenge.rw_bd0009_01.row.prog w) (ktrTop dp un gd cn ⟨.function, nms, ig, ic, mr⟩ L a ccd cl outer) (call (.ref 69) [.ref 329, .bytes b t]) Q E s := by
  k_with_none
  k_with "call builtin:object.__new__" => (k_here; k_dflt (refine' call_new ?zzk1 ?zzk2 ?zzk3 ?_; (case zzk1 | zzk2 | zzk3 => k_asm); k_whole; intro x' d' h' F' N' l1 l2; (try k_lt l1); (try k_lt2 l2); (try k_sweep)))
  have X0 := X
  revert X0
  k_fill
  intro _
  k_steps
  all_goals trace_state
  all_goals exact hret _ _ _ _ (by k_asm) (cb_drop (by assumption) (by kcj_all))
end Mine
end

section
open PySem PySem.W PySem.Calls PyProof.Rows
set_option maxRecDepth 100000
set_option maxHeartbeats 4000000
namespace Mine
theorem sp_call (P : Params) : specialIn (Mine.hd.heap_39 P) (.ref 329) "__call__" = some (some (.builtin "type.__call__")) := by kernel_rfl
theorem pk_type (P : Params) (S : Setting) : peek (Mine.hd.heap_39 P) S (isInstance (.ref 329) (.type "type")) = some true := by kernel_rfl
theorem pk_mro (P : Params) (S : Setting) : peek (Mine.hd.heap_39 P) S (mroOf (.ref 329)) = some [.ref 329, .ref 87, .ref 72, .type "object"] := by kernel_rfl
theorem pk_madeBy (P : Params) (S : Setting) : peek (Mine.hd.heap_39 P) S (Bind.madeBy (.ref 329)) = some none := by kernel_rfl
theorem pk_sub (P : Params) (S : Setting) : peek (Mine.hd.heap_39 P) S (isSubtype (.ref 329) (.ref 329)) = some true := by kernel_rfl
theorem pk_cls (P : Params) : (match (Mine.hd.heap_39 P).lookup 329 with | some ⟨_, _, .cls _, _⟩ => true | _ => false) = true := by kernel_rfl
theorem fi_init (P : Params) : findIn (Mine.hd.heap_39 P) (.ref 329) "__init__" = some (some (.ref 116)) := by kernel_rfl
theorem ty_init (P : Params) : typeIn (Mine.hd.heap_39 P) (.ref 116) = some (.type "function") := by kernel_rfl
section
variable {prog : Program} {w : World} {A : Around} {R : Result → Shared → Prop} {s : Shared}
/-- a class of the text's with a `__new__` of its own is called: what is made, and how `__init__` is asked, is left -/
theorem cBioOf {args : List Value} (X : (Mine.hd.heap_39 w.params).In s.heap)
    (h : wpN (model prog w) (A.under (.builtin "type.__call__" ⟨.ref 329 :: args, []⟩)) (do
      let new ← getAttr (.ref 329) "__new__"
      let obj ← holding [new] (call new (.ref 329 :: args) [])
      if !(← isInstance obj (.ref 329)) then rule "type.call.new-gave-other-type"; return ← ret obj
      match ← holding [obj] (callSpecial? obj "__init__" args []) with
      | none => ret obj
      | some r =>
        if r != .none then
          rule "type.call.init-returned-value"
          raiseError "TypeError" s!"__init__() should return None, not '{← typeNameOf r}'"
        ret obj) (fun fin s' => match fin with | .done f => R (.ok f) s' | .again c' => c'.quiet = true ∧ codeN (model prog w) A c' R s') (fun e s' => R (.error e) s') s) :
    codeN (model prog w) A (.call (.ref 329) ⟨args, []⟩) R s := by
  have e := pk_cls w.params
  split at e
  · rename_i oc od cd sl ho
    refine cOfTree rfl ?_
    show wpN _ _ (callAny (.ref 329) _) _ _ _
    unfold callAny
    refine aBind (wpAny_load (X _ _ ho) ?_)
    dsimp only
    unfold callAny.viaDunder
    refine nLook (looks_specialIn X (sp_call _)) ?_
    dsimp only
    refine nEq (tc_bind _) ?_
    refine nBind (nPure ?_)
    refine nPure ⟨rfl, cOfTree rfl ?_⟩
    show wpN _ _ (do checkBuiltinCall "type.__call__" ⟨.ref 329 :: args, []⟩; again (.builtin "type.__call__" ⟨.ref 329 :: args, []⟩)) _ _ _
    refine aBind ?_
    refine check_slot (i := "type.__call__") (self := .ref 329) (rest := args) (kw := []) tc_kind tc_split ?hi (tc_args _ _ _) ?_
    case hi => exact Looks.of_peek X (pk_type _ _)
    refine nPure ⟨Code.quiet_builtin _ (by decide +kernel), cBuiltin (bad_ok (by decide) (by decide)) entry_typeCall ?_⟩
    unfold Builtin.«type.__call__»
    refine nIfF rfl ?_
    refine nLook (Looks.of_peek X (pk_mro _ _)) ?_
    refine nIfF rfl ?_
    refine nLook (Looks.of_peek X (pk_madeBy _ _)) ?_
    exact h
  · cases e
end
end Mine
end

section
open PySem PySem.W PySem.Calls PyProof.Rows
set_option maxRecDepth 100000
set_option maxHeartbeats 4000000
namespace Mine
abbrev bioD (w : World) (y : Addr) (p : Int) (t1 t2 t3 : Tok) : Obj := dictOf [⟨PyData.keyHash w.params (Str.ofString "_BytesIO__buf"), .str (Str.ofString "_BytesIO__buf") t1, .ref y⟩, ⟨PyData.keyHash w.params (Str.ofString "_BytesIO__pos"), .str (Str.ofString "_BytesIO__pos") t2, .int p t3⟩] 2
theorem c_bio1 {w : World} {mean : ExcName → Option Value} {mg mb : Str → Option Value} {news : List (Addr × Obj)} (b : Array UInt8) (t : Tok) (hb : b.size ≤ sizeLine)
   (dp un : Nat) (gd : Option (List Code)) (cn : Str) (nms : List (Str × NameKind)) (ig ic : Bool) (mr : List (Str × Const)) (a : Addr) (ccd : Value) (cl : List (Str × Addr)) (outer : List Env) (A₀ : Around) (base h₀ : Heap) (L : Addr) (m : Str → Option Value) (s : Shared) (Q E : Value → Shared → Prop)
   (B : Below A₀ base outer h₀) (F : Fr h₀ L s.heap m) (X : (Mine.hd.heap_39 w.params).In h₀) (N : News h₀ L s.heap news) (T : Top Mine.hd.view_39 LS mean mg mb h₀) 
    (hd : dp + 40 < recursionLimit) (hu : un + 160 < cLine)
    (hret : ∀ x dx y t1 t2 t3 h' tk', Fr h₀ L h' m → News h₀ L h' ((x, instObj 329 dx) :: (dx, bioD w y 0 t1 t2 t3) :: (y, baObj b) :: news) → AllLt dx news → dx < x → x < y → Q (.ref x) { s with heap := h', toks := tk' }) :
      wpN (model Challenge.rw_bd0009_01.row.prog w) (ktrTop dp un gd cn ⟨.function, nms, ig, ic, mr⟩ L a ccd cl outer) (call (.ref 329) [.bytes b t]) Q E s := by
  k_with_none
  k_with "n enter" => (refine' cDef ?zzk1 ?zzk2 ?zzk3 ?zzk4 ?zzk5 ?zzkA ?zzkF ?zzkK ?zzk6 ?zzk7 ?zzk8 ?zzk9 ?zzkB ?_ ?zzc2 ?zzc3 ?zzc4 ?zzc5; (case zzkA | zzkF | zzkK => exact rfl); (case zzk1 | zzk2 | zzk3 | zzk4 | zzk5 => k_asm); (case zzk6 | zzk7 => k_is); (case zzk8 => k_room); (case zzk9 => first | exact BindsTo.of_eq rfl | exact binds_K (by k_in) rfl (by k_is) rfl rfl rfl); (case zzc5 => decide); (case zzkB => exact locs rfl); (case zzc2 | zzc3 | zzc4 => exact rfl); intro g' L' h' FG' F' N' B' X' T'; (try dsimp only))
  k_with "call builtin:object.__new__" => (k_here; k_dflt (refine' call_new ?zzk1 ?zzk2 ?zzk3 ?_; (case zzk1 | zzk2 | zzk3 => k_asm); k_whole; intro x' d' h' F' N' l1 l2; (try k_lt l1); (try k_lt2 l2); (try k_sweep)))
  k_with "call type:type" => ((with_reducible show wpAny _ _ (call _ [Value.bytes _ _]) _ _ _); refine call_type_of (Tx := "bytes") rfl (by decide +kernel) ?_)
  have X0 := X
  revert X0
  k_fill
  intro _
  refine nCall (cBioOf (X.keeps F.keep) ?_)
  refine aBind ?_
  k_steps
  refine nBind (nHolding (nOf ?_))
  k_steps
  rename Fr _ _ _ _ => kF
  rename News _ _ _ _ => kN
  have KX := X.keeps kF.keep
  have ty := (Looks.ld (M := model Challenge.rw_bd0009_01.row.prog w) (part := none) (kN _ (.head _)).1).andThen (f := fun o => pure o.cls) .now
  refine nLook (r := true) (ty.andThen (Looks.of_peek KX (pk_sub _ _))) ?_
  refine nIfF rfl ?_
  refine nBind (nHolding ?_)
  unfold callSpecial?
  refine nLook (ty.andThen (looks_findIn KX (fi_init _))) ?_
  refine nHolding ?_
  refine nLook (bind_fn KX _ (ty_init _)) ?_
  refine nBind (nCall ?_)
  dsimp only [List.cons_append, List.nil_append]
  clear ty KX
  walk_at "n enter"
  refine nExecsCons (nOf ?_)
  k_steps
  refine nExecsCons (nAssignAttr (nIfExp (nOf ?_)))
  k_steps
  refine nCallName ?_
  k_steps
  refine nCallW ?_
  k_steps
  refine Kp.of .machine (Looks.of_pure rfl) ?_
  refine nBA1 hb (by k_asm) (by k_asm) ?_
  intro y' h' F' N' l1
  (try k_lt l1); (try k_sweep)
  k_steps
  refine nOf ?_
  k_steps
  refine nPure (nIfF rfl (nPure ?_))
  exact hret _ _ _ _ _ _ _ _ (by k_asm) (cb_drop (by assumption) (by kcj_all)) (by first | assumption | (rename AllLt _ _ => z; exact z) | exact (by assumption : _ ∧ _ ∧ _).2.2) (by assumption) (by first | assumption | exact (by assumption : _ < y' ∧ _).1)
theorem c_bio0 {w : World} {mean : ExcName → Option Value} {mg mb : Str → Option Value} {news : List (Addr × Obj)} 
   (dp un : Nat) (gd : Option (List Code)) (cn : Str) (nms : List (Str × NameKind)) (ig ic : Bool) (mr : List (Str × Const)) (a : Addr) (ccd : Value) (cl : List (Str × Addr)) (outer : List Env) (A₀ : Around) (base h₀ : Heap) (L : Addr) (m : Str → Option Value) (s : Shared) (Q E : Value → Shared → Prop)
   (B : Below A₀ base outer h₀) (F : Fr h₀ L s.heap m) (X : (Mine.hd.heap_39 w.params).In h₀) (N : News h₀ L s.heap news) (T : Top Mine.hd.view_39 LS mean mg mb h₀) 
    (hd : dp + 40 < recursionLimit) (hu : un + 160 < cLine)
    (hret : ∀ x dx y t1 t2 t3 h' tk', Fr h₀ L h' m → News h₀ L h' ((x, instObj 329 dx) :: (dx, bioD w y 0 t1 t2 t3) :: (y, baObj #[]) :: news) → AllLt dx news → dx < x → x < y → Q (.ref x) { s with heap := h', toks := tk' }) :
      wpN (model Challenge.rw_bd0009_01.row.prog w) (ktrTop dp un gd cn ⟨.function, nms, ig, ic, mr⟩ L a ccd cl outer) (call (.ref 329) []) Q E s := by
  k_with_none
  k_with "n enter" => (refine' cDef ?zzk1 ?zzk2 ?zzk3 ?zzk4 ?zzk5 ?zzkA ?zzkF ?zzkK ?zzk6 ?zzk7 ?zzk8 ?zzk9 ?zzkB ?_ ?zzc2 ?zzc3 ?zzc4 ?zzc5; (case zzkA | zzkF | zzkK => exact rfl); (case zzk1 | zzk2 | zzk3 | zzk4 | zzk5 => k_asm); (case zzk6 | zzk7 => k_is); (case zzk8 => k_room); (case zzk9 => first | exact BindsTo.of_eq rfl | exact binds_K (by k_in) rfl (by k_is) rfl rfl rfl); (case zzc5 => decide); (case zzkB => exact locs rfl); (case zzc2 | zzc3 | zzc4 => exact rfl); intro g' L' h' FG' F' N' B' X' T'; (try dsimp only))
  k_with "call builtin:object.__new__" => (k_here; k_dflt (refine' call_new ?zzk1 ?zzk2 ?zzk3 ?_; (case zzk1 | zzk2 | zzk3 => k_asm); k_whole; intro x' d' h' F' N' l1 l2; (try k_lt l1); (try k_lt2 l2); (try k_sweep)))
  k_with "call type:type" => ((with_reducible show wpAny _ _ (call _ [Value.bytes _ _]) _ _ _); refine call_type_of (Tx := "bytes") rfl (by decide +kernel) ?_)
  have X0 := X
  revert X0
  k_fill
  intro _
  refine nCall (cBioOf (X.keeps F.keep) ?_)
  refine aBind ?_
  k_steps
  refine nBind (nHolding (nOf ?_))
  k_steps
  rename Fr _ _ _ _ => kF
  rename News _ _ _ _ => kN
  have KX := X.keeps kF.keep
  have ty := (Looks.ld (M := model Challenge.rw_bd0009_01.row.prog w) (part := none) (kN _ (.head _)).1).andThen (f := fun o => pure o.cls) .now
  refine nLook (r := true) (ty.andThen (Looks.of_peek KX (pk_sub _ _))) ?_
  refine nIfF rfl ?_
  refine nBind (nHolding ?_)
  unfold callSpecial?
  refine nLook (ty.andThen (looks_findIn KX (fi_init _))) ?_
  refine nHolding ?_
  refine nLook (bind_fn KX _ (ty_init _)) ?_
  refine nBind (nCall ?_)
  dsimp only [List.cons_append, List.nil_append]
  clear ty KX
  walk_at "n enter"
  refine nExecsCons (nOf ?_)
  k_steps
  refine nExecsCons (nAssignAttr (nIfExp (nOf ?_)))
  k_steps
  refine nCallName ?_
  k_steps
  refine nCallW0 ?_
  refine Kp.of .machine (Looks.of_pure rfl) ?_
  refine nBA0 (by k_asm) (by k_asm) ?_
  intro y' h' F' N' l1
  (try k_lt l1); (try k_sweep)
  k_steps
  refine nOf ?_
  k_steps
  refine nPure (nIfF rfl (nPure ?_))
  exact hret _ _ _ _ _ _ _ _ (by k_asm) (cb_drop (by assumption) (by kcj_all)) (by first | assumption | (rename AllLt _ _ => z; exact z) | exact (by assumption : _ ∧ _ ∧ _).2.2) (by assumption) (by first | assumption | exact (by assumption : _ < y' ∧ _).1)
end Mine
end

section
open PySem PySem.W PySem.Calls PyProof.Rows
set_option maxRecDepth 100000
set_option maxHeartbeats 4000000
namespace Mine
namespace FB
theorem slot_len : Slot "bytearray" "__len__" "bytearray.__len__" :=
  .of (owner := "bytearray") (n := "__len__") (by rw [typeLookup_type, builtinLookup_eq_fast]; kernel_rfl) (by decide +kernel) (by decide +kernel) (by decide +kernel)
    (by first | exact .inl (by decide +kernel) | exact .inr (by decide +kernel)) (by rw [isSubtype_type]; kernel_rfl)
theorem entry_len : entryFor table "bytearray.__len__" = some Builtin.«bytearray.__len__» := entryFor_of_fast (by kernel_rfl)
theorem args_len (a : Value) : argsOk "bytearray.__len__" ⟨[a], []⟩ := by unfold argsOk; kernel_rfl
theorem slot_get : Slot "bytearray" "__getitem__" "bytearray.__getitem__" :=
  .of (owner := "bytearray") (n := "__getitem__") (by rw [typeLookup_type, builtinLookup_eq_fast]; kernel_rfl) (by decide +kernel) (by decide +kernel) (by decide +kernel)
    (by first | exact .inl (by decide +kernel) | exact .inr (by decide +kernel)) (by rw [isSubtype_type]; kernel_rfl)
theorem entry_get : entryFor table "bytearray.__getitem__" = some Builtin.«bytearray.__getitem__» := entryFor_of_fast (by kernel_rfl)
theorem args_get (a b : Value) : argsOk "bytearray.__getitem__" ⟨[a, b], []⟩ := by unfold argsOk; kernel_rfl
theorem idx_int (i : Int) (t : Tok) : specialOf (.int i t) "__index__" = pure (some (.builtin "int.__index__")) := by
  show typeLookup (.type "int") "__index__" = _
  rw [typeLookup_type, builtinLookup_eq_fast]; kernel_rfl
theorem as_int (i : Int) (t : Tok) : asIndex (.int i t) = pure i := by kernel_rfl
theorem ty_slice : typeLookup (.type "slice") "__index__" = pure none := by rw [typeLookup_type, builtinLookup_eq_fast]; kernel_rfl
end FB
theorem ba_typeIs {s : Shared} {y : Addr} {b : Array UInt8} (ho : s.heap.get? y = some (baObj b)) : s.TypeIs (.ref y) "bytearray" := ⟨_, ho, rfl⟩
section
variable {prog : Program} {w : World} {A : Around} {E : Value → Shared → Prop} {s : Shared} {y : Addr} {b : Array UInt8}
theorem len_ba {Q : Value → Shared → Prop} (ho : s.heap.get? y = some (baObj b)) (hb : b.size ≤ sizeLine) (h : Q (.int b.size (s.toks + 1)) { s with toks := s.toks + 1 + 1 }) :
    wpAny (model prog w) A (call (.builtin "len") [.ref y]) Q E s := by
  rw [sizeLine_eq] at hb
  refine call_function_entry kind_len plain_len entry_len (args_len1 _) ?_
  unfold Builtin.«len»
  refine wpAny_bind (m := oneArg "len" _) (wpAny_pure ?_)
  refine wpAny_bind (m := callSpecial? (.ref y) (Str.ofString "__len__")) (wpAny_callSpecial?_slot (name := Str.ofString "__len__") (ba_typeIs ho) FB.slot_len
    (wpAny_call_entry FB.slot_len (ba_typeIs ho) FB.entry_len ?_ (FB.args_len _)))
  unfold Builtin.«bytearray.__len__»
  refine wpAny_bind (wpAny_of_eq (a := (Value.ref y, [])) rfl ?_)
  refine wpAny_bind ((ba_payload ho).here ?_)
  refine wpAny_bind (wpAny_mkInt (wpAny_pure ⟨_, rfl, ?_⟩))
  refine wpAny_bind (wpAny_holding (wpAny_pure ?_))
  refine wpAny_bind (wpAny_letGo ?_)
  show wpAny _ _ (if ((b.size : Nat) : Int) < 0 then _ else _) _ _ _
  rw [if_neg (by omega)]
  show wpAny _ _ (if ((b.size : Nat) : Int) ≥ 2 ^ 63 then _ else _) _ _ _
  rw [if_neg (by omega)]
  exact wpAny_bind (wpAny_mkInt (wpAny_pure ⟨_, rfl, h⟩))

abbrev slObj (l u : Value) : Obj := { cls := .type "slice", data := .fields #[l, u, .none] }
theorem sl_type {h : Heap} {M : Model} {j : Addr} {l u : Value} (hs : h.get? j = some (slObj l u)) : Looks M h (typeOf (.ref j)) (.type "slice") := (Looks.ld (part := none) hs).andThen .now
theorem sl_field {h : Heap} {M : Model} {j : Addr} {l u x : Value} {i : Nat} (hs : h.get? j = some (slObj l u)) (e : (#[l, u, Value.none] : Array Value)[i]? = some x) : Looks M h (field (.ref j) i) x :=
  fun _ _ _ _ k q => wpAny_field (k _ _ hs) rfl e q
theorem parts_ba {h : Heap} {M : Model} {j : Addr} {lo hi : Int} {t u : Tok} (hs : h.get? j = some (slObj (.int lo t) (.int hi u))) : Looks M h (Builtin.Bytes.sliceParts (.ref j)) (rawInt lo, rawInt hi, .none) := by
  unfold Builtin.Bytes.sliceParts
  dsimp only
  refine (sl_field hs (x := .none) rfl).andThen ?_
  refine (Looks.of_pure (r := Value.none) rfl).andThen ?_
  refine (sl_field hs (x := .int lo t) rfl).andThen ?_
  have p : ∀ (i : Int) (t : Tok), Looks M h (do
    if ((Value.int i t) == Value.none) = true then return Value.none
    if (← specialOf (.int i t) "__index__").isNone then
      rule "bytes.slice.part-no-index"; raiseError "TypeError" "slice indices must be integers or None or have an __index__ method"
    return rawInt (← asIndex (.int i t))) (rawInt i) := fun i t => by
    refine Looks.of_pure ?_
    rw [FB.idx_int, FB.as_int]; rfl
  refine (p lo t).andThen ?_
  refine (sl_field hs (x := .int hi u) rfl).andThen ?_
  exact (p hi u).andThen .now
theorem fm_map {α β : Type} {f : α → Option β} {g : α → β} : ∀ {l : List α}, (∀ x ∈ l, f x = some (g x)) → l.filterMap f = l.map g
  | [], _ => rfl
  | x :: l, h => by rw [List.filterMap_cons, h x (.head _), List.map_cons, fm_map fun y hy => h y (.tail _ hy)]
theorem sliced_run (b : Array UInt8) (i j : Nat) (hj : j ≤ b.size) : Builtin.Bytes.sliced b (i : Int) (j : Int) 1 = b.extract i j := by
  unfold Builtin.Bytes.sliced
  rw [sliceRange_one]
  apply Array.toList_inj.mp
  rw [Array.toList_extract]
  apply List.ext_getElem?
  intro k
  rw [List.filterMap_map]
  have e : (List.range (j - i)).filterMap ((fun x => b[x]?) ∘ fun x => i + x) = (List.range (j - i)).map fun x => b.toList.getD (i + x) 0 := by
    refine fm_map fun x hx => ?_
    have hx' : i + x < b.size := by have := List.mem_range.mp hx; omega
    simp [hx']
  rw [e]
  simp only [List.getElem?_map, List.extract_eq_drop_take]
  by_cases hk : k < j - i
  · have : i + k < b.size := by omega
    simp [hk, this]
  · simp [hk]; omega
theorem get_ba {Q : Value → Shared → Prop} {j : Addr} {lo hi : Nat} {t u : Tok} (ho : s.heap.get? y = some (baObj b)) (hs : s.heap.get? j = some (slObj (.int lo t) (.int hi u))) (h1 : lo ≤ b.size) (h2 : hi ≤ b.size) (hb : b.size ≤ sizeLine)
    (h : Q (.ref s.heap.objs.size) { s with heap := s.heap.push (baObj (b.extract lo hi)) }) : wpAny (model prog w) A (getItem (.ref y) (.ref j)) Q E s := by
  unfold getItem
  refine wpAny_holding ?_
  refine wpAny_bind (wpAny_sequenceKey (ba_typeIs ho) (by decide) ?_)
  refine wpAny_bind (wpAny_callSpecial?_slot (name := Str.ofString "__getitem__") (ba_typeIs ho) FB.slot_get (wpAny_call_entry FB.slot_get (ba_typeIs ho) FB.entry_get ?_ (FB.args_get _ _)))
  unfold Builtin.«bytearray.__getitem__»
  refine wpAny_bind (wpAny_of_eq (a := (Value.ref y, [Value.ref j])) rfl ?_)
  dsimp only
  refine wpAny_bind (m := Builtin.Bytes.subscript? (.ref j)) ?_
  unfold Builtin.Bytes.subscript?
  refine wpAny_bind (((sl_type hs).andThen (Looks.of_pure FB.ty_slice)).here ?_)
  refine wpAny_pure ?_
  dsimp only
  refine wpAny_bind ((sl_type hs).here ?_)
  refine KTBy.if_not (by decide) ?_
  refine wpAny_bind ((parts_ba hs).here ?_)
  refine wpAny_bind ((ba_payload ho).here ?_)
  refine wpAny_bind (wpAny_of_eq (sliceIndices_raw (some (lo : Int)) (some (hi : Int)) none b.size (by simp)) ?_)
  have e : sliceBounds (some (lo : Int)) (some (hi : Int)) none b.size = ((lo : Int), (hi : Int), 1) := by
    simp only [sliceBounds, Option.getD_none, show (1 : Int) > 0 by decide, if_true, if_neg (show ¬ ((lo : Int) < 0) by omega), if_neg (show ¬ ((hi : Int) < 0) by omega)]
    congr 1
    · omega
    · congr 1; omega
  rw [e]
  dsimp only
  rw [sliced_run b lo hi h2]
  unfold Builtin.Bytes.newBytearray
  refine wpAny_bind (wpAny_newObj_type (wpAny_pure ⟨_, rfl, wpAny_pure h⟩) ?_)
  show (b.extract lo hi).size ≤ sizeLine
  rw [Array.size_extract]; omega
theorem slice_ba {value slice : Expr} {h₀ : Heap} {L : Addr} {m : Str → Option Value} {news : List (Addr × Obj)} {Q : Value → Shared → Prop} {lo hi : Nat} {t u : Tok} (F : Fr h₀ L s.heap m) (N : News h₀ L s.heap news) (hm : (y, baObj b) ∈ news) (h1 : lo ≤ b.size) (h2 : hi ≤ b.size) (hb : b.size ≤ sizeLine)
    (h : ∀ D h', Fr h₀ L h' m → News h₀ L h' ((D, baObj (b.extract lo hi)) :: news) → (∀ p ∈ news, p.1 < D) → Q (.ref D) { s with heap := h' })
    (hs : subscripted slice false (.ref y) (.ref s.heap.objs.size) = operate [.ref s.heap.objs.size, .ref y] (getItem (.ref y) (.ref s.heap.objs.size))) :
    wpAny (model prog w) A (subscriptTail value slice (.ref y) (.ref s.heap.objs.size)) Q E { s with heap := s.heap.push (slObj (.int (lo : Int) t) (.int (hi : Int) u)) } := by
  have ho : (s.heap.push (slObj (.int (lo : Int) t) (.int (hi : Int) u))).get? y = some (baObj b) := Heap.get?_push_of_some _ (N _ hm).1
  refine tail_any (ba_typeIs (s := { s with heap := s.heap.push (slObj (.int (lo : Int) t) (.int (hi : Int) u)) }) ho) FB.slot_get.lookup (get_ba ho (Heap.get?_push_size _ rfl) h1 h2 hb ?_) hs
  have N1 := News.push (F.push (slObj (.int (lo : Int) t) (.int (hi : Int) u))) (N.grown fun _ _ e => Heap.get?_push_of_some _ e) (baObj (b.extract lo hi))
  exact h _ _ ((F.push _).push _) N1 fun p hp => by
    show p.1 < (s.heap.push _).objs.size
    rw [Heap.size_push]
    exact Nat.lt_succ_of_lt (Heap.lt_size (N p hp).1)
theorem slice_baZ {value slice : Expr} {h₀ : Heap} {L : Addr} {m : Str → Option Value} {news : List (Addr × Obj)} {Q : Value → Shared → Prop} {lo hi : Int} {t u : Tok} (F : Fr h₀ L s.heap m) (N : News h₀ L s.heap news) (hm : (y, baObj b) ∈ news) (h0 : 0 ≤ lo) (h0' : 0 ≤ hi) (h1 : lo ≤ b.size) (h2 : hi ≤ b.size) (hb : b.size ≤ sizeLine)
    (h : ∀ D h', Fr h₀ L h' m → News h₀ L h' ((D, baObj (b.extract lo.toNat hi.toNat)) :: news) → (∀ p ∈ news, p.1 < D) → Q (.ref D) { s with heap := h' })
    (hs : subscripted slice false (.ref y) (.ref s.heap.objs.size) = operate [.ref s.heap.objs.size, .ref y] (getItem (.ref y) (.ref s.heap.objs.size))) :
    wpAny (model prog w) A (subscriptTail value slice (.ref y) (.ref s.heap.objs.size)) Q E { s with heap := s.heap.push (slObj (.int lo t) (.int hi u)) } := by
  obtain ⟨lo, rfl⟩ := Int.eq_ofNat_of_zero_le h0
  obtain ⟨hi, rfl⟩ := Int.eq_ofNat_of_zero_le h0'
  exact slice_ba F N hm (by omega) (by omega) hb h hs
theorem lk_bytes : typeLookup (.type "bytearray") "__bytes__" = pure none := by rw [typeLookup_type, builtinLookup_eq_fast]; kernel_rfl
theorem lk_index : typeLookup (.type "bytearray") "__index__" = pure none := by rw [typeLookup_type, builtinLookup_eq_fast]; kernel_rfl
theorem ba_asStr {h : Heap} {M : Model} (ho : h.get? y = some (baObj b)) : Looks M h (asStr? (.ref y)) none := by
  unfold asStr?
  exact (Looks.ld (part := none) ho).andThen .now
theorem ba_buffer {h : Heap} {M : Model} {id : String} {full : Bool} (ho : h.get? y = some (baObj b)) : Looks M h (Builtin.Bytes.buffer? id (.ref y) full) (some b) := by
  unfold Builtin.Bytes.buffer?
  refine (ba_special ho lk_buf).andThen ?_
  try dsimp only
  refine (ba_own ho lk_buf ends_buf own_buf).andThen ?_
  refine (ba_special ho lk_buf).andThen ?_
  try dsimp only
  refine (ba_rel ho).andThen ?_
  exact (ba_payload ho).andThen .now
theorem new_bytes {Q : Value → Shared → Prop} (ho : s.heap.get? y = some (baObj b)) (hb : b.size ≤ sizeLine)
    (h : Q (.bytes b s.toks) { s with toks := s.toks + 1 }) : codeAny (model prog w) A (.call (.builtin "bytes.__new__") ⟨[.type "bytes", .ref y], []⟩) (wants Q E) s := by
  refine codeAny_of_tree ?_
  show wpAny _ A.in1 (do checkBuiltinCall "bytes.__new__" ⟨[.type "bytes", .ref y], []⟩; again (.builtin "bytes.__new__" ⟨[.type "bytes", .ref y], []⟩)) _ _ s
  refine wpAny_bind (wpAny_of_eq (F.bm_newCall _) (wpAny_pure ⟨plainId_quiet F.bm_plain _, codeAny_builtin F.bm_entry ?_⟩))
  rw [Around.under_plainId F.bm_plain _]
  unfold Builtin.«bytes.__new__»
  refine wpAny_bind (wpAny_of_eq (a := true) rfl ?_)
  refine KTBy.if_not rfl ?_
  refine wpAny_bind (wpAny_of_eq F.bm_sub ?_)
  refine KTBy.if_not rfl ?_
  refine wpAny_bind (wpAny_of_eq (F.bm_bind _) ?_)
  refine wpAny_bind (wpAny_of_eq (a := ()) rfl ?_)
  refine wpAny_bind (wpAny_of_eq (a := ()) rfl ?_)
  refine KTBy.if_not rfl ?_
  refine wpAny_bind ((ba_special ho lk_bytes).here ?_)
  dsimp only
  refine wpAny_bind (wpAny_bind ((ba_asStr ho).here ?_))
  refine wpAny_pure ?_
  refine KTBy.if_not rfl ?_
  refine wpAny_bind ((ba_special ho lk_index).here ?_)
  refine bm_if_true rfl ?_
  refine wpAny_bind ?_
  refine (ba_buffer ho).here ?_
  refine wpAny_bind (wpAny_rule ?_)
  refine wpAny_bind (wpAny_mkBytes ?_ hb)
  exact wpAny_pure h
theorem bytes_ba {Q : Value → Shared → Prop} (ho : s.heap.get? y = some (baObj b)) (hb : b.size ≤ sizeLine)
    (h : Q (.bytes b s.toks) { s with toks := s.toks + 1 }) : wpAny (model prog w) A (call (.type "bytes") [.ref y]) Q E s := by
  refine callType_codes (Q₁ := fun obj s₁ => s₁.TypeIs obj "bytes" ∧ Q obj s₁) F.bm_called (F.bm_typeCall _) F.entry_object_init
    (new_bytes ho hb ⟨PySem.W.typeIs_bytes _ _ _, h⟩) fun obj s₁ h₁ => ?_
  exact ⟨h₁.1, F.args_object_init_2 obj _, object_init_meets F.bm_called.init.lookup F.bm_called.made (by decide) prog w A.in1 _ s₁ ⟨h₁.1, rfl, h₁.2⟩⟩
end
end Mine
end

section
open PySem PySem.W PySem.Calls PyProof.Rows
set_option maxRecDepth 100000
set_option maxHeartbeats 4000000
namespace Mine
def OffN (x dx y : Addr) (news : List (Addr × Obj)) : Prop := ∀ q ∈ news, q.1 ≠ x ∧ q.1 ≠ dx ∧ q.1 ≠ y
theorem OffN.x {x dx y : Addr} {news : List (Addr × Obj)} (h : OffN x dx y news) : ∀ q ∈ news, q.1 ≠ x := fun q hq => (h q hq).1
theorem OffN.d {x dx y : Addr} {news : List (Addr × Obj)} (h : OffN x dx y news) : ∀ q ∈ news, q.1 ≠ dx := fun q hq => (h q hq).2.1
theorem OffN.y {x dx y : Addr} {news : List (Addr × Obj)} (h : OffN x dx y news) : ∀ q ∈ news, q.1 ≠ y := fun q hq => (h q hq).2.2
theorem OffN.nil {x dx y : Addr} : OffN x dx y [] := fun _ h => nomatch h
theorem OffN.cons {x dx y z : Addr} {o : Obj} {news : List (Addr × Obj)} (h1 : z ≠ x) (h2 : z ≠ dx) (h3 : z ≠ y) (h : OffN x dx y news) : OffN x dx y ((z, o) :: news) := by
  intro q hq
  rcases List.mem_cons.mp hq with e | hq
  · rw [e]; exact ⟨h1, h2, h3⟩
  · exact h q hq
theorem allLt_mem {d : Addr} {l : List (Addr × Obj)} (h : AllLt d l) : ∀ p ∈ l, @LT.lt Nat _ p.1 d := by
  induction l with
  | nil => intro p hp; cases hp
  | cons q l ih =>
    intro p hp
    rcases List.mem_cons.mp hp with e | hp
    · rw [e]; exact h.1
    · exact ih h.2 p hp
theorem OffN.of {x dx y : Addr} {news : List (Addr × Obj)} (h1 : @LT.lt Nat _ dx x) (h2 : @LT.lt Nat _ x y) (h3 : AllLt dx news) : OffN x dx y news := fun q hq =>
  have h := allLt_mem h3 q hq
  ⟨Nat.ne_of_lt (Nat.lt_trans h h1), Nat.ne_of_lt h, Nat.ne_of_lt (Nat.lt_trans h (Nat.lt_trans h1 h2))⟩
local macro_rules | `(tactic| k_all) => `(tactic| first | exact OffN.x (by assumption) | exact OffN.d (by assumption) | exact OffN.y (by assumption))
theorem newsAt {h₀ h : Heap} {L a : Addr} {o : Obj} {news : List (Addr × Obj)} (N : News h₀ L h news) (hm : (a, o) ∈ news) : h.get? a = some o := (N _ hm).1
theorem rd1 {b : Array UInt8} {p n : Int} (h : (b.size : Int) ≤ p) : #[] = b.extract p.toNat (p + n).toNat := by
  apply Array.ext'
  rw [Array.toList_extract, List.extract_eq_take_drop, List.drop_of_length_le (by rw [Array.length_toList]; omega)]
  simp
theorem rd3 {b : Array UInt8} {p n : Int} (h : (b.size : Int) ≤ p + n) : b.extract p.toNat (b.size : Int).toNat = b.extract p.toNat (p + n).toNat := by
  apply Array.ext'
  rw [Array.toList_extract, Array.toList_extract, List.extract_eq_take_drop, List.extract_eq_take_drop, List.take_of_length_le (by simp), List.take_of_length_le (by simp; omega)]
theorem retR {Q : Value → Shared → Prop} {S : Shared} {b r : Array UInt8} {t : Tok} (h : Q (.bytes b t) S) (e : r = b) : Q (.bytes r t) S := e ▸ h
theorem c_read {w : World} {mean : ExcName → Option Value} {mg mb : Str → Option Value} {news : List (Addr × Obj)} (x dx y : Addr) (t1 t2 t3 t : Tok) (b : Array UInt8) (p n : Int) (hp : 0 ≤ p) (hn : 0 ≤ n) (hn2 : n ≤ 1099511627776) (hb : b.size ≤ sizeLine) (h1 : dx < x) (h2 : x < y) (h3 : OffN x dx y news)
   (dp un : Nat) (gd : Option (List Code)) (cn : Str) (nms : List (Str × NameKind)) (ig ic : Bool) (mr : List (Str × Const)) (a : Addr) (ccd : Value) (cl : List (Str × Addr)) (outer : List Env) (A₀ : Around) (base h₀ : Heap) (L : Addr) (m : Str → Option Value) (s : Shared) (Q E : Value → Shared → Prop)
   (B : Below A₀ base outer h₀) (F : Fr h₀ L s.heap m) (X : (Mine.hd.heap_39 w.params).In h₀) (N : News h₀ L s.heap ((x, instObj 329 dx) :: (dx, bioD w y p t1 t2 t3) :: (y, baObj b) :: news)) (T : Top Mine.hd.view_39 LS mean mg mb h₀) 
    (hd : dp + 20 < recursionLimit) (hu : un + 100 < cLine)
    (hret : ∀ p' t1 t2 t3 t h' tk', p' = max p (min (p + n) b.size) → Fr h₀ L h' m → News h₀ L h' ((x, instObj 329 dx) :: (dx, bioD w y p' t1 t2 t3) :: (y, baObj b) :: news) → Q (.bytes (b.extract p.toNat (p + n).toNat) t) { s with heap := h', toks := tk' }) :
      wpAny (model Challenge.rw_bd0009_01.row.prog w) (ktrTop dp un gd cn ⟨.function, nms, ig, ic, mr⟩ L a ccd cl outer) (call (.ref 253) [.ref x, .int n t]) Q E s := by
  k_with_none
  k_with "call builtin:len" => (k_here; (with_reducible show wpAny _ _ (call _ [Value.ref _]) _ _ _); k_dflt (refine' len_ba (newsAt ?zzkN ?zzkM) ?zzkB ?_; (case zzkN => k_asm); (case zzkM => k_mem); (case zzkB => assumption); k_whole))
  k_with "call type:bytes" => (k_here; (with_reducible show wpAny _ _ (call _ [Value.ref _]) _ _ _); k_dflt (refine' bytes_ba (newsAt ?zzkN ?zzkM) ?zzkB ?_; (case zzkN => k_asm); (case zzkM => k_mem); (case zzkB => first | assumption | (rw [Array.size_extract, sizeLine_eq] at *; omega)); k_whole))
  k_with "subscriptTail Name Slice ref ref" => (k_here; k_dflt (refine' slice_baZ ?zzk1 ?zzk2 ?zzk3 ?zzk4 ?zzk5 ?zzk6 ?zzk7 ?zzk8 ?_ ?zzk9; (case zzk1 | zzk2 => k_asm); (case zzk3 => k_mem); (case zzk4 | zzk5 | zzk6 | zzk7 => omega); (case zzk8 => assumption); (case zzk9 => with_unfolding_all rfl); k_whole; intro D' h' F' N' l1; (try k_lt l1); (try k_sweep)))
  have X0 := X
  revert X0
  k_fill
  intro _
  replace h1 := ltN h1
  replace h2 := ltN h2
  k_steps
  · exact retR (hret p _ _ _ _ _ _ (by omega) (by k_asm) (cb_drop (by assumption) (by kcj_all))) (rd1 (by omega))
  · exact hret (p + n) _ _ _ _ _ _ (by omega) (by k_asm) (cb_drop (by assumption) (by kcj_all))
  · exact retR (hret b.size _ _ _ _ _ _ (by omega) (by k_asm) (cb_drop (by assumption) (by kcj_all))) (rd3 (by omega))
end Mine
end

section
open PySem PySem.W PySem.Calls PyProof.Rows
set_option maxRecDepth 100000
set_option maxHeartbeats 4000000
namespace Mine
namespace FB
theorem slot_set : Slot "bytearray" "__setitem__" "bytearray.__setitem__" :=
  .of (owner := "bytearray") (n := "__setitem__") (by rw [typeLookup_type, builtinLookup_eq_fast]; kernel_rfl) (by decide +kernel) (by decide +kernel) (by decide +kernel)
    (by first | exact .inl (by decide +kernel) | exact .inr (by decide +kernel)) (by rw [isSubtype_type]; kernel_rfl)
theorem entry_set : entryFor table "bytearray.__setitem__" = some Builtin.«bytearray.__setitem__» := entryFor_of_fast (by kernel_rfl)
theorem args_set (a b c : Value) : argsOk "bytearray.__setitem__" ⟨[a, b, c], []⟩ := by unfold argsOk; kernel_rfl
theorem kind_set : builtinKind "bytearray.__setitem__" = some .slot := by decide +kernel
theorem split_set : splitId "bytearray.__setitem__" = some ("bytearray", "__setitem__") := by decide +kernel
theorem notBA (b : Array UInt8) (t : Tok) : isInstance (.bytes b t) (.type "bytearray") = pure false := by
  show isSubtype (.type "bytes") (.type "bytearray") = pure false
  rw [isSubtype_type]; kernel_rfl
theorem notCx (b : Array UInt8) (t : Tok) : isInstance (.bytes b t) (.type "complex") = pure false := by
  show isSubtype (.type "bytes") (.type "complex") = pure false
  rw [isSubtype_type]; kernel_rfl
theorem int_bytes (b : Array UInt8) (t : Tok) : specialOf (.bytes b t) "__int__" = pure none := by
  show typeLookup (.type "bytes") "__int__" = _
  rw [typeLookup_type, builtinLookup_eq_fast]; kernel_rfl
theorem float_bytes (b : Array UInt8) (t : Tok) : specialOf (.bytes b t) "__float__" = pure none := by
  show typeLookup (.type "bytes") "__float__" = _
  rw [typeLookup_type, builtinLookup_eq_fast]; kernel_rfl
end FB
section
variable {prog : Program} {w : World} {A : Around} {E : Value → Shared → Prop} {s : Shared} {y : Addr} {c : Array UInt8}
theorem nSetTree {h₀ : Heap} {L j x dx : Addr} {ox od : Obj} {m : Str → Option Value} {news : List (Addr × Obj)} {Q : PySem.Fin → Shared → Prop} {b : Array UInt8} {t tl th : Tok} {lo hi : Int} (F : Fr h₀ L s.heap m)
    (N : News h₀ L s.heap ((x, ox) :: (dx, od) :: (y, baObj c) :: news)) (hm : (j, slObj (.int lo tl) (.int hi th)) ∈ news) (e1 : x ≠ y) (e2 : dx ≠ y) (e3 : ∀ p ∈ news, p.1 ≠ y) (hlo : lo = c.size) (hhi : lo ≤ hi) (hz : c.size + b.size ≤ sizeLine)
    (h : ∀ h', Fr h₀ L h' m → News h₀ L h' ((x, ox) :: (dx, od) :: (y, baObj (c ++ b)) :: news) → Q (.done (.ret .none)) { s with heap := h' }) :
    wpN (model prog w) A (Builtin.«bytearray.__setitem__» ⟨[.ref y, .ref j, .bytes b t], []⟩) Q E s := by
  have ho : s.heap.get? y = some (baObj c) := (N _ (.tail _ (.tail _ (.head _)))).1
  have hj : s.heap.get? j = some (slObj (.int lo tl) (.int hi th)) := (N _ (.tail _ (.tail _ (.tail _ hm)))).1
  have hsub : Looks (model prog w) s.heap (Builtin.Bytes.subscript? (.ref j)) none := by
    unfold Builtin.Bytes.subscript?
    exact ((sl_type hj).andThen (Looks.of_pure FB.ty_slice)).andThen .now
  unfold Builtin.«bytearray.__setitem__»
  refine nIfF rfl ?_
  dsimp only
  refine nLook hsub ?_
  refine nLook (sl_type hj) ?_
  refine nIfF (by decide) ?_
  refine nLook (parts_ba hj) ?_
  refine nIfF rfl ?_
  refine nEq (FB.notBA _ _) ?_
  refine nIfT rfl ?_
  refine nEq (a := false) (by rw [FB.idx_bytes, FB.int_bytes, FB.float_bytes, FB.notCx]; rfl) ?_
  refine nEq (FB.str_bytes _ _) ?_
  refine nIfF rfl ?_
  refine nBind (nRule ?_)
  refine nBind (nBA1 (by omega) F N fun D h' F' N' lt => ?_)
  have hj' : h'.get? j = some (slObj (.int lo tl) (.int hi th)) := (N' _ (.tail _ (.tail _ (.tail _ (.tail _ hm))))).1
  have hD : h'.get? D = some (baObj b) := (N' _ (.head _)).1
  have hy : h'.get? y = some (baObj c) := (N' _ (.tail _ (.tail _ (.tail _ (.head _))))).1
  have ne : D ≠ y := fun e => by have := lt (y, baObj c) (.tail _ (.tail _ (.head _))); rw [e] at this; exact absurd this (Nat.lt_irrefl _)
  refine nBind (nHolding (nOf ((parts_ba hj').here ?_)))
  refine nLook (s := { s with heap := h' }) (ba_payload hD) ?_
  refine nLook (s := { s with heap := h' }) (ba_payload hy) ?_
  refine nEq (sliceIndices_raw (some lo) (some hi) none c.size (by simp)) ?_
  have e : sliceBounds (some lo) (some hi) none c.size = ((c.size : Int), (c.size : Int), 1) := by
    simp only [sliceBounds, Option.getD_none, show (1 : Int) > 0 by decide, if_true, if_neg (show ¬ (lo < 0) by omega), if_neg (show ¬ (hi < 0) by omega)]
    congr 1
    · omega
    · congr 1; omega
  rw [e]
  dsimp only
  refine nIfT rfl ?_
  refine nBind (nRule ?_)
  have fe : ∀ k, c.extract 0 (c.size : Int).toNat ++ b ++ c.extract (max (c.size : Int) (c.size : Int)).toNat k = c ++ b := fun k => by
    apply Array.ext'
    simp
  have fin : wpN (model prog w) A (do
      Builtin.Bytes.write (.ref y) fun x => x.extract 0 (c.size : Int).toNat ++ b ++ x.extract (max (c.size : Int) (c.size : Int)).toNat x.size
      ret Value.none) Q E { s with heap := h' } := by
    refine aBind (ba_write (s := { s with heap := h' }) hy (by rw [fe, Array.size_append]; exact hz) fun hu => ?_)
    have U := news_upd (pre := [(D, baObj b), (x, ox), (dx, od)]) (post := news) (d := y) (o := baObj c) (o' := baObj (c ++ b)) (f := Obj.mapBytearray fun x => x.extract 0 (c.size : Int).toNat ++ b ++ x.extract (max (c.size : Int) (c.size : Int)).toNat x.size) F' N'
      (fun p hp => by
        rcases List.mem_cons.mp hp with rfl | hp
        · exact ne
        rcases List.mem_cons.mp hp with rfl | hp
        · exact e1
        · rw [List.mem_singleton.mp hp]; exact e2) e3 (by show baObj (_ ++ b ++ _) = _; rw [fe]) rfl
    exact nPure (h _ U.1 fun p hp => U.2 p (.tail _ hp))
  by_cases hq : ((b.size : Int) != max (c.size : Int) (c.size : Int) - (c.size : Int)) = true
  · refine nIfT hq ?_
    exact nBind (nResize (s := { s with heap := h' }) hy fin)
  · exact nIfF (by simpa using hq) fin
theorem nSet {h₀ : Heap} {L x dx : Addr} {ox od : Obj} {m : Str → Option Value} {news : List (Addr × Obj)} {Q : Unit → Shared → Prop} {b : Array UInt8} {t tl th : Tok} {lo hi : Int} (F : Fr h₀ L s.heap m)
    (N : News h₀ L s.heap ((x, ox) :: (dx, od) :: (y, baObj c) :: news)) (e1 : x ≠ y) (e2 : dx ≠ y) (e3 : ∀ p ∈ news, p.1 ≠ y) (hlo : lo = c.size) (hhi : lo ≤ hi) (hz : c.size + b.size ≤ sizeLine)
    (h : ∀ h', Fr h₀ L h' m → News h₀ L h' ((x, ox) :: (dx, od) :: (y, baObj (c ++ b)) :: news) → Q () { s with heap := h' }) :
    wpN (model prog w) A (setItem (.ref y) (.ref s.heap.objs.size) (.bytes b t)) Q E { s with heap := s.heap.push (slObj (.int lo tl) (.int hi th)) } := by
  have F1 := F.push (slObj (.int lo tl) (.int hi th))
  have N1 := N.push F (slObj (.int lo tl) (.int hi th))
  have N2 : News h₀ L (s.heap.push (slObj (.int lo tl) (.int hi th))) ((x, ox) :: (dx, od) :: (y, baObj c) :: (s.heap.objs.size, slObj (.int lo tl) (.int hi th)) :: news) := fun p hp => N1 p (by
    simp only [List.mem_cons] at hp ⊢
    rcases hp with h | h | h | h | h <;> simp [h])
  have ho : (s.heap.push (slObj (.int lo tl) (.int hi th))).get? y = some (baObj c) := (N2 _ (.tail _ (.tail _ (.head _)))).1
  have hyl : s.heap.objs.size ≠ y := fun e => by
    have := Heap.lt_size (N (y, baObj c) (.tail _ (.tail _ (.head _)))).1
    rw [← e] at this
    exact absurd this (Nat.lt_irrefl _)
  unfold setItem
  refine nHolding ?_
  refine aBind (wpAny_sequenceKey (s := { s with heap := s.heap.push (slObj (.int lo tl) (.int hi th)) }) (ba_typeIs ho) (by decide) ?_)
  refine nBind ?_
  unfold callSpecial?
  refine nLook (s := { s with heap := s.heap.push (slObj (.int lo tl) (.int hi th)) }) (ba_special ho FB.slot_set.lookup) ?_
  refine nHolding ?_
  refine nEq (FB.slot_set.bind _) ?_
  refine nBind (nCall (cOfTree rfl ?_))
  show wpN _ _ (do checkBuiltinCall "bytearray.__setitem__" ⟨[.ref y, .ref s.heap.objs.size, .bytes b t], []⟩; again (.builtin "bytearray.__setitem__" ⟨[.ref y, .ref s.heap.objs.size, .bytes b t], []⟩)) _ _ _
  refine aBind ?_
  refine check_slot (i := "bytearray.__setitem__") (owner := "bytearray") (n := "__setitem__") (self := .ref y) (rest := [.ref s.heap.objs.size, .bytes b t]) (kw := []) FB.kind_set FB.split_set ?hi1 ?ha1 ?_
  case hi1 => exact ba_inst ho
  case ha1 => exact FB.args_set _ _ _
  refine nPure ⟨Code.quiet_builtin _ (by decide +kernel), cBuiltin (bad_ok (by decide) (by decide)) FB.entry_set ?_⟩
  refine nSetTree (s := { s with heap := s.heap.push (slObj (.int lo tl) (.int hi th)) }) F1 N2 (.head _) e1 e2 ?_ hlo hhi hz fun h' F' N' => ?_
  · intro p hp
    rcases List.mem_cons.mp hp with rfl | hp
    · exact hyl
    · exact e3 p hp
  · refine nPure (nPure ?_)
    refine h _ F' fun p hp => N' p ?_
    simp only [List.mem_cons] at hp ⊢
    rcases hp with h | h | h | h <;> simp [h]
end
end Mine
end

section
open PySem PySem.W PySem.Calls PyProof.Rows
set_option maxRecDepth 100000
set_option maxHeartbeats 4000000
namespace Mine
local macro_rules | `(tactic| k_all) => `(tactic| first | exact OffN.x (by assumption) | exact OffN.d (by assumption) | exact OffN.y (by assumption))
theorem c_value {w : World} {mean : ExcName → Option Value} {mg mb : Str → Option Value} {news : List (Addr × Obj)} (x dx y : Addr) (t1 t2 t3 : Tok) (b : Array UInt8) (p : Int) (hb : b.size ≤ sizeLine) (h1 : dx < x) (h2 : x < y) (h3 : OffN x dx y news)
   (dp un : Nat) (gd : Option (List Code)) (cn : Str) (nms : List (Str × NameKind)) (ig ic : Bool) (mr : List (Str × Const)) (a : Addr) (ccd : Value) (cl : List (Str × Addr)) (outer : List Env) (A₀ : Around) (base h₀ : Heap) (L : Addr) (m : Str → Option Value) (s : Shared) (Q E : Value → Shared → Prop)
   (B : Below A₀ base outer h₀) (F : Fr h₀ L s.heap m) (X : (Mine.hd.heap_39 w.params).In h₀) (N : News h₀ L s.heap ((x, instObj 329 dx) :: (dx, bioD w y p t1 t2 t3) :: (y, baObj b) :: news)) (T : Top Mine.hd.view_39 LS mean mg mb h₀) 
    (hd : dp + 20 < recursionLimit) (hu : un + 100 < cLine)
    (hret : ∀ t h' tk', Fr h₀ L h' m → News h₀ L h' ((x, instObj 329 dx) :: (dx, bioD w y p t1 t2 t3) :: (y, baObj b) :: news) → Q (.bytes b t) { s with heap := h', toks := tk' }) :
      wpAny (model Challenge.rw_bd0009_01.row.prog w) (ktrTop dp un gd cn ⟨.function, nms, ig, ic, mr⟩ L a ccd cl outer) (call (.ref 215) [.ref x]) Q E s := by
  k_with_none
  k_with "n enter" => (refine' cDef ?zzk1 ?zzk2 ?zzk3 ?zzk4 ?zzk5 ?zzkA ?zzkF ?zzkK ?zzk6 ?zzk7 ?zzk8 ?zzk9 ?zzkB ?_ ?zzc2 ?zzc3 ?zzc4 ?zzc5; (case zzkA | zzkF | zzkK => exact rfl); (case zzk1 | zzk2 | zzk3 | zzk4 | zzk5 => k_asm); (case zzk6 | zzk7 => k_is); (case zzk8 => k_room); (case zzk9 => first | exact BindsTo.of_eq rfl | exact binds_K (by k_in) rfl (by k_is) rfl rfl rfl); (case zzc5 => decide); (case zzkB => exact locs rfl); (case zzc2 | zzc3 | zzc4 => exact rfl); intro g' L' h' FG' F' N' B' X' T'; (try dsimp only))
  k_with "call type:type" => ((with_reducible show wpAny _ _ (call _ [Value.bytes _ _]) _ _ _); refine call_type_of (Tx := "bytes") rfl (by decide +kernel) ?_)
  k_with "call builtin:len" => (k_here; (with_reducible show wpAny _ _ (call _ [Value.ref _]) _ _ _); k_dflt (refine' len_ba (newsAt ?zzkN ?zzkM) ?zzkB ?_; (case zzkN => k_asm); (case zzkM => k_mem); (case zzkB => assumption); k_whole))
  k_with "call type:bytes" => (k_here; (with_reducible show wpAny _ _ (call _ [Value.ref _]) _ _ _); k_dflt (refine' bytes_ba (newsAt ?zzkN ?zzkM) ?zzkB ?_; (case zzkN => k_asm); (case zzkM => k_mem); (case zzkB => first | assumption | (rw [Array.size_extract, sizeLine_eq] at *; omega)); k_whole))
  have X0 := X
  revert X0
  k_fill
  intro _
  replace h1 := ltN h1
  replace h2 := ltN h2
  k_steps
  exact hret _ _ _ (by k_asm) (cb_drop (by assumption) (by kcj_all))
theorem retW {Q : Value → Shared → Prop} {S : Shared} {i j : Int} {t : Tok} (h : Q (.int j t) S) (e : i = j) : Q (.int i t) S := by subst e; exact h
theorem bio_nil {h₀ h : Heap} {L x dx y : Addr} {ox od : Obj} {news : List (Addr × Obj)} {c b : Array UInt8} (e : b.size = 0) (N : News h₀ L h ((x, ox) :: (dx, od) :: (y, baObj c) :: news)) : News h₀ L h ((x, ox) :: (dx, od) :: (y, baObj (c ++ b)) :: news) := by
  have eb : c ++ b = c := by rw [Array.eq_empty_of_size_eq_zero e, Array.append_empty]
  rw [eb]; exact N
theorem c_write {w : World} {mean : ExcName → Option Value} {mg mb : Str → Option Value} {news : List (Addr × Obj)} (x dx y : Addr) (t1 t2 t3 t : Tok) (c b : Array UInt8) (p : Int) (hp : p = c.size) (hb : c.size + b.size ≤ sizeLine) (h1 : dx < x) (h2 : x < y) (h3 : OffN x dx y news)
   (dp un : Nat) (gd : Option (List Code)) (cn : Str) (nms : List (Str × NameKind)) (ig ic : Bool) (mr : List (Str × Const)) (a : Addr) (ccd : Value) (cl : List (Str × Addr)) (outer : List Env) (A₀ : Around) (base h₀ : Heap) (L : Addr) (m : Str → Option Value) (s : Shared) (Q E : Value → Shared → Prop)
   (B : Below A₀ base outer h₀) (F : Fr h₀ L s.heap m) (X : (Mine.hd.heap_39 w.params).In h₀) (N : News h₀ L s.heap ((x, instObj 329 dx) :: (dx, bioD w y p t1 t2 t3) :: (y, baObj c) :: news)) (T : Top Mine.hd.view_39 LS mean mg mb h₀) 
    (hd : dp + 20 < recursionLimit) (hu : un + 100 < cLine)
    (hret : ∀ p' t1 t2 t3 t h' tk', p' = p + b.size → Fr h₀ L h' m → News h₀ L h' ((x, instObj 329 dx) :: (dx, bioD w y p' t1 t2 t3) :: (y, baObj (c ++ b)) :: news) → Q (.int b.size t) { s with heap := h', toks := tk' }) :
      wpN (model Challenge.rw_bd0009_01.row.prog w) (ktrTop dp un gd cn ⟨.function, nms, ig, ic, mr⟩ L a ccd cl outer) (call (.ref 312) [.ref x, .bytes b t]) Q E s := by
  k_with_none
  k_with "n enter" => (refine' cDef ?zzk1 ?zzk2 ?zzk3 ?zzk4 ?zzk5 ?zzkA ?zzkF ?zzkK ?zzk6 ?zzk7 ?zzk8 ?zzk9 ?zzkB ?_ ?zzc2 ?zzc3 ?zzc4 ?zzc5; (case zzkA | zzkF | zzkK => exact rfl); (case zzk1 | zzk2 | zzk3 | zzk4 | zzk5 => k_asm); (case zzk6 | zzk7 => k_is); (case zzk8 => k_room); (case zzk9 => first | exact BindsTo.of_eq rfl | exact binds_K (by k_in) rfl (by k_is) rfl rfl rfl); (case zzc5 => decide); (case zzkB => exact locs rfl); (case zzc2 | zzc3 | zzc4 => exact rfl); intro g' L' h' FG' F' N' B' X' T'; (try dsimp only))
  k_with "call type:type" => ((with_reducible show wpAny _ _ (call _ [Value.bytes _ _]) _ _ _); refine call_type_of (Tx := "bytes") rfl (by decide +kernel) ?_)
  k_with "call builtin:len" => (k_here; (with_reducible show wpAny _ _ (call _ [Value.ref _]) _ _ _); k_dflt (refine' len_ba (newsAt ?zzkN ?zzkM) ?zzkB ?_; (case zzkN => k_asm); (case zzkM => k_mem); (case zzkB => assumption); k_whole))
  k_with "call type:bytes" => (k_here; (with_reducible show wpAny _ _ (call _ [Value.ref _]) _ _ _); k_dflt (refine' bytes_ba (newsAt ?zzkN ?zzkM) ?zzkB ?_; (case zzkN => k_asm); (case zzkM => k_mem); (case zzkB => first | assumption | (rw [Array.size_extract, sizeLine_eq] at *; omega)); k_whole))
  k_with "call builtin:len" => ((with_reducible show wpAny _ _ (call _ [Value.bytes _ _]) _ _ _); refine len_bytes (by omega) ?_)
  have X0 := X
  revert X0
  k_fill
  intro _
  replace h1 := ltN h1
  replace h2 := ltN h2
  have hc : c.size ≤ sizeLine := by omega
  have hbb : b.size ≤ sizeLine := by omega
  have hz9 := sizeLine_eq
  refine nCall ?_
  walk_at "n enter"
  repeat' (first | (refine nExecsCons (nAssignSub ?_); k_steps) | (refine nExecsCons (nOf ?_); k_steps))
  · exact retW (hret p _ _ _ _ _ _ (by omega) (by k_asm) (bio_nil (by omega) (cb_drop (by assumption) (by kcj_all)))) (by omega)
  · refine nSet (by k_asm) (by k_asm) ?e1 ?e2 ?e3 ?e4 ?e5 ?e6 ?_
    case e1 => exact Nat.ne_of_lt h2
    case e2 => exact Nat.ne_of_lt (Nat.lt_trans h1 h2)
    case e3 => exact h3.y
    case e4 => exact hp
    case e5 => omega
    case e6 => exact hb
    intro h' F' N'
    (try k_sweep)
    dsimp only
    refine nOf ?_
    k_steps
    exact hret _ _ _ _ _ _ _ rfl (by k_asm) (cb_drop (by assumption) (by kcj_all))
end Mine
end

section
open PySem PySem.W PySem.Calls PyProof.Rows
namespace Mine
section
variable {prog : Program} {w : World} {A : Around} {E : Value → Shared → Prop} {env : Env} {test : PySem.Expr} {body orelse : List Stmt} {Q : Flow → Shared → Prop}
/-- what a turn of a while leaves -/
def WhlNext (I : Nat → Shared → Prop) (n : Nat) (Q : Flow → Shared → Prop) (f : Flow) (s : Shared) : Prop :=
  match f with
  | .next => ∃ k, k < n ∧ I k s
  | .cont => ∃ k, k < n ∧ I k s
  | .brk => Q .next s
  | .ret v => Q (.ret v) s
/-- a while by what stands between its turns -/
theorem whl_inv (I : Nat → Shared → Prop) (hE : PassesOwn (model prog w) A env E)
    (step : ∀ n s, I n s → wpAny (model prog w) A (isTrue test env (eval test env)) (fun b s₂ => WhlIf b (wpAny (model prog w) A (execs body env) (WhlNext I n Q) E s₂) (wpAny (model prog w) A (execs orelse env) Q E s₂)) E s)
    (n : Nat) (s : Shared) {pos : Pos} (h : I n s) : wpAny (model prog w) A (exec (.While test body orelse pos) env) Q E s := by
  have key : ∀ n s, I n s → WhlRest prog w A E env test body orelse Q 0 s := by
    intro n
    induction n using Nat.strongRecOn with
    | ind n ih =>
      intro s h
      refine whl_turn (k := 0) hE (wpAny_mono (step n s h) (fun b s₂ hb => ?_) (fun _ _ x => x))
      cases b with
      | false => exact hb
      | true =>
        refine WhlIf.yes rfl (wpAny_mono (show wpAny _ _ _ _ _ _ from hb) (fun f s₃ h₃ => ?_) (fun _ _ x => x))
        cases f with
        | next => exact h₃.elim fun k z => ih k z.1 _ z.2
        | cont => exact h₃.elim fun k z => ih k z.1 _ z.2
        | brk => exact h₃
        | ret v => exact h₃
  exact whl_start 0 (key n s h)
end
end Mine
end

section
open PySem PySem.W PyProof.Rows
set_option maxRecDepth 100000
set_option maxHeartbeats 4000000
namespace Mine
def enc (i : Int) : List UInt8 := if i < 253 then le 1 i else if i < 65536 then 253 :: le 2 i else if i < 4294967296 then 254 :: le 4 i else 255 :: le 8 i
theorem sh_no {x D K : Int} (e : D = K) (h0 : 0 ≤ x) (h1 : x < K) : (x.fdiv D != 0) = false := by
  subst e
  rw [Int.fdiv_eq_ediv_of_nonneg _ (by omega), Int.ediv_eq_zero_of_lt h0 h1]; rfl
theorem sh_yes {x D K : Int} (e : D = K) (h0 : 0 < K) (h1 : K ≤ x) : (x.fdiv D != 0) = true := by
  subst e
  rw [Int.fdiv_eq_ediv_of_nonneg _ (by omega)]
  have h2 : 1 ≤ x / D := (Int.le_ediv_iff_mul_le h0).mpr (by omega)
  have h3 : x / D ≠ 0 := by omega
  exact bne_iff_ne.mpr h3
theorem enc1 {x : Int} (h0 : 0 ≤ x) (h : x < 253) : #[x.toNat.toUInt8] = (enc x).toArray := by
  have e : x / 256 ^ 0 % 256 = x := by rw [Int.pow_zero, Int.ediv_one]; omega
  unfold enc; rw [if_pos h]; simp only [le, List.range_succ, List.range_zero, List.nil_append, List.map_cons, List.map_nil]; rw [e]
theorem enc2 {x : Int} (h : 253 ≤ x) (h' : x < 65536) : #[(253 : UInt8)] ++ (le 2 x).toArray = (enc x).toArray := by
  unfold enc; rw [if_neg (by omega), if_pos h']; simp
theorem enc4 {x : Int} (h : 65536 ≤ x) (h' : x < 4294967296) : #[(254 : UInt8)] ++ (le 4 x).toArray = (enc x).toArray := by
  unfold enc; rw [if_neg (by omega), if_neg (by omega), if_pos h']; simp
theorem enc8 {x : Int} (h : 4294967296 ≤ x) : #[(255 : UInt8)] ++ (le 8 x).toArray = (enc x).toArray := by
  unfold enc; rw [if_neg (by omega), if_neg (by omega), if_neg (by omega)]; simp
def StopZ (p : Prop) : Prop := p
theorem stopZ {p : Prop} (h : StopZ p) : p := h
theorem whl_split {x D K : Int} {T F : Prop} (e : D = K) (hK : 0 < K) (h0 : 0 ≤ x) (yes : K ≤ x → T) (no : x < K → StopZ F) : WhlIf (x.fdiv D != 0) T F := by
  by_cases h : x < K
  · exact WhlIf.no (sh_no e h0 h) (no h)
  · exact WhlIf.yes (sh_yes e hK (Int.not_lt.mp h)) (yes (Int.not_lt.mp h))
/-- the powers that a turn of the loop over `order` asks -/
def PowIs (j P : Int) : Prop := ∀ k : Int, k = j → 0 ≤ k ∧ k ≤ 1000000 ∧ (2:Int)^k.toNat = P
def Low (j x : Int) : Prop := (j = 0 ∧ 0 ≤ x) ∨ (j = 1 ∧ 256 ≤ x) ∨ (j = 2 ∧ 65536 ≤ x) ∨ (j = 3 ∧ 4294967296 ≤ x) ∨ (j = 4 ∧ 18446744073709551616 ≤ x)
def Ends (j x : Int) : Prop := (j = 0 ∧ 0 ≤ x ∧ x < 256) ∨ (j = 1 ∧ 256 ≤ x ∧ x < 65536) ∨ (j = 2 ∧ 65536 ≤ x ∧ x < 4294967296) ∨ (j = 3 ∧ 4294967296 ≤ x ∧ x < 18446744073709551616) ∨ (j = 4 ∧ 18446744073709551616 ≤ x)
theorem Low.le {j x : Int} (h : Low j x) : j ≤ 4 := by
  rcases h with ⟨rfl, _⟩ | ⟨rfl, _⟩ | ⟨rfl, _⟩ | ⟨rfl, _⟩ | ⟨rfl, _⟩ <;> decide
theorem Low.turn {j x : Int} (h : Low j x) (h0 : 0 ≤ x) (hx : x < 340282366920938463463374607431768211456) : ∃ P K : Int, PowIs j P ∧ 0 ≤ P ∧ P ≤ 16 ∧ (2:Int) ^ (8 * P).toNat = K ∧ 0 < K ∧ (K ≤ x → Low (j + 1) x) ∧ (x < K → Ends j x) := by
  rcases h with ⟨rfl, h⟩ | ⟨rfl, h⟩ | ⟨rfl, h⟩ | ⟨rfl, h⟩ | ⟨rfl, h⟩
  · exact ⟨1, 256, fun k hk => by subst hk; decide, by decide, by decide, by decide, by decide, fun h => .inr (.inl ⟨rfl, h⟩), fun k => .inl ⟨rfl, h, k⟩⟩
  · exact ⟨2, 65536, fun k hk => by subst hk; decide, by decide, by decide, by decide, by decide, fun h => .inr (.inr (.inl ⟨rfl, h⟩)), fun k => .inr (.inl ⟨rfl, h, k⟩)⟩
  · exact ⟨4, 4294967296, fun k hk => by subst hk; decide, by decide, by decide, by decide, by decide, fun h => .inr (.inr (.inr (.inl ⟨rfl, h⟩))), fun k => .inr (.inr (.inl ⟨rfl, h, k⟩))⟩
  · exact ⟨8, 18446744073709551616, fun k hk => by subst hk; decide, by decide, by decide, by decide, by decide, fun h => .inr (.inr (.inr (.inr ⟨rfl, h⟩))), fun k => .inr (.inr (.inr (.inl ⟨rfl, h, k⟩)))⟩
  · exact ⟨16, 340282366920938463463374607431768211456, fun k hk => by subst hk; decide, by decide, by decide, by decide, by decide, fun h => absurd (Int.lt_of_le_of_lt h hx) (Int.lt_irrefl _), fun _ => .inr (.inr (.inr (.inr ⟨rfl, h⟩)))⟩
theorem pow_at {prog : Program} {w : World} {A : Around} {Q E : Value → Shared → Prop} {s : Shared} {j r : Int} {t u : Tok} (h : PowIs j r) (hq : Q (.int r s.toks) { s with toks := s.toks + 1 }) : wpAny (model prog w) A (binaryOp .Pow (.int 2 t) (.int j u)) Q E s := by
  obtain ⟨a, b, c⟩ := h j rfl
  exact pow_int_small a b (by decide) (by rw [c]; exact hq)
/-- how it stands between two turns of the loop over `order` -/
inductive InvO (g : Heap) (L : Addr) (news : List (Addr × Obj)) (s : Shared) (x : Int) (t : Tok) (n : Nat) : Shared → Prop
  | mk (h' : Heap) (tk : Nat) (m' : Str → Option Value) (j : Int) (t' : Tok) (F : Fr g L h' m') (N : News g L h' news) (m1 : m' (Str.ofString "i") = some (.int x t)) (m2 : m' (Str.ofString "order") = some (.int j t'))
      (hn : j + (n : Int) = 5) (low : Low j x) : InvO g L news s x t n { s with heap := h', toks := tk }
theorem c_to {w : World} {mean : ExcName → Option Value} {mg mb : Str → Option Value} {news : List (Addr × Obj)} (x : Int) (tx : Tok) (p1 : 0 ≤ x) (p2 : x < 18446744073709551616) :
    PC w mean mg mb 28 news [] [.int x tx] (fun t => .bytes (enc x).toArray t) := by
  k_with_none
  k_with "exec While" => (refine stopZ ?_)
  dsimp only [PC, CbLists, CbRet]
  k_fill
  intro dp un gd cn nms ig ic mr a ccd cl outer A₀ base h₀ L m s Q E B F X N T hd hu hret
  refine wpAny_call ?_
  k_enter
  k_steps
  rename Fr _ _ _ _ => FZ
  rename News _ _ _ _ => NZ
  k_with_none
  k_with "eval Name" => (k_here; k_dflt (refine' ld ?zzk1 ?zzk2 ?_; (case zzk1 => k_asm); (case zzk2 => first | exact rfl | assumption); k_whole))
  k_with "loadName" => (k_here; k_dflt (refine' wpAny_loadName_local (by rfl) (by rfl) ?zzk0 ?zzk2 ?_; (case zzk0 => exact Fr.ns (by k_asm)); (case zzk2 => assumption); k_whole))
  k_with "binaryOp Pow int int" => (k_here; refine pow_at (by assumption) ?_)
  k_with "binaryOp RShift int int" => (refine rshift_int (by omega) ?_)
  k_with "WhlIf" => (refine whl_split (by assumption) (by assumption) (by assumption) ?_ ?_)
  refine (whl_inv (InvO _ _ news s x tx) ?hE ?step 5 _ (InvO.mk _ _ _ 0 _ FZ NZ (by kernel_rfl) (if_pos rfl) rfl (.inl ⟨rfl, p1⟩)) : StopZ _)
  case hE => first | passes_own | with_unfolding_all passes_own
  case step =>
    rintro n _ ⟨h', tk', m', j, t', F', N', m1, m2, hn, low⟩
    obtain ⟨P, K, hP, P0, P1, hK, K0, up, down⟩ := low.turn p1 (Int.lt_trans p2 (by decide))
    k_steps
    · rename Fr _ _ _ _ => FY
      rename News _ _ _ _ => NY
      rename K ≤ x => hx
      have hj := low.le
      exact ⟨n - 1, by omega, InvO.mk _ _ _ (j + 1) _ FY NY ((if_neg (by decide +kernel)).trans m1) (if_pos rfl) (by omega) (up hx)⟩
    · rename x < K => hx
      replace down := down hx
      clear up hP P0 P1 hK K0 hx low
      k_with_none
      k_with "eval Name" => (k_here; k_dflt (refine' ld ?zzk1 ?zzk2 ?_; (case zzk1 => k_asm); (case zzk2 => first | exact rfl | assumption); k_whole))
      k_with "call builtin:int.to_bytes" => (refine toLittle (by decide) (by decide) (by omega) (by first | exact Int.lt_of_lt_of_le (b := 65536) (by omega) (by decide) | exact Int.lt_of_lt_of_le (b := 4294967296) (by omega) (by decide) | exact Int.lt_of_lt_of_le (b := 18446744073709551616) (by omega) (by decide)) ?_; intro _ _)
      rcases down with ⟨rfl, q1, q2⟩ | ⟨rfl, q1, q2⟩ | ⟨rfl, q1, q2⟩ | ⟨rfl, q1, q2⟩ | ⟨rfl, q1⟩
      all_goals unfold StopZ
      all_goals first | (exfalso; omega) | k_steps
      all_goals first
        | exact retB hret (enc1 (by omega) (by omega)) (by k_asm) (by first | k_asm | (refine' cb_drop ?cbN ?cbS; (case cbN => assumption); (case cbS => kcj_all)))
        | exact retB hret (enc2 (by omega) (by omega)) (by k_asm) (by first | k_asm | (refine' cb_drop ?cbN ?cbS; (case cbN => assumption); (case cbS => kcj_all)))
        | exact retB hret (enc4 (by omega) (by omega)) (by k_asm) (by first | k_asm | (refine' cb_drop ?cbN ?cbS; (case cbN => assumption); (case cbS => kcj_all)))
        | exact retB hret (enc8 (by omega)) (by k_asm) (by first | k_asm | (refine' cb_drop ?cbN ?cbS; (case cbN => assumption); (case cbS => kcj_all)))
end Mine
end

section
open PySem PySem.W PySem.Calls PyProof.Rows
namespace Mine
theorem value_snoc (l : List Int) (k : Int) : KFB.value (l ++ [k]) = KFB.value l * 256 + k := by
  unfold KFB.value; rw [List.foldl_append]; rfl
theorem value_little : ∀ (n : Nat) (v : Int), 0 ≤ v → v < 256 ^ n → KFB.value (KTBy.little n v).reverse = v
  | 0, v, h0, h1 => by
    have : v = 0 := by rw [Int.pow_zero] at h1; omega
    subst this; rfl
  | n + 1, v, h0, h1 => by
    show KFB.value (v % 256 :: KTBy.little n (v / 256)).reverse = v
    rw [List.reverse_cons, value_snoc, value_little n (v / 256) (Int.ediv_nonneg h0 (by decide)) ?_]
    · omega
    · rw [Int.pow_succ] at h1
      omega
theorem ints_le {n : Nat} {v : Int} (h0 : 0 ≤ v) : KBw.bInts (le n v).toArray = KTBy.little n v := by
  unfold KBw.bInts
  rw [KTBy.little_eq, ← le_ints h0]
theorem value_le {n : Nat} {v : Int} (h0 : 0 ≤ v) (h1 : v < 256 ^ n) : KFB.value (KTBy.little n v).reverse = v := value_little n v h0 h1
/-- enc, its head and its rest -/
theorem enc_cases {v : Int} (h0 : 0 ≤ v) (h1 : v < 18446744073709551616) :
    (v < 253 ∧ enc v = [v.toNat.toUInt8]) ∨ (253 ≤ v ∧ v < 65536 ∧ enc v = 253 :: le 2 v) ∨ (65536 ≤ v ∧ v < 4294967296 ∧ enc v = 254 :: le 4 v) ∨ (4294967296 ≤ v ∧ enc v = 255 :: le 8 v) := by
  unfold enc
  by_cases a : v < 253
  · refine .inl ⟨a, ?_⟩
    rw [if_pos a]
    have := enc1 h0 a
    unfold enc at this
    rw [if_pos a] at this
    exact (Array.toList_inj.mpr this).symm
  · rw [if_neg a]
    by_cases b : v < 65536
    · exact .inr (.inl ⟨by omega, b, by rw [if_pos b]⟩)
    · rw [if_neg b]
      by_cases c : v < 4294967296
      · exact .inr (.inr (.inl ⟨by omega, c, by rw [if_pos c]⟩))
      · exact .inr (.inr (.inr ⟨by omega, by rw [if_neg c]⟩))
theorem u8_toNat {v : Int} (h0 : 0 ≤ v) (h : v < 256) : ((v.toNat.toUInt8.toNat : Nat) : Int) = v := by
  have e : (UInt8.ofNat v.toNat).toNat = v.toNat := by rw [UInt8.toNat_ofNat']; omega
  show (((UInt8.ofNat v.toNat).toNat : Nat) : Int) = v
  rw [e]; omega
end Mine
end

section
open PySem PySem.W PySem.Calls PyProof.Rows
set_option maxRecDepth 100000
set_option maxHeartbeats 4000000
namespace Mine
def RdAt (b : Array UInt8) (p n : Int) (r : Array UInt8) (p' : Int) : Prop := b.extract p.toNat (p + n).toNat = r ∧ p' = max p (min (p + n) b.size)
theorem ex_of {b : Array UInt8} {p n : Nat} {l r : List UInt8} (h : b.toList.drop p = l ++ r) (hn : l.length = n) : b.extract p (p + n) = l.toArray := by
  apply Array.ext'
  rw [Array.toList_extract, List.extract_eq_take_drop, h, Nat.add_sub_cancel_left, ← hn, List.take_left]
theorem rdAt {b : Array UInt8} {p p' : Int} {n : Nat} {l r : List UInt8} (h0 : 0 ≤ p) (h : b.toList.drop p.toNat = l ++ r) (hn : l.length = n) (e : p' = p + n) : RdAt b p n l.toArray p' := by
  have hs := congrArg List.length h
  rw [List.length_drop, List.length_append, Array.length_toList, hn] at hs
  subst e
  refine ⟨by rw [Int.toNat_add_nat h0]; exact ex_of h hn, ?_⟩
  have hz : n ≤ b.size - p.toNat := hs ▸ Nat.le_add_right _ _
  rcases Nat.eq_zero_or_pos n with rfl | h0n
  · rw [show p + ((0 : Nat) : Int) = p from Int.add_zero p, Int.max_eq_left (Int.min_le_left _ _)]
  · have e : p.toNat + n ≤ b.size := Nat.add_le_of_le_sub' (Nat.le_of_lt (Nat.lt_of_sub_pos (Nat.lt_of_lt_of_le h0n hz))) hz
    have e2 : p + (n : Int) ≤ (b.size : Int) := by rw [← Int.toNat_of_nonneg h0, ← Int.natCast_add]; exact Int.ofNat_le.mpr e
    rw [Int.min_eq_left e2, Int.max_eq_right (Int.le_add_of_nonneg_right (Int.natCast_nonneg n))]
theorem c_readX {w : World} {mean : ExcName → Option Value} {mg mb : Str → Option Value} {news : List (Addr × Obj)} {x dx y : Addr} {t1 t2 t3 t : Tok} {b : Array UInt8} {p n : Int}
   {dp un : Nat} {gd : Option (List Code)} {cn : Str} {nms : List (Str × NameKind)} {ig ic : Bool} {mr : List (Str × Const)} {a : Addr} {ccd : Value} {cl : List (Str × Addr)} {outer : List Env} {A₀ : Around} {base h₀ : Heap} {L : Addr} {m : Str → Option Value} {s : Shared} {Q E : Value → Shared → Prop}
   (r : Array UInt8) (p' : Int) (hr : RdAt b p n r p') (hp : 0 ≤ p) (hn : 0 ≤ n) (hn2 : n ≤ 1099511627776) (hb : b.size ≤ sizeLine) (h1 : dx < x) (h2 : x < y) (h3 : OffN x dx y news)
   (B : Below A₀ base outer h₀) (F : Fr h₀ L s.heap m) (X : (Mine.hd.heap_39 w.params).In h₀) (N : News h₀ L s.heap ((x, instObj 329 dx) :: (dx, bioD w y p t1 t2 t3) :: (y, baObj b) :: news)) (T : Top Mine.hd.view_39 LS mean mg mb h₀) 
    (hd : dp + 20 < recursionLimit) (hu : un + 100 < cLine)
    (hret : ∀ t1 t2 t3 t h' tk', Fr h₀ L h' m → News h₀ L h' ((x, instObj 329 dx) :: (dx, bioD w y p' t1 t2 t3) :: (y, baObj b) :: news) → Q (.bytes r t) { s with heap := h', toks := tk' }) :
      wpAny (model Challenge.rw_bd0009_01.row.prog w) (ktrTop dp un gd cn ⟨.function, nms, ig, ic, mr⟩ L a ccd cl outer) (call (.ref 253) [.ref x, .int n t]) Q E s := by
  obtain ⟨hr, hp'⟩ := hr
  subst hr
  exact c_read x dx y t1 t2 t3 t b p n hp hn hn2 hb h1 h2 h3 dp un gd cn nms ig ic mr a ccd cl outer A₀ base h₀ L m s Q E B F X N T hd hu fun q t1 t2 t3 t h' tk' e F' N' => hret t1 t2 t3 t h' tk' F' (by rw [hp', ← e]; exact N')
theorem OffN.app {x dx y : Addr} {pre news : List (Addr × Obj)} (h1 : OffN x dx y pre) (h2 : OffN x dx y news) : OffN x dx y (pre ++ news) := fun q hq => (List.mem_append.mp hq).elim (h1 q) (h2 q)
theorem to_front {α : Type} {a b c : α} {pre news : List α} : ∀ p ∈ a :: b :: c :: (pre ++ news), p ∈ pre ++ a :: b :: c :: news := by
  intro p hp
  simp only [List.mem_cons, List.mem_append] at hp ⊢
  (rcases hp with h | h | h | h | h <;> simp [h])
theorem to_back {α : Type} {a b c : α} {pre news : List α} : ∀ p ∈ pre ++ a :: b :: c :: news, p ∈ a :: b :: c :: (pre ++ news) := by
  intro p hp
  simp only [List.mem_cons, List.mem_append] at hp ⊢
  (rcases hp with h | h | h | h | h <;> simp [h])
theorem c_readP {w : World} {mean : ExcName → Option Value} {mg mb : Str → Option Value} (pre : List (Addr × Obj)) {news : List (Addr × Obj)} {x dx y : Addr} {t1 t2 t3 t : Tok} {b : Array UInt8} {p n : Int}
   {dp un : Nat} {gd : Option (List Code)} {cn : Str} {nms : List (Str × NameKind)} {ig ic : Bool} {mr : List (Str × Const)} {a : Addr} {ccd : Value} {cl : List (Str × Addr)} {outer : List Env} {A₀ : Around} {base h₀ : Heap} {L : Addr} {m : Str → Option Value} {s : Shared} {Q E : Value → Shared → Prop}
   (r : Array UInt8) (p' : Int) (hr : RdAt b p n r p') (hp : 0 ≤ p) (hn : 0 ≤ n) (hn2 : n ≤ 1099511627776) (hb : b.size ≤ sizeLine) (h1 : dx < x) (h2 : x < y) (h3 : OffN x dx y pre) (h4 : OffN x dx y news)
   (B : Below A₀ base outer h₀) (F : Fr h₀ L s.heap m) (X : (Mine.hd.heap_39 w.params).In h₀) (N : News h₀ L s.heap (pre ++ (x, instObj 329 dx) :: (dx, bioD w y p t1 t2 t3) :: (y, baObj b) :: news)) (T : Top Mine.hd.view_39 LS mean mg mb h₀) 
    (hd : dp + 20 < recursionLimit) (hu : un + 100 < cLine)
    (hret : ∀ t1 t2 t3 t h' tk', Fr h₀ L h' m → News h₀ L h' (pre ++ (x, instObj 329 dx) :: (dx, bioD w y p' t1 t2 t3) :: (y, baObj b) :: news) → Q (.bytes r t) { s with heap := h', toks := tk' }) :
      wpAny (model Challenge.rw_bd0009_01.row.prog w) (ktrTop dp un gd cn ⟨.function, nms, ig, ic, mr⟩ L a ccd cl outer) (call (.ref 253) [.ref x, .int n t]) Q E s :=
  c_readX r p' hr hp hn hn2 hb h1 h2 (h3.app h4) B F X (cb_drop N to_front) T hd hu fun t1 t2 t3 t h' tk' F' N' => hret t1 t2 t3 t h' tk' F' (cb_drop N' to_back)
end Mine
end

section
open PySem PySem.W PySem.Calls PyProof.Rows
set_option maxRecDepth 100000
set_option maxHeartbeats 4000000
namespace Mine
theorem pow_is {prog : Program} {w : World} {A : Around} {Q E : Value → Shared → Prop} {s : Shared} {j r k : Int} {t u : Tok} (h : ∀ k : Int, k = j → 0 ≤ k ∧ k ≤ 1000000 ∧ (2:Int)^k.toNat = r) (e : k = j) (hq : Q (.int r s.toks) { s with toks := s.toks + 1 }) : wpAny (model prog w) A (binaryOp .Pow (.int 2 t) (.int k u)) Q E s := by
  obtain ⟨a, b, c⟩ := h k e
  exact pow_int_small a b (by decide) (by rw [c]; exact hq)
theorem item_any {prog : Program} {w : World} {A : Around} {Q E : Value → Shared → Prop} {s : Shared} {b : Array UInt8} {i k : Int} {t ui : Tok} {value slice : Expr} (h1 : i.toNat < b.size) (hi : 0 ≤ i) (h2 : b.size ≤ 1) (e : (((b.toList.getD i.toNat 0).toNat : Nat) : Int) = k)
    (h : Q (.int k s.toks) { s with toks := s.toks + 1 })
    (hs : subscripted slice false (.bytes b.toList.toArray t) (.int i ui) = operate [.bytes b.toList.toArray t, .int i ui] (getItem (.bytes b.toList.toArray t) (.int i ui)) := by with_unfolding_all rfl)
    (ht : ∀ r, letTemporaryGo value (.bytes b.toList.toArray t) r = pure () := by intro _; with_unfolding_all rfl) : wpAny (model prog w) A (subscriptTail value slice (.bytes b t) (.int i ui)) Q E s :=
  bytes_item_K (x := b.toList) (by rw [Array.length_toList]; omega) hi (by rw [Array.length_toList]; omega) e h hs ht
theorem c_readfrom {w : World} {mean : ExcName → Option Value} {mg mb : Str → Option Value} {news : List (Addr × Obj)} (x dx y : Addr) (t1 t2 t3 : Tok) (b : Array UInt8) (p : Int) (v : Int) (rest : List UInt8) (hp : 0 ≤ p) (hb : b.size ≤ sizeLine) (h1 : dx < x) (h2 : x < y) (h3 : OffN x dx y news)
   (v0 : 0 ≤ v) (v1 : v < 18446744073709551616) (hv : b.toList.drop p.toNat = enc v ++ rest)
   (dp un : Nat) (gd : Option (List Code)) (cn : Str) (nms : List (Str × NameKind)) (ig ic : Bool) (mr : List (Str × Const)) (a : Addr) (ccd : Value) (cl : List (Str × Addr)) (outer : List Env) (A₀ : Around) (base h₀ : Heap) (L : Addr) (m : Str → Option Value) (s : Shared) (Q E : Value → Shared → Prop)
   (B : Below A₀ base outer h₀) (F : Fr h₀ L s.heap m) (X : (Mine.hd.heap_39 w.params).In h₀) (N : News h₀ L s.heap ((x, instObj 329 dx) :: (dx, bioD w y p t1 t2 t3) :: (y, baObj b) :: news)) (T : Top Mine.hd.view_39 LS mean mg mb h₀) 
    (hd : dp + 30 < recursionLimit) (hu : un + 120 < cLine)
    (hret : ∀ p' t1 t2 t3 t h' tk', p' = p + (enc v).length → Fr h₀ L h' m → News h₀ L h' ((x, instObj 329 dx) :: (dx, bioD w y p' t1 t2 t3) :: (y, baObj b) :: news) → Q (.int v t) { s with heap := h', toks := tk' }) :
      wpAny (model Challenge.rw_bd0009_01.row.prog w) (ktrTop dp un gd cn ⟨.function, nms, ig, ic, mr⟩ L a ccd cl outer) (call (.ref 592) [.ref x]) Q E s := by
  k_with_none
  k_with "binaryOp Pow int int" => (k_here; refine pow_is (by assumption) (by omega) ?_)
  k_with "call ref" => (k_here; (with_reducible show wpAny _ _ (call (Value.ref 253) [Value.ref _, Value.int _ _]) _ _ _); k_dflt ((with_unfolding_all refine' c_readP [_] _ _ ?zzhr ?zzq1 ?zzq2 ?zzq3 ?zzq4 ?zzq5 ?zzq6 ?zzq7 ?zzq8 ?zzB ?zzF ?zzX ?zzN ?zzT ?zzhd ?zzhu ?_); (case zzB | zzF | zzX | zzN | zzT => k_asm); (case zzhr => assumption); (case zzq1 | zzq2 | zzq3 => omega); (case zzq4 | zzq5 | zzq6 => assumption); (case zzq7 | zzq8 => (repeat' (first | assumption | exact OffN.nil | (refine OffN.cons ?_ ?_ ?_ ?_; (focus k_ne); (focus k_ne); (focus k_ne)) | (refine OffN.of (by assumption) (by assumption) (by assumption))))); (case zzhd => ktr_room); (case zzhu => ktr_units); k_whole; intro t1' t2' t3' t' h' tk' F' N'; (try simp only [List.cons_append, List.nil_append] at N'); (try k_sweep)))
  k_with "call ref" => (k_here; (with_reducible show wpAny _ _ (call (Value.ref 253) [Value.ref _, Value.int _ _]) _ _ _); k_dflt ((with_unfolding_all refine' c_readX _ _ ?zzhr ?zzq1 ?zzq2 ?zzq3 ?zzq4 ?zzq5 ?zzq6 ?zzq7 ?zzB ?zzF ?zzX ?zzN ?zzT ?zzhd ?zzhu ?_); (case zzB | zzF | zzX | zzN | zzT => k_asm); (case zzhr => assumption); (case zzq1 | zzq2 | zzq3 => omega); (case zzq4 | zzq5 | zzq6 => assumption); (case zzq7 => (repeat' (first | assumption | exact OffN.nil | (refine OffN.cons ?_ ?_ ?_ ?_; (focus k_ne); (focus k_ne); (focus k_ne)) | (refine OffN.of (by assumption) (by assumption) (by assumption))))); (case zzhd => ktr_room); (case zzhu => ktr_units); k_whole; intro t1' t2' t3' t' h' tk' F' N'; (try k_sweep)))
  k_with "call ref" => (k_here; (with_reducible show wpAny _ _ (call (Value.ref _) [Value.bytes _ _, Value.str _ _]) _ _ _); kfb_any; k_dflt (refine KFB.call_little (by k_asm) (by k_mem) (by assumption) (by assumption) ?_); intro _ _)
  k_with "ite" => (k_here; first | (refine ite_pos (by omega) ?_) | (refine ite_neg (by omega) ?_))
  k_with "subscriptTail" => (k_here; (with_reducible show wpAny _ _ (subscriptTail _ _ (Value.bytes _ _) (Value.int _ _)) _ _ _); k_dflt (refine item_any (by omega) (by omega) (by omega) (by assumption) ?_))
  have X0 := X
  revert X0
  k_fill
  intro _
  replace h1 := ltN h1
  replace h2 := ltN h2
  rcases enc_cases v0 v1 with ⟨c1, e⟩ | ho
  · rw [e] at hv
    obtain ⟨r1, hr1⟩ : ∃ r : Array UInt8, r = [v.toNat.toUInt8].toArray := ⟨_, rfl⟩
    obtain ⟨p1, hp1⟩ : ∃ q, q = p + 1 := ⟨_, rfl⟩
    have f1 : RdAt b p 1 r1 p1 := by rw [hr1]; exact rdAt (n := 1) hp hv rfl hp1
    have s1 : r1.size = 1 := by rw [hr1]; rfl
    have i1 : ((r1.toList.getD (Int.toNat 0) 0).toNat : Int) = v := by rw [hr1]; exact u8_toNat v0 (by omega)
    have l3 : p1 = p + ((enc v).length : Int) := by rw [e]; exact hp1
    have p10 : 0 ≤ p1 := by omega
    clear hr1 e hv
    k_steps
    all_goals first | (exfalso; omega) | exact hret _ _ _ _ _ _ _ l3 (by k_asm) (cb_drop (by assumption) (by kcj_all))
  · obtain ⟨j, n, jj, n1, n2, n3, n4, nn, c1, e⟩ : ∃ (j : Int) (n : Nat) (jj : UInt8), 253 ≤ j ∧ 1 ≤ n ∧ n ≤ 8 ∧ (jj.toNat : Int) = j ∧ (∀ k : Int, k = j - 252 → 0 ≤ k ∧ k ≤ 1000000 ∧ (2:Int)^k.toNat = (n : Int)) ∧ v < 256 ^ n ∧ enc v = jj :: le n v := by
      rcases ho with ⟨c1, c2, e⟩ | ⟨c1, c2, e⟩ | ⟨c1, e⟩
      · exact ⟨253, 2, 253, by decide, by decide, by decide, by decide, fun k hk => by subst hk; decide, by omega, e⟩
      · exact ⟨254, 4, 254, by decide, by decide, by decide, by decide, fun k hk => by subst hk; decide, by omega, e⟩
      · exact ⟨255, 8, 255, by decide, by decide, by decide, by decide, fun k hk => by subst hk; decide, by omega, e⟩
    clear ho
    obtain ⟨r1, hr1⟩ : ∃ r : Array UInt8, r = [jj].toArray := ⟨_, rfl⟩
    obtain ⟨r2, hr2⟩ : ∃ r : Array UInt8, r = (le n v).toArray := ⟨_, rfl⟩
    rw [e] at hv
    have s1 : r1.size = 1 := by rw [hr1]; rfl
    have i1 : ((r1.toList.getD (Int.toNat 0) 0).toNat : Int) = j := by rw [hr1]; exact n4
    have hv2 : b.toList.drop (p.toNat + 1) = le n v ++ rest := by rw [← List.drop_drop, hv]; rfl
    obtain ⟨p1, hp1⟩ : ∃ q, q = p + 1 := ⟨_, rfl⟩
    obtain ⟨p2, hp2⟩ : ∃ q, q = p1 + (n : Int) := ⟨_, rfl⟩
    have f1 : RdAt b p 1 r1 p1 := by rw [hr1]; exact rdAt (n := 1) (l := [jj]) hp hv rfl hp1
    have f2 : RdAt b p1 n r2 p2 := by
      rw [hr2]
      refine rdAt (r := rest) (by rw [hp1]; exact Int.le_add_one hp) ?_ (le_length _ _) hp2
      rw [hp1, show (p + 1).toNat = p.toNat + 1 from Int.toNat_add_nat hp 1]
      exact hv2
    have p10 : 0 ≤ p1 := by omega
    have p20 : 0 ≤ p2 := by omega
    obtain ⟨ks, hks⟩ : ∃ ks, KTBy.little n v = ks := ⟨_, rfl⟩
    have i2 : KBw.bInts r2 = ks := by rw [hr2, ← hks]; exact ints_le v0
    have l2 : ks.length ≤ 8 := by rw [← i2, KBw.ints_length, hr2]; simp [le_length]; omega
    have v2 : KFB.value ks.reverse = v := by rw [← hks]; exact value_le v0 c1
    have l3 : p2 = p + ((enc v).length : Int) := by rw [e]; simp [le_length]; omega
    clear hr1 hr2 hv hv2 e hks
    k_steps
    all_goals first | (exfalso; omega) | (rw [v2]; exact hret _ _ _ _ _ _ _ l3 (by k_asm) (cb_drop (by assumption) (by kcj_all)))
end Mine
end

section
open PySem PySem.W PySem.Calls PyProof.Rows
set_option maxRecDepth 100000
set_option maxHeartbeats 4000000
namespace Mine
theorem pk_keepBio (P : Params) (S : Setting) : peek (Mine.hd.heap_39 P) S (keeperOf (.ref 329)) = some .machine := by kernel_rfl
def DropAt (b : Array UInt8) (p v : Int) (rest : List UInt8) : Prop := b.toList.drop p.toNat = enc v ++ rest
theorem c_from {w : World} {mean : ExcName → Option Value} {mg mb : Str → Option Value} {news : List (Addr × Obj)} (v : Int) (v0 : 0 ≤ v) (v1 : v < 18446744073709551616) (b : Array UInt8) (hb : b = (enc v).toArray) (t : Tok) 
   (dp un : Nat) (gd : Option (List Code)) (cn : Str) (nms : List (Str × NameKind)) (ig ic : Bool) (mr : List (Str × Const)) (a : Addr) (ccd : Value) (cl : List (Str × Addr)) (outer : List Env) (A₀ : Around) (base h₀ : Heap) (L : Addr) (m : Str → Option Value) (s : Shared) (Q E : Value → Shared → Prop)
   (B : Below A₀ base outer h₀) (F : Fr h₀ L s.heap m) (X : (Mine.hd.heap_39 w.params).In h₀) (N : News h₀ L s.heap news) (T : Top Mine.hd.view_39 LS mean mg mb h₀) 
    (hd : dp + 50 < recursionLimit) (hu : un + 200 < cLine)
    (hret : ∀ t h' tk', Fr h₀ L h' m → News h₀ L h' news → Q (.int v t) { s with heap := h', toks := tk' }) :
      wpN (model Challenge.rw_bd0009_01.row.prog w) (ktrTop dp un gd cn ⟨.function, nms, ig, ic, mr⟩ L a ccd cl outer) (call (.ref 585) [.bytes b t]) Q E s := by
  k_with_none
  k_with "n enter" => (refine' cDef ?zzk1 ?zzk2 ?zzk3 ?zzk4 ?zzk5 ?zzkA ?zzkF ?zzkK ?zzk6 ?zzk7 ?zzk8 ?zzk9 ?zzkB ?_ ?zzc2 ?zzc3 ?zzc4 ?zzc5; (case zzkA | zzkF | zzkK => exact rfl); (case zzk1 | zzk2 | zzk3 | zzk4 | zzk5 => k_asm); (case zzk6 | zzk7 => k_is); (case zzk8 => k_room); (case zzk9 => first | exact BindsTo.of_eq rfl | exact binds_K (by k_in) rfl (by k_is) rfl rfl rfl); (case zzc5 => decide); (case zzkB => exact locs rfl); (case zzc2 | zzc3 | zzc4 => exact rfl); intro g' L' h' FG' F' N' B' X' T'; (try dsimp only))
  k_with "call ref" => (k_here; (with_reducible show wpAny _ _ (call (Value.ref 253) [Value.ref _, Value.int _ _]) _ _ _); k_dflt ((with_unfolding_all refine' c_readX _ _ ?zzhr ?zzq1 ?zzq2 ?zzq3 ?zzq4 ?zzq5 ?zzq6 ?zzq7 ?zzB ?zzF ?zzX ?zzN ?zzT ?zzhd ?zzhu ?_); (case zzB | zzF | zzX | zzN | zzT => k_asm); (case zzhr => assumption); (case zzq1 | zzq2 | zzq3 => omega); (case zzq4 | zzq5 | zzq6 => assumption); (case zzq7 => (repeat' (first | assumption | exact OffN.nil | (refine OffN.cons ?_ ?_ ?_ ?_; (focus k_ne); (focus k_ne); (focus k_ne)) | (refine OffN.of (by assumption) (by assumption) (by assumption))))); (case zzhd => ktr_room); (case zzhu => ktr_units); k_whole; intro t1' t2' t3' t' h' tk' F' N'; (try k_sweep)))
  k_with "call ref" => (k_here; (with_reducible show wpAny _ _ (call (Value.ref 592) [Value.ref _]) _ _ _); k_dflt ((with_unfolding_all refine' c_readfrom _ _ _ _ _ _ _ _ _ _ ?zzq1 ?zzq4 ?zzq5 ?zzq6 ?zzq7 ?zzq2 ?zzq3 ?zzhr _ _ _ _ _ _ _ _ _ _ _ _ _ _ _ _ _ _ _ _ ?zzB ?zzF ?zzX ?zzN ?zzT ?zzhd ?zzhu ?_); (case zzB | zzF | zzX | zzN | zzT => k_asm); (case zzhr => (show DropAt _ _ _ _); assumption); (case zzq1 | zzq2 | zzq3 => omega); (case zzq4 | zzq5 | zzq6 => assumption); (case zzq7 => (repeat' (first | assumption | exact OffN.nil | (refine OffN.cons ?_ ?_ ?_ ?_; (focus k_ne); (focus k_ne); (focus k_ne)) | (refine OffN.of (by assumption) (by assumption) (by assumption))))); (case zzhd => ktr_room); (case zzhu => ktr_units); k_whole; intro p' t1' t2' t3' t' h' tk' e' F' N'; (try subst e'); (try k_sweep)))
  k_with "ite" => (k_here; first | (refine ite_pos (by omega) ?_) | (refine ite_neg (by omega) ?_))
  have X0 := X
  revert X0
  k_fill
  intro _
  have hsz : b.size ≤ 9 := by
    rw [hb, List.size_toArray]
    rcases enc_cases v0 v1 with ⟨_, e⟩ | ⟨_, _, e⟩ | ⟨_, _, e⟩ | ⟨_, e⟩ <;> rw [e] <;> simp [le_length]
  have hbs : b.size ≤ sizeLine := by rw [sizeLine_eq]; omega
  have hD : DropAt b 0 v [] := by unfold DropAt; rw [hb]; simp
  have hn : b.size = (enc v).length := by rw [hb, List.size_toArray]
  obtain ⟨p1, hp1⟩ : ∃ q : Int, q = (enc v).length := ⟨_, rfl⟩
  have hR : RdAt b (0 + ((enc v).length : Int)) 1 #[] (0 + ((enc v).length : Int)) := by
    refine ⟨?_, by omega⟩
    apply Array.ext'
    rw [Array.toList_extract, List.extract_eq_take_drop, List.drop_of_length_le (by rw [Array.length_toList]; omega)]
    simp
  refine nCall ?_
  walk_at "n enter"
  refine nExecsCons (nAssignName (nCallName ?_))
  k_steps
  refine nCallW ?_
  k_steps
  refine Kp.of .machine (Looks.of_peek (by k_in) (pk_keepBio _ _)) ?_
  refine' c_bio1 _ _ hbs _ _ _ _ _ _ _ _ _ _ _ _ _ _ _ _ _ _ _ _ ?B ?F ?X ?N ?T ?hd ?hu ?_
  case B => k_asm
  case F => k_asm
  case X => k_asm
  case N => k_asm
  case T => k_asm
  case hd => ktr_room
  case hu => ktr_units
  intro x dx y t1 t2 t3 h' tk' F' N' l1 l2 l3
  (try k_sweep)
  k_steps
  refine nOf ?_
  k_steps
  exact hret _ _ _ (by k_asm) (cb_drop (by assumption) (by kcj_all))
end Mine
end

section
open PySem PySem.W PySem.Calls PyProof.Rows
set_option maxRecDepth 100000
set_option maxHeartbeats 4000000
namespace Mine
section
variable {α : Type} {M : Model} {A : Around} {E : Value → Shared → Prop} {s : Shared} {env : Env}
theorem nCallAttr {o : Expr} {name : Str} {apos pos : Pos} {args : List Expr} {kws : List Keyword} {pl : Sem Bool} {Q : Value → Shared → Prop}
    (h : wpAny M A (eval o env) (fun ov s₁ => wpAny M A (getMethod ov name pl) (fun fx s₂ => wpN M A (callWith pos fx.1 fx.2 (backTo pos (starEach args env)) (backToKw pos (keywordEach kws env))) Q E s₂) E s₁) E s)
    (he : eval (.Call (.Attribute o name apos) args kws pos) env = (do
      let ov ← eval o env
      standAt apos.atName
      let (f, first) ← holding [ov] (getMethod ov name pl)
      callWith pos f first (backTo pos (starEach args env)) (backToKw pos (keywordEach kws env))) := by rfl) :
    wpN M A (eval (.Call (.Attribute o name apos) args kws pos) env) Q E s := by
  rw [he]
  exact aBind (wpAny_mono h (fun ov s₁ h₁ => nBind (nStandAt (aBind (wpAny_holding h₁)))) fun _ _ x => x)
/-- a starred call of a method: the method is bound first -/
theorem nCallAttrStar {o : Expr} {name : Str} {apos pos : Pos} {args : List Expr} {kws : List Keyword} {Q : Value → Shared → Prop}
    (h : wpAny M A (eval o env) (fun ov s₁ => wpAny M A (getAttr ov name true) (fun f s₂ => wpN M A (callWith pos f [] (backTo pos (starEach args env)) (backToKw pos (keywordEach kws env))) Q E s₂) E s₁) E s)
    (he : eval (.Call (.Attribute o name apos) args kws pos) env = (do
      let ov ← eval o env
      standAt apos.atName
      let (f, first) ← holding [ov] (do pure (← getAttr ov name true, ([] : List Value)))
      callWith pos f first (backTo pos (starEach args env)) (backToKw pos (keywordEach kws env))) := by rfl) :
    wpN M A (eval (.Call (.Attribute o name apos) args kws pos) env) Q E s := by
  rw [he]
  exact aBind (wpAny_mono h (fun ov s₁ h₁ => nBind (nStandAt (aBind (wpAny_holding (wpAny_bind (wpAny_mono h₁ (fun _ _ x => wpAny_pure x) fun _ _ x => x)))))) fun _ _ x => x)
end
end Mine
end

section
open PySem PySem.W PySem.Calls PyProof.Rows
set_option maxRecDepth 100000
set_option maxHeartbeats 4000000
namespace Mine
abbrev scrD (w : World) (b : Array UInt8) (t1 t2 : Tok) : Obj := dictOf [⟨PyData.keyHash w.params (Str.ofString "data"), .str (Str.ofString "data") t1, .bytes b t2⟩] 1
theorem pk_keepWrite (P : Params) (S : Setting) : peek (Mine.hd.heap_39 P) S (keeperOf (.ref 312)) = some .frame := by kernel_rfl
theorem c_script {w : World} {mean : ExcName → Option Value} {mg mb : Str → Option Value} {news : List (Addr × Obj)} (b : Array UInt8) (t : Tok) 
   (dp un : Nat) (gd : Option (List Code)) (cn : Str) (nms : List (Str × NameKind)) (ig ic : Bool) (mr : List (Str × Const)) (a : Addr) (ccd : Value) (cl : List (Str × Addr)) (outer : List Env) (A₀ : Around) (base h₀ : Heap) (L : Addr) (m : Str → Option Value) (s : Shared) (Q E : Value → Shared → Prop)
   (B : Below A₀ base outer h₀) (F : Fr h₀ L s.heap m) (X : (Mine.hd.heap_39 w.params).In h₀) (N : News h₀ L s.heap news) (T : Top Mine.hd.view_39 LS mean mg mb h₀) 
    (hd : dp + 20 < recursionLimit) (hu : un + 100 < cLine)
    (hret : ∀ x dx t1 h' tk', Fr h₀ L h' m → News h₀ L h' ((x, instObj 789 dx) :: (dx, scrD w b t1 t) :: news) → AllLt dx news → dx < x → Q (.ref x) { s with heap := h', toks := tk' }) :
      wpAny (model Challenge.rw_bd0009_01.row.prog w) (ktrTop dp un gd cn ⟨.function, nms, ig, ic, mr⟩ L a ccd cl outer) (call (.ref 789) [.bytes b t]) Q E s := by
  k_with_none
  k_with "n enter" => (refine' cDef ?zzk1 ?zzk2 ?zzk3 ?zzk4 ?zzk5 ?zzkA ?zzkF ?zzkK ?zzk6 ?zzk7 ?zzk8 ?zzk9 ?zzkB ?_ ?zzc2 ?zzc3 ?zzc4 ?zzc5; (case zzkA | zzkF | zzkK => exact rfl); (case zzk1 | zzk2 | zzk3 | zzk4 | zzk5 => k_asm); (case zzk6 | zzk7 => k_is); (case zzk8 => k_room); (case zzk9 => first | exact BindsTo.of_eq rfl | exact binds_K (by k_in) rfl (by k_is) rfl rfl rfl); (case zzc5 => decide); (case zzkB => exact locs rfl); (case zzc2 | zzc3 | zzc4 => exact rfl); intro g' L' h' FG' F' N' B' X' T'; (try dsimp only))
  k_with "call builtin:len" => ((with_reducible show wpAny _ _ (call _ [Value.bytes _ _]) _ _ _); refine len_bytes (by omega) ?_)
  k_with "call ref" => (k_here; (with_reducible show wpAny _ _ (call (Value.ref 28) [Value.int _ _]) _ _ _); k_dflt ((with_unfolding_all refine' c_to _ _ ?zzq1 ?zzq2 _ _ _ _ _ _ _ _ _ _ _ _ _ _ _ _ _ _ _ _ ?zzB ?zzF ?zzX ?zzN ?zzT ?zzhd ?zzhu ?_); (case zzB | zzF | zzX | zzN | zzT => k_asm); (case zzq1 | zzq2 => omega); (case zzhd => ktr_room); (case zzhu => ktr_units); k_whole; intro t' h' tk' F' N'; (try k_sweep)))
  have X0 := X
  revert X0
  k_fill
  intro _
  k_steps
  exact hret _ _ _ _ _ (by k_asm) (cb_drop (by assumption) (by kcj_all)) (allLt_of (by assumption)) (by assumption)
theorem cs_swrite {w : World} {mean : ExcName → Option Value} {mg mb : Str → Option Value} {news : List (Addr × Obj)} (z dz x dx y : Addr) (t1 t2 t3 u1 u2 : Tok) (c b : Array UInt8) (p : Int) (hp : p = c.size) (hb : c.size + b.size + 9 ≤ sizeLine) (hb1 : b.size < 1000000000) (h1 : dx < x) (h2 : x < y) (h3 : OffN x dx y ((z, instObj 789 dz) :: (dz, scrD w b u1 u2) :: news))
   (dp un : Nat) (gd : Option (List Code)) (cn : Str) (nms : List (Str × NameKind)) (ig ic : Bool) (mr : List (Str × Const)) (a : Addr) (ccd : Value) (cl : List (Str × Addr)) (outer : List Env) (A₀ : Around) (base h₀ : Heap) (L : Addr) (m : Str → Option Value) (s : Shared) (Q E : Value → Shared → Prop)
   (B : Below A₀ base outer h₀) (F : Fr h₀ L s.heap m) (X : (Mine.hd.heap_39 w.params).In h₀) (N : News h₀ L s.heap ((x, instObj 329 dx) :: (dx, bioD w y p t1 t2 t3) :: (y, baObj c) :: (z, instObj 789 dz) :: (dz, scrD w b u1 u2) :: news)) (T : Top Mine.hd.view_39 LS mean mg mb h₀) 
    (hd : dp + 60 < recursionLimit) (hu : un + 260 < cLine)
    (hret : ∀ p' t1 t2 t3 r t h' tk', p' = p + (enc b.size).length + b.size → Fr h₀ L h' m → News h₀ L h' ((x, instObj 329 dx) :: (dx, bioD w y p' t1 t2 t3) :: (y, baObj (c ++ (enc b.size).toArray ++ b)) :: (z, instObj 789 dz) :: (dz, scrD w b u1 u2) :: news) → Q (.int r t) { s with heap := h', toks := tk' }) :
      codeN (model Challenge.rw_bd0009_01.row.prog w) (ktrTop dp un gd cn ⟨.function, nms, ig, ic, mr⟩ L a ccd cl outer) (.call (.ref 745) ⟨[.ref z, .ref x], []⟩) (fun r s' => match r with | .ok (.ret v) => Q v s' | .ok _ => False | .error e => E e s') s := by
  k_with_none
  k_with "n enter" => (refine' cDef ?zzk1 ?zzk2 ?zzk3 ?zzk4 ?zzk5 ?zzkA ?zzkF ?zzkK ?zzk6 ?zzk7 ?zzk8 ?zzk9 ?zzkB ?_ ?zzc2 ?zzc3 ?zzc4 ?zzc5; (case zzkA | zzkF | zzkK => exact rfl); (case zzk1 | zzk2 | zzk3 | zzk4 | zzk5 => k_asm); (case zzk6 | zzk7 => k_is); (case zzk8 => k_room); (case zzk9 => first | exact BindsTo.of_eq rfl | exact binds_K (by k_in) rfl (by k_is) rfl rfl rfl); (case zzc5 => decide); (case zzkB => exact locs rfl); (case zzc2 | zzc3 | zzc4 => exact rfl); intro g' L' h' FG' F' N' B' X' T'; (try dsimp only))
  k_with "call builtin:len" => ((with_reducible show wpAny _ _ (call _ [Value.bytes _ _]) _ _ _); refine len_bytes (by omega) ?_)
  k_with "call ref" => (k_here; (with_reducible show wpAny _ _ (call (Value.ref 28) [Value.int _ _]) _ _ _); k_dflt ((with_unfolding_all refine' c_to _ _ ?zzq1 ?zzq2 _ _ _ _ _ _ _ _ _ _ _ _ _ _ _ _ _ _ _ _ ?zzB ?zzF ?zzX ?zzN ?zzT ?zzhd ?zzhu ?_); (case zzB | zzF | zzX | zzN | zzT => k_asm); (case zzq1 | zzq2 => omega); (case zzhd => ktr_room); (case zzhu => ktr_units); k_whole; intro t' h' tk' F' N'; (try k_sweep)))
  have X0 := X
  revert X0
  k_fill
  intro _
  replace h1 := ltN h1
  replace h2 := ltN h2
  have hbb : b.size ≤ sizeLine := by omega
  have el : (enc b.size).length ≤ 9 := by
    rcases enc_cases (v := (b.size : Int)) (by omega) (by omega) with ⟨_, e⟩ | ⟨_, _, e⟩ | ⟨_, _, e⟩ | ⟨_, e⟩ <;> rw [e] <;> simp [le_length]
  have es : (enc (b.size : Int)).toArray.size = (enc (b.size : Int)).length := List.size_toArray
  have hz9 := sizeLine_eq
  walk_at "n enter"
  refine nExecsCons (nAssignName (nCallAttr ?_))
  k_steps
  refine nCallW ?_
  k_steps
  refine Kp.of .frame (Looks.of_peek (by k_in) (pk_keepWrite _ _)) ?_
  refine' c_write _ _ _ _ _ _ _ _ _ _ ?hp ?hb ?h1 ?h2 ?h3 _ _ _ _ _ _ _ _ _ _ _ _ _ _ _ _ _ _ _ _ ?B ?F ?X ?N ?T ?hd ?hu ?_
  case B => k_asm
  case F => k_asm
  case X => k_asm
  case N => k_asm
  case T => k_asm
  case hd => ktr_room
  case hu => ktr_units
  case hp => exact hp
  case hb => (show c.size + (enc (b.size : Int)).toArray.size ≤ sizeLine; omega)
  case h1 => assumption
  case h2 => assumption
  case h3 => assumption
  intro p1 t1 t2 t3 t' h' tk' pe F' N'
  (try k_sweep)
  k_steps
  refine nExecsCons (nAugName ?_)
  k_steps
  refine nCallAttr ?_
  k_steps
  refine nCallW ?_
  k_steps
  refine Kp.of .frame (Looks.of_peek (by k_in) (pk_keepWrite _ _)) ?_
  refine' c_write _ _ _ _ _ _ _ _ _ _ ?hp ?hb ?h1 ?h2 ?h3 _ _ _ _ _ _ _ _ _ _ _ _ _ _ _ _ _ _ _ _ ?B ?F ?X ?N ?T ?hd ?hu ?_
  case B => k_asm
  case F => k_asm
  case X => k_asm
  case N => k_asm
  case T => k_asm
  case hd => ktr_room
  case hu => ktr_units
  case hp => (rw [pe, hp, Array.size_append]; omega)
  case hb => (show (c ++ (enc (b.size : Int)).toArray).size + b.size ≤ sizeLine; rw [Array.size_append]; omega)
  case h1 => assumption
  case h2 => assumption
  case h3 => assumption
  intro q1 t1 t2 t3 t' h' tk' qe F' N'
  (try k_sweep)
  k_steps
  refine nOf ?_
  k_steps
  exact hret q1 _ _ _ _ _ _ _ (by omega) (by k_asm) (cb_drop (by assumption) (by kcj_all))
end Mine
end

section
open PySem PySem.W PySem.Calls PyProof.Rows
set_option maxRecDepth 100000
set_option maxHeartbeats 4000000
namespace Mine
section
variable {M : Model} {A : Around} {E : Value → Shared → Prop} {s : Shared} {D a : Addr}
theorem merge0 (hD : s.heap.get? D = some emptyDict) (ha : s.heap.get? a = some emptyDict) (hs : a ≠ sysModules) {Q : Unit → Shared → Prop} (h : Q () s) :
    wpAny M A (mergeMapping D (.ref a) true) Q E s := by
  have ty : Looks M s.heap (typeOf (.ref a)) (.type "dict") := (Looks.ld (part := none) ha).andThen .now
  have TI : s.TypeIs (.ref a) "dict" := ⟨emptyDict, ha, rfl⟩
  have e1 : Looks M s.heap (dictEntries D) #[] := by unfold dictEntries; exact (Looks.ld hD).andThen .now
  have e2 : Looks M s.heap (dictEntries a) #[] := by unfold dictEntries; exact (Looks.ld ha).andThen .now
  have e3 : Looks M s.heap (dictEpoch a) 0 := by unfold dictEpoch; exact (Looks.ld ha).andThen .now
  unfold mergeMapping
  refine wpAny_bind (wpAny_isInstance TI isSubtype_dict_dict ?_)
  simp only [if_true]
  refine wpAny_bind (wpAny_specialOf TI PySem.F.slot_dict_iter.lookup (wpAny_bind (wpAny_pure ?_)))
  simp only [beq_self_eq_true]
  rw [if_neg (by simpa using hs)]
  refine wpAny_bind (e1.here ?_)
  simp only [Array.isEmpty_empty, if_true]
  refine wpAny_bind (e2.here ?_)
  refine wpAny_bind (wpAny_pure ?_)
  refine wpAny_bind (e2.here ?_)
  refine wpAny_bind (e3.here ?_)
  refine wpAny_bind (wpAny_pure (wpAny_pure h))
theorem keywords0 {f : Value} (hD : s.heap.get? D = some emptyDict) {Q : List (Str × Value) → Shared → Prop} (h : Q [] s) : wpAny M A (keywordsIn f D) Q E s := by
  have e1 : Looks M s.heap (dictEntries D) #[] := by unfold dictEntries; exact (Looks.ld hD).andThen .now
  unfold keywordsIn
  refine wpAny_bind (e1.here ?_)
  refine wpAny_bind (wpAny_pure (wpAny_pure h))
theorem forIn_one {α β : Type} {a : α} {init : β} {f : α → β → Sem (ForInStep β)} {Q : β → Shared → Prop} (h : wpAny M A (f a init) (fun r s' => match r with | .done b => Q b s' | .yield b => Q b s') E s) :
    wpAny M A (forIn [a] init f) Q E s := by
  rw [List.forIn_cons]
  refine wpAny_bind (wpAny_mono h (fun r s' h' => ?_) fun _ _ z => z)
  cases r with
  | done b => exact wpAny_pure h'
  | yield b => (show wpAny M A (forIn [] b f) Q E s'); rw [List.forIn_nil]; exact wpAny_pure h'
theorem merged0 {f : Value} {x : Sem Value} {Q : Addr → Shared → Prop}
    (h : wpAny M A x (fun v s₁ => ∃ a, v = .ref a ∧ a ≠ sysModules ∧ s₁.heap.get? a = some emptyDict ∧ s₁.heap.get? s.heap.objs.size = some emptyDict ∧ Q s.heap.objs.size s₁) E { s with heap := s.heap.push emptyDict }) :
    wpAny M A (mergedKeywords f [(none, x)]) Q E s := by
  unfold mergedKeywords
  refine wpAny_bind (wpAny_alloc ?_)
  refine wpAny_bind (wpAny_holding (wpAny_bind (forIn_one (wpAny_bind ?_))))
  refine wpAny_bind (wpAny_pure ?_)
  refine wpAny_pure ?_
  refine wpAny_bind (wpAny_mono h (fun v s₁ hv => ?_) fun _ _ z => z)
  obtain ⟨a, rfl, h1, h2, h3, h4⟩ := hv
  refine wpAny_bind (wpAny_onRaise (wpAny_holding (wpAny_tryCatch (wpAny_onRaise (merge0 h3 h2 h1 ?_)))))
  refine wpAny_pure (wpAny_pure (wpAny_pure h4))
theorem evalArgs_star {f : Value} {y x : Sem Value} {rest : List (Bool × Sem Value)} {Q : Args → Shared → Prop}
    (h : wpAny M A (spliced ((false, y) :: rest)) (fun vs s₁ => wpAny M A x (fun v s₂ => ∃ a, v = .ref a ∧ a ≠ sysModules ∧ s₂.heap.get? a = some emptyDict ∧ s₂.heap.get? s₁.heap.objs.size = some emptyDict ∧ Q ⟨vs, []⟩ s₂) E { s₁ with heap := s₁.heap.push emptyDict }) E s) :
    wpAny M A (evalArgs f true ((false, y) :: rest) [(none, x)]) Q E s := by
  unfold evalArgs
  dsimp only
  refine wpAny_bind (wpAny_mono h (fun vs s₁ h₁ => ?_) fun _ _ z => z)
  refine wpAny_bind (wpAny_pure ?_)
  refine wpAny_holding ?_
  dsimp only
  rw [if_neg (show ¬ ([((none : Option Str), x)].all fun x => x.1.isSome) = true from Bool.false_ne_true)]
  refine wpAny_bind (merged0 (wpAny_mono h₁ (fun v s₂ h₂ => ?_) fun _ _ z => z))
  obtain ⟨a, e, h1, h2, h3, h4⟩ := h₂
  refine ⟨a, e, h1, h2, h3, ?_⟩
  refine wpAny_bind (wpAny_pure ?_)
  refine wpAny_bind (wpAny_holding (keywords0 h3 ?_))
  exact wpAny_pure h4
end
end Mine
end

section
open PySem PySem.W PySem.Calls PyProof.Rows
set_option maxRecDepth 100000
set_option maxHeartbeats 4000000
namespace Mine
section
variable {prog : Program} {w : World} {A : Around} {s : Shared} {p : Addr} {R : Result → Shared → Prop}
theorem cMethod {f self : Value} {pos : List Value} {kw : List (Str × Value)} (ho : s.heap.get? p = some (methodObj f self))
    (h : codeN (model prog w) A (.call f ⟨self :: pos, kw⟩) R s) : codeN (model prog w) A (.call (.ref p) ⟨pos, kw⟩) R s := by
  refine cOfTree rfl ?_
  show wpN _ A.in1 (callAny (.ref p) _) _ _ s
  simp only [callAny]
  refine aBind (wpAny_load ho ?_)
  cases f <;> exact nPure ⟨rfl, h⟩
theorem nMethod {E : Value → Shared → Prop} {f self : Value} {pos : List Value} {Q : Value → Shared → Prop} (ho : s.heap.get? p = some (methodObj f self))
    (h : codeN (model prog w) A (.call f ⟨self :: pos, []⟩) (fun r s' => match r with | .ok (.ret v) => Q v s' | .ok _ => False | .error e => E e s') s) : wpN (model prog w) A (call (.ref p) pos) Q E s := nCall (cMethod ho h)
theorem lk_method {M : Model} {h : Heap} {g : Addr} {o : Obj} {fd : FuncData} {self : Value} (hp : h.get? p = some (methodObj (.ref g) self)) (hg : h.get? g = some o) (hd : o.data = .func fd) : Looks M h (keeperOf (.ref p)) .boundFrame := by
  unfold keeperOf
  refine (Looks.ld (part := none) hp).andThen ?_
  refine (Looks.ld (part := none) hg).andThen ?_
  rw [hd]
  exact Looks.now
end
section
variable {M : Model} {A : Around} {E : Value → Shared → Prop} {s : Shared} {env : Env} {h₀ : Heap} {L : Addr} {m : Str → Option Value} {news : List (Addr × Obj)}
def StarK (M : Model) (A : Around) (E : Value → Shared → Prop) (kwe : Expr) (env : Env) (f : Value) (Q : Value → Shared → Prop) (P : Shared → Prop) (s : Shared) : Prop :=
  wpAny M A (eval kwe env) (fun v s₂ => ∃ a, v = .ref a ∧ a ≠ sysModules ∧ s₂.heap.get? a = some emptyDict ∧ s₂.heap.get? s.heap.objs.size = some emptyDict ∧ Kp M s₂.heap f (P s₂)) E { s with heap := s.heap.push emptyDict }
theorem nCallStar {pos kp : Pos} {f : Value} {first : List Value} {e kwe : Expr} {rest : List Expr} {Q : Value → Shared → Prop}
    (h : wpAny M A (spliced (backTo pos (starEach (e :: rest) env))) (fun vs s₁ => StarK M A E kwe env f Q (fun s₂ => wpN M A (call f (first ++ vs)) Q E s₂) s₁) E s)
    (he : starEach (e :: rest) env = (false, eval e env) :: starEach rest env := by rfl) :
    wpN M A (callWith pos f first (backTo pos (starEach (e :: rest) env)) (backToKw pos (keywordEach [⟨none, kwe, kp⟩] env))) Q E s := by
  rw [he] at h ⊢
  refine nCallWith (evalArgs_star (wpAny_mono h (fun vs s₁ h₁ => ?_) fun _ _ z => z))
  refine wpAny_bind (wpAny_mono h₁ (fun v s₂ h₂ => wpAny_bind (wpAny_standAt (wpAny_pure ?_))) fun _ _ z => z)
  obtain ⟨a, e1, h1, h2, h3, h4, h5⟩ := h₂
  exact ⟨a, e1, h1, h2, h3, h4, h5⟩
theorem starNews {kwe : Expr} {f : Value} {Q : Value → Shared → Prop} {P : Shared → Prop} (F : Fr h₀ L s.heap m) (N : News h₀ L s.heap news)
    (h : ∀ D h', Fr h₀ L h' m → News h₀ L h' ((D, emptyDict) :: news) → (∀ p ∈ news, p.1 < D) →
      wpAny M A (eval kwe env) (fun v s₂ => ∃ a, v = .ref a ∧ a ≠ sysModules ∧ s₂.heap.get? a = some emptyDict ∧ s₂.heap.get? D = some emptyDict ∧ Kp M s₂.heap f (P s₂)) E { s with heap := h' }) : StarK M A E kwe env f Q P s :=
  h _ _ (F.push _) (N.push F _) (fun p hp => Heap.lt_size (N p hp).1)
end
end Mine
end

section
open PySem PySem.W PySem.Calls PyProof.Rows
set_option maxRecDepth 100000
set_option maxHeartbeats 4000000
namespace Mine
theorem enc_len {v : Int} (h0 : 0 ≤ v) (h1 : v < 18446744073709551616) : (enc v).length ≤ 9 := by
  rcases enc_cases h0 h1 with ⟨_, e⟩ | ⟨_, _, e⟩ | ⟨_, _, e⟩ | ⟨_, e⟩ <;> rw [e] <;> simp [le_length]
theorem retX {Q : Value → Shared → Prop} {S : Shared} {a b : Array UInt8} {t : Tok} (h : Q (.bytes a t) S) (e : b = a) : Q (.bytes b t) S := by rw [e]; exact h
theorem c_sser {w : World} {mean : ExcName → Option Value} {mg mb : Str → Option Value} {news : List (Addr × Obj)} (z dz : Addr) (u1 u2 : Tok) (b : Array UInt8) (hb1 : b.size < 10000000) (h0 : dz < z)
   (dp un : Nat) (gd : Option (List Code)) (cn : Str) (nms : List (Str × NameKind)) (ig ic : Bool) (mr : List (Str × Const)) (a : Addr) (ccd : Value) (cl : List (Str × Addr)) (outer : List Env) (A₀ : Around) (base h₀ : Heap) (L : Addr) (m : Str → Option Value) (s : Shared) (Q E : Value → Shared → Prop)
   (B : Below A₀ base outer h₀) (F : Fr h₀ L s.heap m) (X : (Mine.hd.heap_39 w.params).In h₀) (N : News h₀ L s.heap ((z, instObj 789 dz) :: (dz, scrD w b u1 u2) :: news)) (T : Top Mine.hd.view_39 LS mean mg mb h₀) 
    (hd : dp + 80 < recursionLimit) (hu : un + 400 < cLine)
    (hret : ∀ t h' tk', Fr h₀ L h' m → News h₀ L h' ((z, instObj 789 dz) :: (dz, scrD w b u1 u2) :: news) → Q (.bytes ((enc b.size).toArray ++ b) t) { s with heap := h', toks := tk' }) :
      wpN (model Challenge.rw_bd0009_01.row.prog w) (ktrTop dp un gd cn ⟨.function, nms, ig, ic, mr⟩ L a ccd cl outer) (call (.ref 656) [.ref z]) Q E s := by
  k_with_none
  k_with "n enter" => (refine' cDef ?zzk1 ?zzk2 ?zzk3 ?zzk4 ?zzk5 ?zzkA ?zzkF ?zzkK ?zzk6 ?zzk7 ?zzk8 ?zzk9 ?zzkB ?_ ?zzc2 ?zzc3 ?zzc4 ?zzc5; (case zzkA | zzkF | zzkK => exact rfl); (case zzk1 | zzk2 | zzk3 | zzk4 | zzk5 => k_asm); (case zzk6 | zzk7 => k_is); (case zzk8 => k_room); (case zzk9 => first | exact BindsTo.of_eq rfl | exact binds_K (by k_in) rfl (by k_is) rfl rfl rfl); (case zzc5 => decide); (case zzkB => exact locs rfl); (case zzc2 | zzc3 | zzc4 => exact rfl); intro g' L' h' FG' F' N' B' X' T'; (try dsimp only))
  k_with "n both" => (refine' cBoth (nm := Str.ofString "kwargs") (nr := Str.ofString "args") (front := [_]) ?zzk1 ?zzk2 ?zzk3 ?zzk4 ?zzk5 ?zzkA ?zzkF ?zzkK ?zzk6 ?zzk7 ?zzk8 ?zzkP ?zzkS ?zzkT ?zzkB ?_ ?zzc2 ?zzc3 ?zzc4 ?zzc5; (case zzkA | zzkF | zzkK => exact rfl); (case zzk1 | zzk2 | zzk3 | zzk4 | zzk5 => k_asm); (case zzk6 | zzk7 => k_is); (case zzk8 => k_room); (case zzkP => exact rfl); (case zzkS => exact fun _ => rfl); (case zzkT => exact fun _ _ => rfl); (case zzkB => exact fun _ _ => locs rfl); (case zzc5 => decide); (case zzc2 | zzc3 | zzc4 => exact rfl); intro C' D' g' L' h' tk' l1 l2 FG' F' N' B' X' T'; (try dsimp only))
  k_with "call builtin:len" => ((with_reducible show wpAny _ _ (call _ [Value.bytes _ _]) _ _ _); refine len_bytes (by omega) ?_)
  k_with "call ref" => (k_here; k_dflt (show wpAny _ _ (call (Value.ref 215) [Value.ref _]) _ _ _); k_dflt ((with_unfolding_all refine' c_value _ _ _ _ _ _ _ _ ?zzq1 ?zzq4 ?zzq5 ?zzq6 _ _ _ _ _ _ _ _ _ _ _ _ _ _ _ _ _ _ _ _ ?zzB ?zzF ?zzX ?zzN ?zzT ?zzhd ?zzhu ?_); (case zzB | zzF | zzX | zzN | zzT => k_asm); (case zzq1 | zzq4 | zzq5 => assumption); (case zzq6 => (repeat' (first | assumption | exact OffN.nil | (refine OffN.cons ?_ ?_ ?_ ?_; (focus k_ne); (focus k_ne); (focus k_ne)) | (refine OffN.of (by assumption) (by assumption) (by assumption))))); (case zzhd => ktr_room); (case zzhu => ktr_units); k_whole; intro t' h' tk' F' N'; (try k_sweep)))
  have X0 := X
  revert X0
  k_fill
  intro _
  have hz9 := sizeLine_eq
  have hq : (#[] ++ (enc (b.size : Int)).toArray ++ b).size ≤ sizeLine := by
    have := enc_len (v := (b.size : Int)) (by omega) (by omega)
    rw [Array.size_append, Array.size_append, List.size_toArray (as := enc (b.size : Int)), sizeLine_eq]
    simp only [List.size_toArray, List.length_nil]
    omega
  replace h0 := ltN h0
  refine nCall ?_
  refine' cBoth (nm := Str.ofString "kwargs") (nr := Str.ofString "args") (front := [(Str.ofString "self", Value.ref z)]) ?k1 ?k2 ?k3 ?k4 ?k5 ?kA ?kF ?kK ?k6 ?k7 ?k8 ?kP ?kS ?kT ?kB ?_ ?c2 ?c3 ?c4 ?c5
  case kA => exact rfl
  case kF => exact rfl
  case kK => exact rfl
  case k1 => k_asm
  case k2 => k_asm
  case k3 => k_asm
  case k4 => k_asm
  case k5 => k_asm
  case k6 => k_is
  case k7 => k_is
  case k8 => k_room
  case kP => exact rfl
  case kS => exact fun _ => rfl
  case kT => exact fun _ _ => rfl
  case kB => exact fun _ _ => locs rfl
  case c5 => decide
  case c2 => exact rfl
  case c3 => exact rfl
  case c4 => exact rfl
  intro C' D' g' L' h' tk' l1 l2 FG' F' N' B' X' T'
  have hD1 : @Ne Nat D' 1 := by
    have a1 : @LT.lt Nat _ z C' := l1 _ (.head _)
    have a2 : @LT.lt Nat _ C' D' := l2
    omega
  (try dsimp only)
  (try k_sweep)
  refine nExecsCons (nAssignName (nCallName ?_))
  k_steps
  refine nCallW0 ?_
  refine Kp.of .machine (Looks.of_peek (by k_in) (pk_keepBio _ _)) ?_
  refine' c_bio0 _ _ _ _ _ _ _ _ _ _ _ _ _ _ _ _ _ _ _ _ ?B ?F ?X ?N ?T ?hd ?hu ?_
  case B => k_asm
  case F => k_asm
  case X => k_asm
  case N => k_asm
  case T => k_asm
  case hd => ktr_room
  case hu => ktr_units
  intro x dx y t1 t2 t3 h' tk' F' N' l3 l4 l5
  have h3x : OffN x dx y ((z, instObj 789 dz) :: (dz, scrD w b u1 u2) :: news) := OffN.of l4 l5 l3.2.2
  (try k_sweep)
  k_steps
  refine nExecsCons (nExpr (nCallAttrStar ?_))
  k_steps
  refine nCallStar ?_
  k_steps
  refine starNews (by k_asm) (by k_asm) ?_
  intro D9 h' F' N' l6
  (try k_lt l6); (try k_sweep)
  k_steps
  · exact hD1
  · exact newsAt (by k_asm) (by k_mem)
  · exact newsAt (by k_asm) (by k_mem)
  refine Kp.of .boundFrame (lk_method (newsAt (by k_asm) (by k_mem)) ((show Frag.In _ _ by k_in) 745 _ rfl) rfl) ?_
  refine nMethod (newsAt (by k_asm) (by k_mem)) ?_
  refine' cs_swrite (news := news) z dz x dx y t1 t2 t3 u1 u2 #[] b 0 rfl ?hb ?hb1 l4 l5 ?h3 _ _ _ _ _ _ _ _ _ _ _ _ _ _ _ _ _ _ _ _ ?B ?F ?X ?N ?T ?hd ?hu ?_
  case hb => (show (#[] : Array UInt8).size + b.size + 9 ≤ sizeLine; rw [sizeLine_eq]; simp only [List.size_toArray, List.length_nil]; omega)
  case hb1 => omega
  case h3 => exact h3x
  case B => k_asm
  case F => k_asm
  case X => k_asm
  case N => exact cb_drop (by assumption) (by kcj_all)
  case T => k_asm
  case hd => ktr_room
  case hu => ktr_units
  intro p' t1' t2' t3' r t' h' tk' ep F' N'
  (try k_sweep)
  refine wpAny_dropValue ?_
  refine nOf ?_
  k_steps
  (try rw [Array.empty_append])
  exact hret _ _ _ (by k_asm) (cb_drop (by assumption) (by kcj_all))
end Mine
end

section
open PySem PySem.W PySem.Calls PyProof.Rows
set_option maxRecDepth 100000
set_option maxHeartbeats 4000000
namespace Mine
theorem cs_read {w : World} {mean : ExcName → Option Value} {mg mb : Str → Option Value} {news : List (Addr × Obj)} (x dx y : Addr) (t1 t2 t3 : Tok) (b d : Array UInt8) (hb1 : d.size < 10000000) (hbd : b = (enc d.size).toArray ++ d) (h1 : dx < x) (h2 : x < y) (h3 : OffN x dx y news)
   (dp un : Nat) (gd : Option (List Code)) (cn : Str) (nms : List (Str × NameKind)) (ig ic : Bool) (mr : List (Str × Const)) (a : Addr) (ccd : Value) (cl : List (Str × Addr)) (outer : List Env) (A₀ : Around) (base h₀ : Heap) (L : Addr) (m : Str → Option Value) (s : Shared) (Q E : Value → Shared → Prop)
   (B : Below A₀ base outer h₀) (F : Fr h₀ L s.heap m) (X : (Mine.hd.heap_39 w.params).In h₀) (N : News h₀ L s.heap ((x, instObj 329 dx) :: (dx, bioD w y 0 t1 t2 t3) :: (y, baObj b) :: news)) (T : Top Mine.hd.view_39 LS mean mg mb h₀) 
    (hd : dp + 50 < recursionLimit) (hu : un + 200 < cLine)
    (hret : ∀ z dz u1 u2 p' t1 t2 t3 h' tk', p' = (b.size : Int) → Fr h₀ L h' m → News h₀ L h' ((z, instObj 789 dz) :: (dz, scrD w d u1 u2) :: (x, instObj 329 dx) :: (dx, bioD w y p' t1 t2 t3) :: (y, baObj b) :: news) → AllLt dz ((x, instObj 329 dx) :: (dx, bioD w y p' t1 t2 t3) :: (y, baObj b) :: news) → dz < z → Q (.ref z) { s with heap := h', toks := tk' }) :
      codeN (model Challenge.rw_bd0009_01.row.prog w) (ktrTop dp un gd cn ⟨.function, nms, ig, ic, mr⟩ L a ccd cl outer) (.call (.ref 752) ⟨[.ref 789, .ref x], []⟩) (fun r s' => match r with | .ok (.ret v) => Q v s' | .ok _ => False | .error e => E e s') s := by
  k_with_none
  k_with "n enter" => (refine' cDef ?zzk1 ?zzk2 ?zzk3 ?zzk4 ?zzk5 ?zzkA ?zzkF ?zzkK ?zzk6 ?zzk7 ?zzk8 ?zzk9 ?zzkB ?_ ?zzc2 ?zzc3 ?zzc4 ?zzc5; (case zzkA | zzkF | zzkK => exact rfl); (case zzk1 | zzk2 | zzk3 | zzk4 | zzk5 => k_asm); (case zzk6 | zzk7 => k_is); (case zzk8 => k_room); (case zzk9 => first | exact BindsTo.of_eq rfl | exact binds_K (by k_in) rfl (by k_is) rfl rfl rfl); (case zzc5 => decide); (case zzkB => exact locs rfl); (case zzc2 | zzc3 | zzc4 => exact rfl); intro g' L' h' FG' F' N' B' X' T'; (try dsimp only))
  k_with "call ref" => (k_here; (with_reducible show wpAny _ _ (call (Value.ref 253) [Value.ref _, Value.int _ _]) _ _ _); k_dflt ((with_unfolding_all refine' c_readX _ _ ?zzhr ?zzq1 ?zzq2 ?zzq3 ?zzq4 ?zzq5 ?zzq6 ?zzq7 ?zzB ?zzF ?zzX ?zzN ?zzT ?zzhd ?zzhu ?_); (case zzB | zzF | zzX | zzN | zzT => k_asm); (case zzhr => assumption); (case zzq1 | zzq2 | zzq3 => omega); (case zzq4 | zzq5 | zzq6 => assumption); (case zzq7 => (repeat' (first | assumption | exact OffN.nil | (refine OffN.cons ?_ ?_ ?_ ?_; (focus k_ne); (focus k_ne); (focus k_ne)) | (refine OffN.of (by assumption) (by assumption) (by assumption))))); (case zzhd => ktr_room); (case zzhu => ktr_units); k_whole; intro t1' t2' t3' t' h' tk' F' N'; (try k_sweep)))
  k_with "call ref" => (k_here; (with_reducible show wpAny _ _ (call (Value.ref 592) [Value.ref _]) _ _ _); k_dflt ((with_unfolding_all refine' c_readfrom _ _ _ _ _ _ _ _ _ _ ?zzq1 ?zzq4 ?zzq5 ?zzq6 ?zzq7 ?zzq2 ?zzq3 ?zzhr _ _ _ _ _ _ _ _ _ _ _ _ _ _ _ _ _ _ _ _ ?zzB ?zzF ?zzX ?zzN ?zzT ?zzhd ?zzhu ?_); (case zzB | zzF | zzX | zzN | zzT => k_asm); (case zzhr => (show DropAt _ _ _ _); assumption); (case zzq1 | zzq2 | zzq3 => omega); (case zzq4 | zzq5 | zzq6 => assumption); (case zzq7 => (repeat' (first | assumption | exact OffN.nil | (refine OffN.cons ?_ ?_ ?_ ?_; (focus k_ne); (focus k_ne); (focus k_ne)) | (refine OffN.of (by assumption) (by assumption) (by assumption))))); (case zzhd => ktr_room); (case zzhu => ktr_units); k_whole; intro p' t1' t2' t3' t' h' tk' e' F' N'; (try subst e'); (try k_sweep)))
  k_with "ite" => (k_here; first | (refine ite_pos (by omega) ?_) | (refine ite_neg (by omega) ?_))
  k_with "call builtin:len" => ((with_reducible show wpAny _ _ (call _ [Value.bytes _ _]) _ _ _); refine len_bytes (by omega) ?_)
  have X0 := X
  revert X0
  k_fill
  intro _
  have hz9 := sizeLine_eq
  replace h1 := ltN h1
  replace h2 := ltN h2
  have el := enc_len (v := (d.size : Int)) (by omega) (by omega)
  have hs : b.size = (enc (d.size : Int)).length + d.size := by rw [hbd, Array.size_append, List.size_toArray (as := enc (d.size : Int))]
  have hbs : b.size ≤ sizeLine := by omega
  have hD : DropAt b 0 d.size d.toList := by unfold DropAt; rw [hbd]; simp
  have hR : RdAt b (0 + ((enc (d.size : Int)).length : Int)) d.size d b.size := by
    refine ⟨?_, by omega⟩
    apply Array.ext'
    have e1 : (0 + ((enc (d.size : Int)).length : Int)).toNat = (enc (d.size : Int)).length := by omega
    have e2 : (0 + ((enc (d.size : Int)).length : Int) + (d.size : Int)).toNat - (enc (d.size : Int)).length = d.toList.length := by have e3 : d.toList.length = d.size := Array.length_toList; omega
    rw [Array.toList_extract, List.extract_eq_take_drop, e1, e2, hbd, Array.toList_append, List.drop_left, List.take_length]
  refine' cDef ?k1 ?k2 ?k3 ?k4 ?k5 ?kA ?kF ?kK ?k6 ?k7 ?k8 ?k9 ?kB ?_ ?c2 ?c3 ?c4 ?c5
  case kA => exact rfl
  case kF => exact rfl
  case kK => exact rfl
  case k1 => k_asm
  case k2 => k_asm
  case k3 => k_asm
  case k4 => k_asm
  case k5 => k_asm
  case k6 => k_is
  case k7 => k_is
  case k8 => k_room
  case k9 => first | exact BindsTo.of_eq rfl | exact binds_K (by k_in) rfl (by k_is) rfl rfl rfl
  case c5 => decide
  case kB => exact locs rfl
  case c2 => exact rfl
  case c3 => exact rfl
  case c4 => exact rfl
  intro g' L' h' FG' F' N' B' X' T'
  (try dsimp only)
  refine nOf ?_
  k_steps
  all_goals first | (exfalso; omega) | exact hret _ _ _ _ _ _ _ _ _ _ rfl (by k_asm) (cb_drop (by assumption) (by kcj_all)) (by (show _ ∧ _ ∧ _ ∧ _); assumption) (by assumption)
end Mine
end

section
open PySem PySem.W PySem.Calls PyProof.Rows
set_option maxRecDepth 100000
set_option maxHeartbeats 4000000
namespace Mine
theorem rd_end {b : Array UInt8} {p : Int} (h : p = (b.size : Int)) : RdAt b p 1 #[] p := by
  subst h
  refine ⟨?_, by omega⟩
  apply Array.ext'
  rw [Array.toList_extract, List.extract_eq_take_drop, List.drop_of_length_le (by rw [Array.length_toList]; omega)]
  simp
theorem cs_parse {w : World} {mean : ExcName → Option Value} {mg mb : Str → Option Value} {news : List (Addr × Obj)} (b d : Array UInt8) (t : Tok) (hb1 : d.size < 10000000) (hbd : b = (enc d.size).toArray ++ d) (q : Addr) (oq : Obj) (hq : (q, oq) ∈ news) (hq1 : @LT.lt Nat _ 0 q)
   (dp un : Nat) (gd : Option (List Code)) (cn : Str) (nms : List (Str × NameKind)) (ig ic : Bool) (mr : List (Str × Const)) (a : Addr) (ccd : Value) (cl : List (Str × Addr)) (outer : List Env) (A₀ : Around) (base h₀ : Heap) (L : Addr) (m : Str → Option Value) (s : Shared) (Q E : Value → Shared → Prop)
   (B : Below A₀ base outer h₀) (F : Fr h₀ L s.heap m) (X : (Mine.hd.heap_39 w.params).In h₀) (N : News h₀ L s.heap news) (T : Top Mine.hd.view_39 LS mean mg mb h₀) 
    (hd : dp + 80 < recursionLimit) (hu : un + 400 < cLine)
    (hret : ∀ z dz u1 u2 h' tk', Fr h₀ L h' m → News h₀ L h' ((z, instObj 789 dz) :: (dz, scrD w d u1 u2) :: news) → AllLt dz news → dz < z → Q (.ref z) { s with heap := h', toks := tk' }) :
      codeN (model Challenge.rw_bd0009_01.row.prog w) (ktrTop dp un gd cn ⟨.function, nms, ig, ic, mr⟩ L a ccd cl outer) (.call (.ref 639) ⟨[.ref 789, .bytes b t], []⟩) (fun r s' => match r with | .ok (.ret v) => Q v s' | .ok _ => False | .error e => E e s') s := by
  k_with_none
  k_with "call ref" => (k_here; (with_reducible show wpAny _ _ (call (Value.ref 253) [Value.ref _, Value.int _ _]) _ _ _); k_dflt ((with_unfolding_all refine' c_readX _ _ ?zzhr ?zzq1 ?zzq2 ?zzq3 ?zzq4 ?zzq5 ?zzq6 ?zzq7 ?zzB ?zzF ?zzX ?zzN ?zzT ?zzhd ?zzhu ?_); (case zzB | zzF | zzX | zzN | zzT => k_asm); (case zzhr => assumption); (case zzq1 | zzq2 | zzq3 => omega); (case zzq4 | zzq5 | zzq6 => assumption); (case zzq7 => (repeat' (first | assumption | exact OffN.nil | (refine OffN.cons ?_ ?_ ?_ ?_; (focus k_ne); (focus k_ne); (focus k_ne)) | (refine OffN.of (by assumption) (by assumption) (by assumption))))); (case zzhd => ktr_room); (case zzhu => ktr_units); k_whole; intro t1' t2' t3' t' h' tk' F' N'; (try k_sweep)))
  k_with "ite" => (k_here; first | (refine ite_pos (by omega) ?_) | (refine ite_neg (by omega) ?_))
  k_with "call builtin:len" => ((with_reducible show wpAny _ _ (call _ [Value.bytes _ _]) _ _ _); refine len_bytes (by omega) ?_)
  k_with "call ref" => (k_here; (with_reducible show wpAny _ _ (call (Value.ref 253) [Value.ref _, Value.int _ _]) _ _ _); k_dflt ((with_unfolding_all refine' c_readP [_, _] _ _ ?zzhr ?zzq1 ?zzq2 ?zzq3 ?zzq4 ?zzq5 ?zzq6 ?zzq7 ?zzq8 ?zzB ?zzF ?zzX ?zzN ?zzT ?zzhd ?zzhu ?_); (case zzB | zzF | zzX | zzN | zzT => k_asm); (case zzhr => assumption); (case zzq1 | zzq2 | zzq3 => omega); (case zzq4 | zzq5 | zzq6 => assumption); (case zzq7 | zzq8 => (repeat' (first | assumption | exact OffN.nil | (refine OffN.cons ?_ ?_ ?_ ?_; (focus k_ne); (focus k_ne); (focus k_ne)) | (refine OffN.of (by assumption) (by assumption) (by assumption))))); (case zzhd => ktr_room); (case zzhu => ktr_units); k_whole; intro t1' t2' t3' t' h' tk' F' N'; (try simp only [List.cons_append, List.nil_append] at N'); (try k_sweep)))
  have X0 := X
  revert X0
  k_fill
  intro _
  have hz9 := sizeLine_eq
  have el := enc_len (v := (d.size : Int)) (by omega) (by omega)
  have hs : b.size = (enc (d.size : Int)).length + d.size := by rw [hbd, Array.size_append, List.size_toArray (as := enc (d.size : Int))]
  have hbs : b.size ≤ sizeLine := by omega
  refine' cBoth (nm := Str.ofString "kwargs") (nr := Str.ofString "args") (front := [(Str.ofString "cls", Value.ref 789), (Str.ofString "s", Value.bytes b t)]) ?k1 ?k2 ?k3 ?k4 ?k5 ?kA ?kF ?kK ?k6 ?k7 ?k8 ?kP ?kS ?kT ?kB ?_ ?c2 ?c3 ?c4 ?c5
  case kA => exact rfl
  case kF => exact rfl
  case kK => exact rfl
  case k1 => k_asm
  case k2 => k_asm
  case k3 => k_asm
  case k4 => k_asm
  case k5 => k_asm
  case k6 => k_is
  case k7 => k_is
  case k8 => k_room
  case kP => exact rfl
  case kS => exact fun _ => rfl
  case kT => exact fun _ _ => rfl
  case kB => exact fun _ _ => locs rfl
  case c5 => decide
  case c2 => exact rfl
  case c3 => exact rfl
  case c4 => exact rfl
  intro C' D' g' L' h' tk' l1 l2 FG' F' N' B' X' T'
  have hD1 : @Ne Nat D' 1 := by
    have a1 : @LT.lt Nat _ q C' := l1 _ hq
    have a2 : @LT.lt Nat _ C' D' := l2
    omega
  (try k_sweep)
  refine nExecsCons (nAssignName (nCallName ?_))
  k_steps
  refine nCallW ?_
  k_steps
  refine Kp.of .machine (Looks.of_peek (by k_in) (pk_keepBio _ _)) ?_
  refine' c_bio1 _ _ hbs _ _ _ _ _ _ _ _ _ _ _ _ _ _ _ _ _ _ _ _ ?B ?F ?X ?N ?T ?hd ?hu ?_
  case B => k_asm
  case F => k_asm
  case X => k_asm
  case N => k_asm
  case T => k_asm
  case hd => ktr_room
  case hu => ktr_units
  intro x dx y t1 t2 t3 h' tk' F' N' l3 l4 l5
  have h3x : OffN x dx y news := OffN.of l4 l5 l3.2.2
  (try k_sweep)
  k_steps
  refine nExecsCons (nAssignName (nCallAttrStar ?_))
  k_steps
  refine nCallStar ?_
  k_steps
  refine starNews (by k_asm) (by k_asm) ?_
  intro D9 h' F' N' l6
  (try k_lt l6); (try k_sweep)
  k_steps
  · exact hD1
  · exact newsAt (by k_asm) (by k_mem)
  · exact newsAt (by k_asm) (by k_mem)
  refine Kp.of .boundFrame (lk_method (newsAt (by k_asm) (by k_mem)) ((show Frag.In _ _ by k_in) 752 _ rfl) rfl) ?_
  refine nMethod (newsAt (by k_asm) (by k_mem)) ?_
  refine' cs_read (news := news) x dx y t1 t2 t3 b d hb1 hbd l4 l5 h3x _ _ _ _ _ _ _ _ _ _ _ _ _ _ _ _ _ _ _ _ ?B ?F ?X ?N ?T ?hd ?hu ?_
  case B => k_asm
  case F => k_asm
  case X => k_asm
  case N => exact cb_drop (by assumption) (by kcj_all)
  case T => k_asm
  case hd => ktr_room
  case hu => ktr_units
  intro z dz u1 u2 p' t1' t2' t3' h' tk' ep F' N' l7 l8
  (try k_sweep)
  obtain ⟨l7a, l7b, l7c, l7d⟩ := l7
  replace l7a := ltN l7a
  replace l7b := ltN l7b
  replace l7c := ltN l7c
  replace l8 := ltN l8
  have hR := rd_end ep
  have hp0 : 0 ≤ p' := by omega
  k_steps
  refine nOf ?_
  k_steps
  exact hret z dz u1 u2 _ _ (by k_asm) (cb_drop (by assumption) (by kcj_all)) l7d l8
end Mine
end

section
open PySem PySem.Spec PySem.W PySem.Calls PyProof.Rows
set_option maxRecDepth 100000
set_option maxHeartbeats 4000000
namespace Mine
section
variable {α : Type} {M : Model} {A : Around} {E : Value → Shared → Prop} {s : Shared} {env : Env}
theorem nNoted {m : Sem α} {Q : α → Shared → Prop} (h : wpN M A m Q (notedBy M A env E) s) : wpN M A (m.onRaise fun x => do noteFrame x env; theTreesLotGoes x) Q E s :=
  nOnRaise (nMono h (fun _ _ q => q) fun _ _ hx => nOf (wpAny_bind (wpAny_mono hx (fun _ _ e => wpAny_theTreesLotGoes e) fun _ _ e => e)))
theorem cLoop {c : Code} {R : Result → Shared → Prop} (hb : bad c = false) (hq : c.quiet = true) (I : Nat → Shared → Prop)
    (turn : ∀ n s, I n s → wpN M (A.under c) (M.den c)
      (fun fin s' => match fin with
        | .done f => R (.ok f) s'
        | .again c' => (c' = c ∧ ∃ m, m < n ∧ I m s') ∨ (c'.quiet = true ∧ codeN M A c' R s')) (fun e s' => R (.error e) s') s)
    (n : Nat) (h : I n s) : codeN M A c R s := by
  induction n using Nat.strongRecOn generalizing s with
  | ind n ih =>
    refine cOfTree hb (nMono (turn n s h) (fun fin s' hf => ?_) fun _ _ h' => h')
    cases fin with
    | done f => exact hf
    | again c' =>
      rcases hf with ⟨rfl, m, hm, hI⟩ | hf
      · exact ⟨hq, ih m hm hI⟩
      · exact hf
theorem nFor {target iter body orelse pos} {Q : Flow → Shared → Prop}
    (h : wpAny M A (eval iter env) (fun x s₁ => wpAny M A (pyIter x) (fun it s₂ =>
      codeN M A (.forLoop target it body orelse env) (fun r s' => match r with | .ok f => Q f s' | .error e => cameBackBy M A env E e s') s₂) E s₁) E s)
    (hs : ∀ x, foldedSetIterable iter env x = pure x := by intro _; rfl) :
    wpN M A (exec (.For target iter body orelse pos) env) Q E s := by
  rw [exec_For]
  refine nBind (nStandAt (aBind (wpAny_mono h (fun x s₁ h₁ => ?_) fun _ _ h' => h')))
  refine aBind (wpAny_of_eq (hs x) (nBind (nStandAt (nBind (nHolding (nOf (wpAny_mono h₁ (fun it s₂ h₂ => ?_) fun _ _ h' => h')))))))
  exact nRunOwn h₂
end
section
variable {prog : Program} {w : World} {A : Around} {E : Value → Shared → Prop} {s : Shared} {env : Env}
theorem cBlock {stmts : List Stmt} {R : Result → Shared → Prop}
    (h : wpN (model prog w) A (execs stmts env) (fun f s' => R (.ok f) s') (notedBy (model prog w) A env fun e s' => R (.error e) s') s) : codeN (model prog w) A (.block stmts env) R s := by
  refine cOfTree rfl ?_
  show wpN _ _ (do return Fin.done (← (execs stmts env).onRaise (fun x => do noteFrame x env; theTreesLotGoes x))) _ _ s
  exact nBind (nNoted (nMono h (fun f s' h' => nPure h') fun _ _ h' => h'))
theorem cFor {R : Result → Shared → Prop} {target it body orelse} (I : Nat → Shared → Prop)
    (turn : ∀ n s, I n s → wpAny (model prog w) A (pyNext it) (fun r s₁ => match r with
      | none => wpN (model prog w) A (execs orelse env) (fun f s₃ => R (.ok f) s₃) (notedBy (model prog w) A env fun e s' => R (.error e) s') s₁
      | some v => wpAny (model prog w) A (letOwnedTupleGo target it v) (fun _ s₁' =>
          wpAny (model prog w) A (assign target env v) (fun _ s₂ => wpN (model prog w) A (execs body env) (fun f s₃ => match f with
            | .next | .cont => ∃ m, m < n ∧ I m s₃
            | .brk => R (.ok .next) s₃
            | .ret v => R (.ok (.ret v)) s₃) (notedBy (model prog w) A env fun e s' => R (.error e) s') s₂) (notedBy (model prog w) A env fun e s' => R (.error e) s') s₁') (notedBy (model prog w) A env fun e s' => R (.error e) s') s₁) (notedBy (model prog w) A env fun e s' => R (.error e) s') s)
    (n : Nat) (h : I n s) : codeN (model prog w) A (.forLoop target it body orelse env) R s := by
  refine cLoop rfl rfl I (fun n s hI => ?_) n h
  show wpN _ A ((forTurn target it body orelse env).onRaise (fun x => do noteFrame x env; theTreesLotGoes x)) _ _ s
  refine nNoted ?_
  simp only [forTurn]
  refine nBind (nStandAt (nBind (nOnRaise (nOf (wpAny_mono (turn n s hI) (fun r s₁ h₁ => ?_) fun _ _ h' => nStandAt h')))))
  cases r with
  | none => exact nPure (.inr ⟨rfl, cBlock h₁⟩)
  | some v =>
    refine aBind (wpAny_mono h₁ (fun _ s₁' h₁' => ?_) fun _ _ h' => h')
    refine aBind (wpAny_mono h₁' (fun _ s₂ h₂ => nBind (nMono h₂ (fun f s₃ h₃ => ?_) fun _ _ h' => h')) fun _ _ h' => h')
    cases f with
    | next => exact nPure (.inl ⟨rfl, h₃⟩)
    | cont => exact nPure (.inl ⟨rfl, h₃⟩)
    | brk => exact nPure h₃
    | ret v => exact nPure h₃
end
end Mine
end

section
open PySem PySem.Spec PySem.W PySem.Calls PyProof.Rows
set_option maxRecDepth 100000
set_option maxHeartbeats 4000000
namespace Mine
def IterAt (o : Obj) (l : Addr) (i : Nat) : Prop := o.cls = .type "list_iterator" ∧ o.data = .fields #[.ref l, .int i 0]
/-- what a turn of the loop leaves -/
def TurnL (h₀ : Heap) (L I : Addr) (oI : Obj) (J : (Str → Option Value) → List (Addr × Obj) → Prop) (s : Shared) (R : Result → Shared → Prop) (f : Flow) (s₂ : Shared) : Prop :=
  match f with
  | .brk => R (.ok .next) s₂
  | .ret v => R (.ok (.ret v)) s₂
  | _ => ∃ h' tk' m₂ news₂, s₂ = { s with heap := h', toks := tk' } ∧ J m₂ news₂ ∧ Fr h₀ L h' m₂ ∧ News h₀ L h' ((I, oI) :: news₂)
theorem less_left {i n : Nat} (h : i < n) : n + 1 - (i + 1) < n + 1 - i := Nat.sub_lt_sub_left (Nat.lt_succ_of_lt h) (Nat.lt_succ_self i)
theorem at_end {i n : Nat} (h : i ≤ n) (k : ¬ i < n) : i = n := Nat.le_antisymm h (Nat.not_lt.mp k)
/-- how it stands between two turns of a loop -/
inductive InvL (h₀ : Heap) (L : Addr) (s : Shared) (I : Addr) (St : Nat → Heap → Obj → Prop) (J : Nat → (Str → Option Value) → List (Addr × Obj) → Prop) (n k : Nat) : Shared → Prop
  | mk (h' : Heap) (tk : Nat) (m' : Str → Option Value) (news' : List (Addr × Obj)) (i : Nat) (oI : Obj) (a : St i h' oI) (F : Fr h₀ L h' m') (N : News h₀ L h' ((I, oI) :: news')) (j : J i m' news') (hi : i ≤ n) (hk : k = n + 1 - i) :
      InvL h₀ L s I St J n k { s with heap := h', toks := tk }
section
variable {prog : Program} {w : World} {A : Around} {s : Shared} {env : Env} {h₀ : Heap}
theorem cForList {R : Result → Shared → Prop} {x : Str} {px : Pos} {body : List Stmt} {I l : Addr} {lo oI : Obj} {items : Array Value} {nl : Nat} {m : Str → Option Value} {news : List (Addr × Obj)}
    (hh : A.handled = none) (hx : env.kindOf x = some .local) (hp : (env.scope.kind == .class || (env.scope.kind == .module && env.locals != env.globals)) = false)
    (hlc : lo.cls = .type "list") (hld : lo.data = .seq items nl)
    (F : Fr h₀ env.locals s.heap m) (N : News h₀ env.locals s.heap ((I, oI) :: news)) (hI : IterAt oI l 0)
    (J : Nat → (Str → Option Value) → List (Addr × Obj) → Prop) (h0 : J 0 m news)
    (hJ : ∀ i m' news', J i m' news' → (l, lo) ∈ news' ∧ ∀ p ∈ news', p.1 ≠ I)
    (step : ∀ i v m₁ news₁ oI h tk, items[i]? = some v → J i m₁ news₁ → Fr h₀ env.locals h (fun y => if y = x then some v else m₁ y) → News h₀ env.locals h ((I, oI) :: news₁) →
      wpN (model prog w) A (execs body env) (TurnL h₀ env.locals I oI (J (i + 1)) s R) (notedBy (model prog w) A env fun e s' => R (.error e) s') { s with heap := h, toks := tk })
    (hR : ∀ h' tk m' news', Fr h₀ env.locals h' m' → News h₀ env.locals h' news' → J items.size m' news' → R (.ok .next) { s with heap := h', toks := tk }) :
    codeN (model prog w) A (.forLoop (.Name x px) (.ref I) body [] env) R s := by
  refine cFor (InvL h₀ env.locals s I (fun i _ o => IterAt o l i) J items.size) ?_ (items.size + 1) (InvL.mk s.heap s.toks m news 0 oI hI F N h0 (Nat.zero_le _) rfl)
  rintro k _ ⟨h', tk, m', news', i, oI, hI, F', N', hj, hi, rfl⟩
  obtain ⟨hl, hni⟩ := hJ _ _ _ hj
  have hit : h'.IsListIter I l i := ⟨oI, (N' _ (.head _)).1, hI.1, hI.2⟩
  have hli : h'.IsList l items := ⟨lo, (N' _ (.tail _ hl)).1, hlc, nl, hld⟩
  have hIL : env.locals ≠ I := fun e => (N' _ (.head _)).2.1 e.symm
  have hnone : h₀.get? I = none := (N' _ (.head _)).2.2
  have next : ∀ h₁ : Heap, Heap.ExtBut I h' h₁ → Fr h₀ env.locals h₁ m' ∧ News h₀ env.locals h₁ news' := fun h₁ hk₁ =>
    ⟨⟨F'.ns.at' fun o e => hk₁ _ o hIL e, fun b o e => hk₁ b o (fun q => by rw [q, hnone] at e; cases e) (F'.keep b o e), F'.above⟩,
      fun p hp => ⟨hk₁ _ _ (hni p hp) (N' p (.tail _ hp)).1, (N' p (.tail _ hp)).2⟩⟩
  by_cases hlt : i < items.size
  · have hv : items[i]? = some items[i] := Array.getElem?_eq_getElem hlt
    refine wpAny_pyNext_list_item hit hli hv (fun h₁ hit₁ hs₁ => ?_)
    obtain ⟨F₁, N₁⟩ := next h₁ hs₁.extBut
    obtain ⟨oI', ho', hc', hd'⟩ := hit₁
    refine wpAny_of_eq (a := ()) rfl ?_
    refine wpAny_assign_Name (wpAny_storeName_local hx F₁.ns (fun h₂ hn₂ hs₂ => ?_) hp)
    have F₂ := F₁.set hn₂ hs₂
    have NI : News h₀ env.locals h₁ ((I, oI') :: news') := fun p hp => by
      rcases List.mem_cons.mp hp with e | hp
      · rw [e]; exact ⟨ho', (N' _ (.head _)).2⟩
      · exact N₁ p hp
    refine nMono (step i _ m' news' oI' h₂ _ hv hj F₂ (NI.set hs₂)) (fun f s₃ h₃ => ?_) fun _ _ e => e
    have go : (∃ h' tk' m₂ news₂, s₃ = { s with heap := h', toks := tk' } ∧ J (i + 1) m₂ news₂ ∧ Fr h₀ env.locals h' m₂ ∧ News h₀ env.locals h' ((I, oI') :: news₂)) →
        ∃ k, k < items.size + 1 - i ∧ InvL h₀ env.locals s I (fun i _ o => IterAt o l i) J items.size k s₃ := by
      rintro ⟨h', tk', m₂, news₂, rfl, j, F₃, N₃⟩
      exact ⟨items.size + 1 - (i + 1), less_left hlt, InvL.mk h' tk' m₂ news₂ (i + 1) oI' ⟨hc', hd'⟩ F₃ N₃ j hlt rfl⟩
    cases f with
    | next => exact go h₃
    | cont => exact go h₃
    | brk => exact h₃
    | ret v => exact h₃
  · have hin : i = items.size := at_end hi hlt
    subst hin
    refine wpAny_pyNext_list_end hh hit hli (Array.getElem?_eq_none (Nat.le_refl _)) (fun h₁ hk₁ => ?_)
    obtain ⟨F₁, N₁⟩ := next h₁ hk₁
    exact nOf (wpAny_execs_nil (hR h₁ tk m' news' F₁ N₁ hj))
end
end Mine
end

section
open PySem PySem.W PySem.Calls PyProof.Rows
set_option maxRecDepth 100000
set_option maxHeartbeats 4000000
namespace Mine
theorem pick_all {ws : List Value} : kms_pick ws.toArray.toList none none = ws := by
  simp [kms_pick, kms_lo, kms_hi]
theorem list_at {h₀ h : Heap} {L a : Addr} {ws : List Value} {n : Nat} {news : List (Addr × Obj)} (N : News h₀ L h news) (hm : (a, listOf ws.toArray n) ∈ news) : h.IsList a ws.toArray := ⟨_, (N _ hm).1, rfl, n, rfl⟩
abbrev witD (w : World) (ll : Addr) (t1 : Tok) : Obj := dictOf [⟨PyData.keyHash w.params (Str.ofString "items"), .str (Str.ofString "items") t1, .ref ll⟩] 1
theorem c_witness {w : World} {mean : ExcName → Option Value} {mg mb : Str → Option Value} {news : List (Addr × Obj)} (l : Addr) (ws : List Value) (n : Nat) (hz : ws.toArray.size ≤ sizeLine) 
   (dp un : Nat) (gd : Option (List Code)) (cn : Str) (nms : List (Str × NameKind)) (ig ic : Bool) (mr : List (Str × Const)) (a : Addr) (ccd : Value) (cl : List (Str × Addr)) (outer : List Env) (A₀ : Around) (base h₀ : Heap) (L : Addr) (m : Str → Option Value) (s : Shared) (Q E : Value → Shared → Prop)
   (B : Below A₀ base outer h₀) (F : Fr h₀ L s.heap m) (X : (Mine.hd.heap_39 w.params).In h₀) (N : News h₀ L s.heap ((l, listOf ws.toArray n) :: news)) (T : Top Mine.hd.view_39 LS mean mg mb h₀) 
    (hd : dp + 20 < recursionLimit) (hu : un + 100 < cLine)
    (hret : ∀ z dz ll t1 h' tk', Fr h₀ L h' m → News h₀ L h' ((z, instObj 834 dz) :: (dz, witD w ll t1) :: (ll, listOf ws.toArray 0) :: (l, listOf ws.toArray n) :: news) → AllLt dz ((l, listOf ws.toArray n) :: news) → dz < z → z < ll → Q (.ref z) { s with heap := h', toks := tk' }) :
      wpAny (model Challenge.rw_bd0009_01.row.prog w) (ktrTop dp un gd cn ⟨.function, nms, ig, ic, mr⟩ L a ccd cl outer) (call (.ref 834) [.ref l]) Q E s := by
  k_with_none
  k_with "subscriptTail Name Slice ref ref" => (k_here; k_dflt (refine' kms_slice_lit ?zzF ?zzN ?zzl ?zzp ?zzq ?zze ?_ ?zzs ?zzt ?zzz; (case zzF | zzN => k_asm); (case zzl => exact list_at (by k_asm) (by first | k_mem | (simp only [List.mem_cons]; simp_all))); (case zzp | zzq => kmk_part); (case zze => exact pick_all); (case zzs => with_unfolding_all rfl); (case zzt => kmk_pure); (case zzz => assumption)); intro D' h' F' N' l1; (try k_lt l1); (try k_sweep))
  have X0 := X
  revert X0
  k_fill
  intro _
  k_steps
  exact hret _ _ _ _ _ _ (by k_asm) (cb_drop (by assumption) (by kcj_all)) (by first | (show _ ∧ _); assumption) (by assumption) (by first | assumption | omega | exact (by assumption : _ < _ ∧ _ < _ ∧ _ < _ ∧ _).1)
end Mine
end

section
open PySem PySem.W PySem.Calls PyProof.Rows
set_option maxRecDepth 100000
set_option maxHeartbeats 4000000
namespace Mine
def Bys : List Value → List (Array UInt8) → Prop
  | [], [] => True
  | v :: vs, b :: bs => (∃ t, v = .bytes b t) ∧ Bys vs bs
  | _, _ => False
def laidBy : List (Array UInt8) → Array UInt8
  | [] => #[]
  | b :: r => (enc b.size).toArray ++ b ++ laidBy r
theorem Bys.len : ∀ {ws : List Value} {bs : List (Array UInt8)}, Bys ws bs → ws.length = bs.length
  | [], [], _ => rfl
  | _ :: _, _ :: _, h => congrArg (· + 1) (Bys.len h.2)
theorem Bys.get : ∀ {ws : List Value} {bs : List (Array UInt8)} {i : Nat} {v : Value}, Bys ws bs → ws[i]? = some v → ∃ b t, v = .bytes b t ∧ bs[i]? = some b
  | [], [], _, _, _, e => by simp at e
  | v :: _, b :: _, 0, _, h, e => by
    obtain ⟨⟨t, ht⟩, _⟩ := h
    simp at e
    exact ⟨b, t, e ▸ ht, rfl⟩
  | _ :: _, _ :: _, i + 1, _, h, e => by
    simp only [List.getElem?_cons_succ] at e ⊢
    exact Bys.get h.2 e
theorem laidBy_append : ∀ (a r : List (Array UInt8)), laidBy (a ++ r) = laidBy a ++ laidBy r
  | [], r => by simp [laidBy]
  | b :: a, r => by simp only [List.cons_append, laidBy, laidBy_append a r, Array.append_assoc]
theorem laidBy_take {bs : List (Array UInt8)} {i : Nat} {b : Array UInt8} (h : bs[i]? = some b) : laidBy (bs.take (i + 1)) = laidBy (bs.take i) ++ (enc b.size).toArray ++ b := by
  rw [List.take_succ, h, laidBy_append]
  simp [laidBy, Array.append_assoc]
theorem laidBy_size : ∀ (bs : List (Array UInt8)), (∀ b ∈ bs, b.size ≤ 10000) → (laidBy bs).size ≤ bs.length * 10009
  | [], _ => by simp [laidBy]
  | b :: r, h => by
    have h1 := h b (.head _)
    have h2 := laidBy_size r (fun q hq => h q (.tail _ hq))
    have h3 := enc_len (v := (b.size : Int)) (by omega) (by omega)
    simp only [laidBy, Array.size_append, List.length_cons]
    have h4 : (enc (b.size : Int)).toArray.size = (enc (b.size : Int)).length := List.size_toArray
    omega
theorem iterNews {prog : Program} {w : World} {A : Around} {E : Value → Shared → Prop} {s : Shared} {h₀ : Heap} {L l : Addr} {m : Str → Option Value} {news : List (Addr × Obj)} {items : Array Value} {Q : Value → Shared → Prop} (F : Fr h₀ L s.heap m) (N : News h₀ L s.heap news) (hl : s.heap.IsList l items)
    (h : ∀ I oI h', IterAt oI l 0 → Fr h₀ L h' m → News h₀ L h' ((I, oI) :: news) → (∀ p ∈ news, p.1 < I) → Q (.ref I) { s with heap := h' }) : wpAny (model prog w) A (pyIter (.ref l)) Q E s :=
  wpAny_pyIter_list hl (h _ _ _ ⟨rfl, rfl⟩ (F.push _) (N.push F _) (fun p hp => Heap.lt_size (N p hp).1))

end Mine
end

section
open PySem PySem.W PySem.Calls PyProof.Rows
set_option maxRecDepth 100000
set_option maxHeartbeats 4000000
namespace Mine
theorem cw_write {w : World} {mean : ExcName → Option Value} {mg mb : Str → Option Value} {news : List (Addr × Obj)} (z dz ll x dx y : Addr) (t1 t2 t3 u1 : Tok) (c : Array UInt8) (ws : List Value) (bs : List (Array UInt8)) (hw : Bys ws bs) (hn : bs.length ≤ 1000) (hbs : ∀ b ∈ bs, b.size ≤ 10000) (p : Int) (hp : p = c.size) (hc : c.size ≤ 1000) (h1 : dx < x) (h2 : x < y) (h3 : OffN x dx y ((z, instObj 834 dz) :: (dz, witD w ll u1) :: (ll, listOf ws.toArray 0) :: news))
   (dp un : Nat) (gd : Option (List Code)) (cn : Str) (nms : List (Str × NameKind)) (ig ic : Bool) (mr : List (Str × Const)) (a : Addr) (ccd : Value) (cl : List (Str × Addr)) (outer : List Env) (A₀ : Around) (base h₀ : Heap) (L : Addr) (m : Str → Option Value) (s : Shared) (Q E : Value → Shared → Prop)
   (B : Below A₀ base outer h₀) (F : Fr h₀ L s.heap m) (X : (Mine.hd.heap_39 w.params).In h₀) (N : News h₀ L s.heap ((x, instObj 329 dx) :: (dx, bioD w y p t1 t2 t3) :: (y, baObj c) :: (z, instObj 834 dz) :: (dz, witD w ll u1) :: (ll, listOf ws.toArray 0) :: news)) (T : Top Mine.hd.view_39 LS mean mg mb h₀) 
    (hd : dp + 60 < recursionLimit) (hu : un + 260 < cLine)
    (hret : ∀ p' t1 t2 t3 r t h' tk', Fr h₀ L h' m → News h₀ L h' ((x, instObj 329 dx) :: (dx, bioD w y p' t1 t2 t3) :: (y, baObj (c ++ (enc bs.length).toArray ++ laidBy bs)) :: (z, instObj 834 dz) :: (dz, witD w ll u1) :: (ll, listOf ws.toArray 0) :: news) → Q (.int r t) { s with heap := h', toks := tk' }) :
      codeN (model Challenge.rw_bd0009_01.row.prog w) (ktrTop dp un gd cn ⟨.function, nms, ig, ic, mr⟩ L a ccd cl outer) (.call (.ref 814) ⟨[.ref z, .ref x], []⟩) (fun r s' => match r with | .ok (.ret v) => Q v s' | .ok _ => False | .error e => E e s') s := by
  k_with_none
  k_with "n enter" => (refine' cDef ?zzk1 ?zzk2 ?zzk3 ?zzk4 ?zzk5 ?zzkA ?zzkF ?zzkK ?zzk6 ?zzk7 ?zzk8 ?zzk9 ?zzkB ?_ ?zzc2 ?zzc3 ?zzc4 ?zzc5; (case zzkA | zzkF | zzkK => exact rfl); (case zzk1 | zzk2 | zzk3 | zzk4 | zzk5 => k_asm); (case zzk6 | zzk7 => k_is); (case zzk8 => k_room); (case zzk9 => first | exact BindsTo.of_eq rfl | exact binds_K (by k_in) rfl (by k_is) rfl rfl rfl); (case zzc5 => decide); (case zzkB => exact locs rfl); (case zzc2 | zzc3 | zzc4 => exact rfl); intro g' L' h' FG' F' N' B' X' T'; (try dsimp only))
  k_with "call builtin:len" => ((with_reducible show wpAny _ _ (call _ [Value.bytes _ _]) _ _ _); refine len_bytes (by omega) ?_)
  k_with "call ref" => (k_here; (with_reducible show wpAny _ _ (call (Value.ref 28) [Value.int _ _]) _ _ _); k_dflt ((with_unfolding_all refine' c_to _ _ ?zzq1 ?zzq2 _ _ _ _ _ _ _ _ _ _ _ _ _ _ _ _ _ _ _ _ ?zzB ?zzF ?zzX ?zzN ?zzT ?zzhd ?zzhu ?_); (case zzB | zzF | zzX | zzN | zzT => k_asm); (case zzq1 | zzq2 => omega); (case zzhd => ktr_room); (case zzhu => ktr_units); k_whole; intro t' h' tk' F' N'; (try k_sweep)))
  k_with "call builtin:len" => (k_here; (with_reducible show wpAny _ _ (call _ [Value.ref _]) _ _ _); k_dflt (refine kun_lenL (list_at (by k_asm) (by k_mem)) (by assumption) (by omega) ?_))
  have X0 := X
  revert X0
  k_fill
  intro _
  replace h1 := ltN h1
  replace h2 := ltN h2
  have hz9 := sizeLine_eq
  have hwl : (ws.toArray.size : Int) = (bs.length : Int) := by rw [List.size_toArray, hw.len]
  have el := enc_len (v := (bs.length : Int)) (by omega) (by omega)
  have es : (enc (bs.length : Int)).toArray.size = (enc (bs.length : Int)).length := List.size_toArray
  refine' cDef ?k1 ?k2 ?k3 ?k4 ?k5 ?kA ?kF ?kK ?k6 ?k7 ?k8 ?k9 ?kB ?_ ?c2 ?c3 ?c4 ?c5
  case kA => exact rfl
  case kF => exact rfl
  case kK => exact rfl
  case k1 => k_asm
  case k2 => k_asm
  case k3 => k_asm
  case k4 => k_asm
  case k5 => k_asm
  case k6 => k_is
  case k7 => k_is
  case k8 => k_room
  case k9 => first | exact BindsTo.of_eq rfl | exact binds_K (by k_in) rfl (by k_is) rfl rfl rfl
  case c5 => decide
  case kB => exact locs rfl
  case c2 => exact rfl
  case c3 => exact rfl
  case c4 => exact rfl
  intro g' L' h' FG' F' N' B' X' T'
  (try dsimp only)
  refine nExecsCons (nAssignName (nCallAttr ?_))
  k_steps
  refine nCallW ?_
  k_steps
  refine Kp.of .frame (Looks.of_peek (by k_in) (pk_keepWrite _ _)) ?_
  refine' c_write (news := ((z, instObj 834 dz) :: (dz, witD w ll u1) :: (ll, listOf ws.toArray 0) :: news)) x dx y _ _ _ _ c (enc (bs.length : Int)).toArray p ?hp ?hb ?h1 ?h2 ?h3 _ _ _ _ _ _ _ _ _ _ _ _ _ _ _ _ _ _ _ _ ?B ?F ?X ?N ?T ?hd ?hu ?_
  case B => k_asm
  case F => k_asm
  case X => k_asm
  case N => exact cb_drop (by assumption) (by kcj_all)
  case T => k_asm
  case hd => ktr_room
  case hu => ktr_units
  case hp => exact hp
  case hb => omega
  case h1 => assumption
  case h2 => assumption
  case h3 => exact h3
  intro p1 t1 t2 t3 t' h' tk' pe F' N'
  (try k_sweep)
  k_steps
  refine nExecsCons (nFor ?_)
  k_steps
  refine iterNews (by k_asm) (by k_asm) (list_at (by k_asm) (by k_mem)) ?_
  intro I oI h' hI F' N' l1
  have hbs9 := laidBy_size bs hbs
  refine cForList (env := envOf _ _ _ _ _) (items := ws.toArray) (lo := listOf ws.toArray 0) (l := ll) (nl := 0) rfl rfl rfl rfl rfl (by assumption) N' hI
    (fun i m' news' => ∃ r t o q a1 a2 a3, m' = (fun y => if y = Str.ofString "res" then some (.int r t) else if y = Str.ofString "item" then o else List.lookup y [(Str.ofString "stream", Value.ref x), (Str.ofString "self", Value.ref z)]) ∧ q = ((c ++ (enc (bs.length : Int)).toArray ++ laidBy (bs.take i)).size : Int) ∧
      news' = (x, instObj 329 dx) :: (dx, bioD w y q a1 a2 a3) :: (y, baObj (c ++ (enc (bs.length : Int)).toArray ++ laidBy (bs.take i))) :: (z, instObj 834 dz) :: (dz, witD w ll u1) :: (ll, listOf ws.toArray 0) :: news)
    ?h0 ?hJ ?step ?hR
  case h0 =>
    refine ⟨((enc (bs.length : Int)).toArray.size : Int), t', none, p1, t1, t2, t3, ?e1, ?e2, ?e3⟩
    case e1 =>
      funext y
      show (if y = Str.ofString "res" then _ else List.lookup y [(Str.ofString "stream", Value.ref x), (Str.ofString "self", Value.ref z)]) = _
      by_cases hy : y = Str.ofString "item"
      · subst hy; rfl
      · rw [if_neg hy]
    case e2 => (simp only [List.take_zero, laidBy, Array.append_empty, Array.size_append]; rw [pe, hp]; omega)
    case e3 => (simp only [List.take_zero, laidBy, Array.append_empty])
  case hJ =>
    rintro i m' news' ⟨r, t, o, q, a1, a2, a3, e1, e2, e3⟩
    subst e3
    refine ⟨by k_mem, fun q hq => ?_⟩
    have k1 := l1 _ (.head _)
    have k2 := l1 _ (.tail _ (.head _))
    have k3 := l1 _ (.tail _ (.tail _ (.head _)))
    rcases List.mem_cons.mp hq with e | hq
    · rw [e]; exact Nat.ne_of_lt k1
    rcases List.mem_cons.mp hq with e | hq
    · rw [e]; exact Nat.ne_of_lt k2
    rcases List.mem_cons.mp hq with e | hq
    · rw [e]; exact Nat.ne_of_lt k3
    exact Nat.ne_of_lt (l1 _ (.tail _ (.tail _ (.tail _ hq))))
  case step =>
    rintro i v m₁ news₁ oI h tk hv ⟨r, t, o, q, a1, a2, a3, e1, e2, e3⟩ F1 N1
    subst e1 e3
    obtain ⟨b, tb, ev, hb⟩ := hw.get (by rw [List.getElem?_toArray] at hv; exact hv)
    subst ev
    have hbz : b.size ≤ 10000 := hbs b (List.mem_of_getElem? hb)
    have hti := laidBy_size (bs.take i) (fun q hq => hbs q (List.mem_of_mem_take hq))
    have htl : (bs.take i).length ≤ 1000 := Nat.le_trans (List.length_take_le' _ _) hn
    have htk := laidBy_take hb
    have el2 := enc_len (v := (b.size : Int)) (by omega) (by omega)
    have es2 : (enc (b.size : Int)).toArray.size = (enc (b.size : Int)).length := List.size_toArray
    obtain ⟨c1, hc1⟩ : ∃ c1, c1 = c ++ (enc (bs.length : Int)).toArray ++ laidBy (bs.take i) := ⟨_, rfl⟩
    have hc2 : c1.size ≤ 10020000 := by rw [hc1, Array.size_append, Array.size_append]; omega
    rw [← hc1] at N1 e2
    have hI9 : OffN x dx y ((I, oI) :: (z, instObj 834 dz) :: (dz, witD w ll u1) :: (ll, listOf ws.toArray 0) :: news) :=
      OffN.cons (Nat.ne_of_gt (l1 _ (.head _))) (Nat.ne_of_gt (l1 _ (.tail _ (.head _)))) (Nat.ne_of_gt (l1 _ (.tail _ (.tail _ (.head _))))) h3
    refine nExecsCons (nAugName ?_)
    k_steps
    refine nCallAttr ?_
    k_steps
    refine nCallW ?_
    k_steps
    refine Kp.of .frame (Looks.of_peek (by k_in) (pk_keepWrite _ _)) ?_
    refine' c_write (news := ((I, oI) :: (z, instObj 834 dz) :: (dz, witD w ll u1) :: (ll, listOf ws.toArray 0) :: news)) x dx y _ _ _ _ c1 (enc (b.size : Int)).toArray q ?hp ?hb ?h1 ?h2 ?h3 _ _ _ _ _ _ _ _ _ _ _ _ _ _ _ _ _ _ _ _ ?B ?F ?X ?N ?T ?hd ?hu ?_
    case B => k_asm
    case F => k_asm
    case X => k_asm
    case N => exact cb_drop (by assumption) (by kcj_all)
    case T => k_asm
    case hd => ktr_room
    case hu => ktr_units
    case hp => exact e2
    case hb => omega
    case h1 => assumption
    case h2 => assumption
    case h3 => exact hI9
    intro v1 t1 t2 t3 vt h' tk' ve F' N'
    (try k_sweep)
    k_steps
    refine nExecsCons (nAugName ?_)
    k_steps
    refine nCallAttr ?_
    k_steps
    refine nCallW ?_
    k_steps
    refine Kp.of .frame (Looks.of_peek (by k_in) (pk_keepWrite _ _)) ?_
    refine' c_write (news := ((I, oI) :: (z, instObj 834 dz) :: (dz, witD w ll u1) :: (ll, listOf ws.toArray 0) :: news)) x dx y _ _ _ _ (c1 ++ (enc (b.size : Int)).toArray) b v1 ?hp ?hb ?h1 ?h2 ?h3 _ _ _ _ _ _ _ _ _ _ _ _ _ _ _ _ _ _ _ _ ?B ?F ?X ?N ?T ?hd ?hu ?_
    case B => k_asm
    case F => k_asm
    case X => k_asm
    case N => exact cb_drop (by assumption) (by kcj_all)
    case T => k_asm
    case hd => ktr_room
    case hu => ktr_units
    case hp => (rw [ve, e2, Array.size_append]; omega)
    case hb => (rw [Array.size_append]; omega)
    case h1 => assumption
    case h2 => assumption
    case h3 => exact hI9
    intro y1 t1 t2 t3 yt h' tk' ye F' N'
    (try k_sweep)
    k_steps
    refine nExecsNil ?_
    have hfin : c1 ++ (enc (b.size : Int)).toArray ++ b = c ++ (enc (bs.length : Int)).toArray ++ laidBy (bs.take (i + 1)) := by rw [htk, hc1]; simp only [Array.append_assoc]
    rename Fr _ _ _ _ => FZ
    rename News _ _ _ _ => NZ
    rw [hfin] at NZ
    refine' ⟨_, _, _, _, rfl, ⟨r + ((enc (b.size : Int)).toArray.size : Int) + (b.size : Int), _, some (.bytes b tb), y1, t1, t2, t3, ?e1, ?e2, rfl⟩, FZ, cb_drop NZ (by kcj_all)⟩
    case e1 =>
      funext yy
      by_cases q1 : yy = Str.ofString "res"
      · simp only [if_pos q1]; rfl
      · by_cases q2 : yy = Str.ofString "item"
        · simp only [if_neg q1, if_pos q2]
        · simp only [if_neg q1, if_neg q2]
    case e2 => (rw [← hfin, Array.size_append, Array.size_append]; omega)
  case hR =>
    rintro h' tk m' news' F1 N1 ⟨r, t, o, q, a1, a2, a3, e1, e2, e3⟩
    subst e1 e3
    have hts : bs.take ws.toArray.size = bs := by rw [List.size_toArray (as := ws), hw.len, List.take_length]
    rw [hts] at N1
    dsimp only
    refine nOf ?_
    k_steps
    exact hret q a1 a2 a3 r t _ _ (by k_asm) (cb_drop (by assumption) (by kcj_all))
end Mine
end

section
open PySem PySem.W PySem.Calls PyProof.Rows
set_option maxRecDepth 100000
set_option maxHeartbeats 4000000
namespace Mine
theorem c_wser {w : World} {mean : ExcName → Option Value} {mg mb : Str → Option Value} {news : List (Addr × Obj)} (z dz ll : Addr) (u1 : Tok) (ws : List Value) (bs : List (Array UInt8)) (hw : Bys ws bs) (hn : bs.length ≤ 1000) (hbs : ∀ b ∈ bs, b.size ≤ 10000) (h0 : dz < z)
   (dp un : Nat) (gd : Option (List Code)) (cn : Str) (nms : List (Str × NameKind)) (ig ic : Bool) (mr : List (Str × Const)) (a : Addr) (ccd : Value) (cl : List (Str × Addr)) (outer : List Env) (A₀ : Around) (base h₀ : Heap) (L : Addr) (m : Str → Option Value) (s : Shared) (Q E : Value → Shared → Prop)
   (B : Below A₀ base outer h₀) (F : Fr h₀ L s.heap m) (X : (Mine.hd.heap_39 w.params).In h₀) (N : News h₀ L s.heap ((z, instObj 834 dz) :: (dz, witD w ll u1) :: (ll, listOf ws.toArray 0) :: news)) (T : Top Mine.hd.view_39 LS mean mg mb h₀) 
    (hd : dp + 80 < recursionLimit) (hu : un + 400 < cLine)
    (hret : ∀ t h' tk', Fr h₀ L h' m → News h₀ L h' ((z, instObj 834 dz) :: (dz, witD w ll u1) :: (ll, listOf ws.toArray 0) :: news) → Q (.bytes ((enc bs.length).toArray ++ laidBy bs) t) { s with heap := h', toks := tk' }) :
      wpN (model Challenge.rw_bd0009_01.row.prog w) (ktrTop dp un gd cn ⟨.function, nms, ig, ic, mr⟩ L a ccd cl outer) (call (.ref 656) [.ref z]) Q E s := by
  k_with_none
  k_with "n enter" => (refine' cDef ?zzk1 ?zzk2 ?zzk3 ?zzk4 ?zzk5 ?zzkA ?zzkF ?zzkK ?zzk6 ?zzk7 ?zzk8 ?zzk9 ?zzkB ?_ ?zzc2 ?zzc3 ?zzc4 ?zzc5; (case zzkA | zzkF | zzkK => exact rfl); (case zzk1 | zzk2 | zzk3 | zzk4 | zzk5 => k_asm); (case zzk6 | zzk7 => k_is); (case zzk8 => k_room); (case zzk9 => first | exact BindsTo.of_eq rfl | exact binds_K (by k_in) rfl (by k_is) rfl rfl rfl); (case zzc5 => decide); (case zzkB => exact locs rfl); (case zzc2 | zzc3 | zzc4 => exact rfl); intro g' L' h' FG' F' N' B' X' T'; (try dsimp only))
  k_with "n both" => (refine' cBoth (nm := Str.ofString "kwargs") (nr := Str.ofString "args") (front := [_]) ?zzk1 ?zzk2 ?zzk3 ?zzk4 ?zzk5 ?zzkA ?zzkF ?zzkK ?zzk6 ?zzk7 ?zzk8 ?zzkP ?zzkS ?zzkT ?zzkB ?_ ?zzc2 ?zzc3 ?zzc4 ?zzc5; (case zzkA | zzkF | zzkK => exact rfl); (case zzk1 | zzk2 | zzk3 | zzk4 | zzk5 => k_asm); (case zzk6 | zzk7 => k_is); (case zzk8 => k_room); (case zzkP => exact rfl); (case zzkS => exact fun _ => rfl); (case zzkT => exact fun _ _ => rfl); (case zzkB => exact fun _ _ => locs rfl); (case zzc5 => decide); (case zzc2 | zzc3 | zzc4 => exact rfl); intro C' D' g' L' h' tk' l1 l2 FG' F' N' B' X' T'; (try dsimp only))
  k_with "call builtin:len" => ((with_reducible show wpAny _ _ (call _ [Value.bytes _ _]) _ _ _); refine len_bytes (by omega) ?_)
  k_with "call ref" => (k_here; k_dflt (show wpAny _ _ (call (Value.ref 215) [Value.ref _]) _ _ _); k_dflt ((with_unfolding_all refine' c_value _ _ _ _ _ _ _ _ ?zzq1 ?zzq4 ?zzq5 ?zzq6 _ _ _ _ _ _ _ _ _ _ _ _ _ _ _ _ _ _ _ _ ?zzB ?zzF ?zzX ?zzN ?zzT ?zzhd ?zzhu ?_); (case zzB | zzF | zzX | zzN | zzT => k_asm); (case zzq1 | zzq4 | zzq5 => assumption); (case zzq6 => (repeat' (first | assumption | exact OffN.nil | (refine OffN.cons ?_ ?_ ?_ ?_; (focus k_ne); (focus k_ne); (focus k_ne)) | (refine OffN.of (by assumption) (by assumption) (by assumption))))); (case zzhd => ktr_room); (case zzhu => ktr_units); k_whole; intro t' h' tk' F' N'; (try k_sweep)))
  have X0 := X
  revert X0
  k_fill
  intro _
  have hz9 := sizeLine_eq
  have hq : (#[] ++ (enc (bs.length : Int)).toArray ++ laidBy bs).size ≤ sizeLine := by
    have := enc_len (v := (bs.length : Int)) (by omega) (by omega)
    have := laidBy_size bs hbs
    rw [Array.size_append, Array.size_append, List.size_toArray (as := enc (bs.length : Int)), sizeLine_eq]
    simp only [List.size_toArray, List.length_nil]
    omega
  replace h0 := ltN h0
  refine nCall ?_
  refine' cBoth (nm := Str.ofString "kwargs") (nr := Str.ofString "args") (front := [(Str.ofString "self", Value.ref z)]) ?k1 ?k2 ?k3 ?k4 ?k5 ?kA ?kF ?kK ?k6 ?k7 ?k8 ?kP ?kS ?kT ?kB ?_ ?c2 ?c3 ?c4 ?c5
  case kA => exact rfl
  case kF => exact rfl
  case kK => exact rfl
  case k1 => k_asm
  case k2 => k_asm
  case k3 => k_asm
  case k4 => k_asm
  case k5 => k_asm
  case k6 => k_is
  case k7 => k_is
  case k8 => k_room
  case kP => exact rfl
  case kS => exact fun _ => rfl
  case kT => exact fun _ _ => rfl
  case kB => exact fun _ _ => locs rfl
  case c5 => decide
  case c2 => exact rfl
  case c3 => exact rfl
  case c4 => exact rfl
  intro C' D' g' L' h' tk' l1 l2 FG' F' N' B' X' T'
  have hD1 : @Ne Nat D' 1 := by
    have a1 : @LT.lt Nat _ z C' := l1 _ (.head _)
    have a2 : @LT.lt Nat _ C' D' := l2
    omega
  (try dsimp only)
  (try k_sweep)
  refine nExecsCons (nAssignName (nCallName ?_))
  k_steps
  refine nCallW0 ?_
  refine Kp.of .machine (Looks.of_peek (by k_in) (pk_keepBio _ _)) ?_
  refine' c_bio0 _ _ _ _ _ _ _ _ _ _ _ _ _ _ _ _ _ _ _ _ ?B ?F ?X ?N ?T ?hd ?hu ?_
  case B => k_asm
  case F => k_asm
  case X => k_asm
  case N => k_asm
  case T => k_asm
  case hd => ktr_room
  case hu => ktr_units
  intro x dx y t1 t2 t3 h' tk' F' N' l3 l4 l5
  have h3x : OffN x dx y ((z, instObj 834 dz) :: (dz, witD w ll u1) :: (ll, listOf ws.toArray 0) :: news) := OffN.of l4 l5 l3.2.2
  (try k_sweep)
  k_steps
  refine nExecsCons (nExpr (nCallAttrStar ?_))
  k_steps
  refine nCallStar ?_
  k_steps
  refine starNews (by k_asm) (by k_asm) ?_
  intro D9 h' F' N' l6
  (try k_lt l6); (try k_sweep)
  k_steps
  · exact hD1
  · exact newsAt (by k_asm) (by k_mem)
  · exact newsAt (by k_asm) (by k_mem)
  refine Kp.of .boundFrame (lk_method (newsAt (by k_asm) (by k_mem)) ((show Frag.In _ _ by k_in) 814 _ rfl) rfl) ?_
  refine nMethod (newsAt (by k_asm) (by k_mem)) ?_
  refine' cw_write (news := news) z dz ll x dx y t1 t2 t3 u1 #[] ws bs hw hn hbs 0 rfl (Nat.zero_le _) l4 l5 ?h3 _ _ _ _ _ _ _ _ _ _ _ _ _ _ _ _ _ _ _ _ ?B ?F ?X ?N ?T ?hd ?hu ?_
  case h3 => exact h3x
  case B => k_asm
  case F => k_asm
  case X => k_asm
  case N => exact cb_drop (by assumption) (by kcj_all)
  case T => k_asm
  case hd => ktr_room
  case hu => ktr_units
  intro p' t1' t2' t3' r t' h' tk' F' N'
  (try k_sweep)
  refine wpAny_dropValue ?_
  refine nOf ?_
  k_steps
  (try rw [Array.empty_append])
  exact hret _ _ _ (by k_asm) (cb_drop (by assumption) (by kcj_all))
end Mine
end

section
open PySem PySem.Spec PySem.W PySem.Calls PyProof.Rows
set_option maxRecDepth 100000
set_option maxHeartbeats 4000000
namespace Mine
section
variable {prog : Program} {w : World} {A : Around} {s : Shared} {env : Env} {h₀ : Heap}
theorem cForW {R : Result → Shared → Prop} {x : Str} {px : Pos} {body : List Stmt} {I : Addr} {oI : Obj} {n : Nat} {P : Nat → Value → Prop} {St : Nat → Heap → Prop} {m : Str → Option Value} {news : List (Addr × Obj)}
    (W : Walks prog w A I [I] [I] n P St) (hget : ∀ i h, St i h → ∃ o, h.get? I = some o) (hx : env.kindOf x = some .local) (hp : (env.scope.kind == .class || (env.scope.kind == .module && env.locals != env.globals)) = false)
    (F : Fr h₀ env.locals s.heap m) (N : News h₀ env.locals s.heap ((I, oI) :: news)) (hst : St 0 s.heap)
    (J : Nat → (Str → Option Value) → List (Addr × Obj) → Prop) (h0 : J 0 m news)
    (hJ : ∀ i m' news', J i m' news' → ∀ p ∈ news', p.1 ≠ I)
    (step : ∀ i v m₁ news₁ oI h tk, i < n → P i v → J i m₁ news₁ → Fr h₀ env.locals h (fun y => if y = x then some v else m₁ y) → News h₀ env.locals h ((I, oI) :: news₁) →
      wpN (model prog w) A (execs body env) (TurnL h₀ env.locals I oI (J (i + 1)) s R) (notedBy (model prog w) A env fun e s' => R (.error e) s') { s with heap := h, toks := tk })
    (hR : ∀ h' tk m' news', Fr h₀ env.locals h' m' → News h₀ env.locals h' news' → J n m' news' → R (.ok .next) { s with heap := h', toks := tk }) :
    codeN (model prog w) A (.forLoop (.Name x px) (.ref I) body [] env) R s := by
  refine cFor (InvL h₀ env.locals s I (fun i h _ => St i h) J n) ?_ (n + 1) (InvL.mk s.heap s.toks m news 0 oI hst F N h0 (Nat.zero_le _) rfl)
  rintro k _ ⟨h', tk, m', news', i, oI, hI, F', N', hj, hi, rfl⟩
  have hni := hJ _ _ _ hj
  have hIL : env.locals ≠ I := fun e => (N' _ (.head _)).2.1 e.symm
  have hnone : h₀.get? I = none := (N' _ (.head _)).2.2
  have nm : ∀ b : Addr, b ≠ I → b ∉ [I] := fun b hb hm => hb (List.mem_singleton.mp hm)
  have next : ∀ h₁ : Heap, (∀ b o, b ∉ [I] → h'.get? b = some o → h₁.get? b = some o) → Fr h₀ env.locals h₁ m' ∧ News h₀ env.locals h₁ news' := fun h₁ hk₁ =>
    ⟨⟨F'.ns.at' fun o e => hk₁ _ o (nm _ hIL) e, fun b o e => hk₁ b o (nm _ (fun q => by rw [q, hnone] at e; cases e)) (F'.keep b o e), F'.above⟩,
      fun p hp => ⟨hk₁ _ _ (nm _ (hni p hp)) (N' p (.tail _ hp)).1, (N' p (.tail _ hp)).2⟩⟩
  by_cases hlt : i < n
  · refine W.item i _ _ _ hlt hI fun v h₁ tk₁ hP hst₁ hk₁ => ?_
    obtain ⟨F₁, N₁⟩ := next h₁ hk₁
    obtain ⟨oI', ho'⟩ := hget _ _ hst₁
    refine wpAny_of_eq (a := ()) rfl ?_
    refine wpAny_assign_Name (wpAny_storeName_local hx F₁.ns (fun h₂ hn₂ hs₂ => ?_) hp)
    have F₂ := F₁.set hn₂ hs₂
    have NI : News h₀ env.locals h₁ ((I, oI') :: news') := fun p hp => by
      rcases List.mem_cons.mp hp with e | hp
      · rw [e]; exact ⟨ho', (N' _ (.head _)).2⟩
      · exact N₁ p hp
    refine nMono (step i v m' news' oI' h₂ _ hlt hP hj F₂ (NI.set hs₂)) (fun f s₃ h₃ => ?_) fun _ _ e => e
    have go : (∃ h' tk' m₂ news₂, s₃ = { s with heap := h', toks := tk' } ∧ J (i + 1) m₂ news₂ ∧ Fr h₀ env.locals h' m₂ ∧ News h₀ env.locals h' ((I, oI') :: news₂)) →
        ∃ k, k < n + 1 - i ∧ InvL h₀ env.locals s I (fun i h _ => St i h) J n k s₃ := by
      rintro ⟨h', tk', m₂, news₂, rfl, j, F₃, N₃⟩
      refine ⟨n + 1 - (i + 1), less_left hlt, InvL.mk h' tk' m₂ news₂ (i + 1) oI' ?_ F₃ N₃ j hlt rfl⟩
      refine W.frame _ _ _ hst₁ fun b hb o e => ?_
      have hbI : b = I := List.mem_singleton.mp hb
      subst hbI
      have : oI' = o := Option.some.inj (ho'.symm.trans e)
      rw [← this]
      exact (N₃ _ (.head _)).1
    cases f with
    | next => exact go h₃
    | cont => exact go h₃
    | brk => exact h₃
    | ret v => exact h₃
  · have hin : i = n := at_end hi hlt
    subst hin
    refine W.done _ _ _ hI fun h₁ tk₁ hk₁ => ?_
    obtain ⟨F₁, N₁⟩ := next h₁ hk₁
    exact nOf (wpAny_execs_nil (hR h₁ tk₁ m' news' F₁ N₁ hj))
end
end Mine
end

section
open PySem PySem.Spec PySem.W PySem.Calls PyProof.Rows
set_option maxRecDepth 100000
set_option maxHeartbeats 4000000
namespace Mine
theorem c_readfromP {w : World} {mean : ExcName → Option Value} {mg mb : Str → Option Value} (pre : List (Addr × Obj)) {news : List (Addr × Obj)} {x dx y : Addr} {t1 t2 t3 : Tok} {b : Array UInt8} {p v : Int} {rest : List UInt8}
   {dp un : Nat} {gd : Option (List Code)} {cn : Str} {nms : List (Str × NameKind)} {ig ic : Bool} {mr : List (Str × Const)} {a : Addr} {ccd : Value} {cl : List (Str × Addr)} {outer : List Env} {A₀ : Around} {base h₀ : Heap} {L : Addr} {m : Str → Option Value} {s : Shared} {Q E : Value → Shared → Prop}
   (hv : DropAt b p v rest) (hp : 0 ≤ p) (hb : b.size ≤ sizeLine) (h1 : dx < x) (h2 : x < y) (h3 : OffN x dx y pre) (h4 : OffN x dx y news) (v0 : 0 ≤ v) (v1 : v < 18446744073709551616)
   (B : Below A₀ base outer h₀) (F : Fr h₀ L s.heap m) (X : (Mine.hd.heap_39 w.params).In h₀) (N : News h₀ L s.heap (pre ++ (x, instObj 329 dx) :: (dx, bioD w y p t1 t2 t3) :: (y, baObj b) :: news)) (T : Top Mine.hd.view_39 LS mean mg mb h₀) 
    (hd : dp + 30 < recursionLimit) (hu : un + 120 < cLine)
    (hret : ∀ p' t1 t2 t3 t h' tk', p' = p + (enc v).length → Fr h₀ L h' m → News h₀ L h' (pre ++ (x, instObj 329 dx) :: (dx, bioD w y p' t1 t2 t3) :: (y, baObj b) :: news) → Q (.int v t) { s with heap := h', toks := tk' }) :
      wpAny (model Challenge.rw_bd0009_01.row.prog w) (ktrTop dp un gd cn ⟨.function, nms, ig, ic, mr⟩ L a ccd cl outer) (call (.ref 592) [.ref x]) Q E s :=
  c_readfrom x dx y t1 t2 t3 b p v rest hp hb h1 h2 (h3.app h4) v0 v1 hv dp un gd cn nms ig ic mr a ccd cl outer A₀ base h₀ L m s Q E B F X (cb_drop N to_front) T hd hu
    fun p' t1 t2 t3 t h' tk' e F' N' => hret p' t1 t2 t3 t h' tk' e F' (cb_drop N' to_back)
section
variable {prog : Program} {w : World} {A : Around} {E : Value → Shared → Prop} {s : Shared} {h₀ : Heap} {L r : Addr} {m : Str → Option Value} {news : List (Addr × Obj)} {Q : Value → Shared → Prop}
abbrev rangeIter (n : Int) : Obj := { cls := .type "range_iterator", data := .fields #[rawInt 0, rawInt n, rawInt 1] }
theorem iterRange {n : Nat} {t u v : Tok} (F : Fr h₀ L s.heap m) (N : News h₀ L s.heap news) (hr : IsRange s.heap r 0 n 1 t u v) (hsm : Builtin.Range.small 0 n 1 = true) (hn : Builtin.Range.rangeSize 0 n 1 = (n : Int))
    (h : ∀ I h', IsRangeIter h' I (0 + ((0 : Nat) : Int) * 1) ((n : Int) - ((0 : Nat) : Int)) 1 → Fr h₀ L h' m → News h₀ L h' ((I, rangeIter n) :: news) → (∀ p ∈ news, p.1 < I) → Q (.ref I) { s with heap := h' }) :
    wpAny (model prog w) A (pyIter (.ref r)) Q E s := by
  refine wpAny_pyIter_range hr hsm ?_
  rw [hn]
  have e : (s.heap.push (rangeIter (n : Int))).get? s.heap.objs.size = some (rangeIter (n : Int)) := Heap.get?_push_size _ rfl
  refine h _ _ ?_ (F.push _) (N.push F _) (fun p hp => Heap.lt_size (N p hp).1)
  have e1 : (0 : Int) + ((0 : Nat) : Int) * 1 = 0 := by omega
  have e2 : (n : Int) - ((0 : Nat) : Int) = n := by omega
  rw [e1, e2]
  exact e
end
end Mine
end

section
open PySem PySem.Spec PySem.W PySem.Calls PyProof.Rows
namespace Mine
theorem fits_n (z : Int) (a : -1000 ≤ z) (b : z ≤ 2000) : Builtin.Range.rangeFitsLong z = true := by
  unfold Builtin.Range.rangeFitsLong
  rw [Bool.and_eq_true]
  exact ⟨decide_eq_true (by omega), decide_eq_true (by omega)⟩
theorem small_n {n : Nat} (h : n ≤ 1000) : Builtin.Range.small 0 n 1 = true := by
  unfold Builtin.Range.small
  rw [fits_n 0 (by omega) (by omega), fits_n n (by omega) (by omega), fits_n 1 (by omega) (by omega), rangeSize_nat, fits_n _ (by omega) (by omega), if_pos (by decide), fits_n ((n : Int) + (1 - 1)) (by omega) (by omega)]
  simp
end Mine
end

section
open PySem PySem.Spec PySem.W PySem.Calls PyProof.Rows
namespace Mine
theorem laidBy_split {bs : List (Array UInt8)} {i : Nat} {c : Array UInt8} (h : bs[i]? = some c) :
    (laidBy bs).toList = (laidBy (bs.take i)).toList ++ (enc c.size ++ (c.toList ++ (laidBy (bs.drop (i + 1))).toList)) := by
  have e : bs = bs.take i ++ c :: bs.drop (i + 1) := by
    have hl : i < bs.length := (List.getElem?_eq_some_iff.mp h).1
    have hv : bs[i] = c := (List.getElem?_eq_some_iff.mp h).2
    rw [← hv, ← List.drop_eq_getElem_cons hl, List.take_append_drop]
  have e2 : laidBy bs = laidBy (bs.take i) ++ laidBy (c :: bs.drop (i + 1)) := by rw [← laidBy_append, ← e]
  rw [e2, Array.toList_append]
  simp only [laidBy, Array.toList_append, List.append_assoc]
theorem turn_facts {b : Array UInt8} {n q : Int} {bs : List (Array UInt8)} {i : Nat} {c : Array UInt8} (hbd : b = (enc n).toArray ++ laidBy bs) (h : bs[i]? = some c) (hq : q = ((enc n).length : Int) + ((laidBy (bs.take i)).size : Int)) :
    DropAt b q c.size (c.toList ++ (laidBy (bs.drop (i + 1))).toList) ∧ RdAt b (q + ((enc (c.size : Int)).length : Int)) c.size c (q + ((enc (c.size : Int)).length : Int) + (c.size : Int)) := by
  have hb : b.toList = (enc n ++ (laidBy (bs.take i)).toList) ++ (enc c.size ++ (c.toList ++ (laidBy (bs.drop (i + 1))).toList)) := by
    rw [hbd, Array.toList_append, laidBy_split h, List.append_assoc]
  have hl : (enc n ++ (laidBy (bs.take i)).toList).length = q.toNat := by
    have k2 : (laidBy (bs.take i)).toList.length = (laidBy (bs.take i)).size := Array.length_toList
    rw [List.length_append, hq, k2, ← Int.natCast_add, Int.toNat_natCast]
  have hd : b.toList.drop q.toNat = enc c.size ++ (c.toList ++ (laidBy (bs.drop (i + 1))).toList) := by
    rw [hb, ← hl, List.drop_left]
  have q0 : 0 ≤ q := by rw [hq]; exact Int.add_nonneg (Int.natCast_nonneg _) (Int.natCast_nonneg _)
  refine ⟨hd, rdAt (r := (laidBy (bs.drop (i + 1))).toList) (Int.add_nonneg q0 (Int.natCast_nonneg _)) ?_ Array.length_toList rfl⟩
  rw [Int.toNat_add_nat q0, ← List.drop_drop, hd, List.drop_left]
end Mine
end

section
open PySem PySem.W PySem.Calls PyProof.Rows
set_option maxRecDepth 100000
set_option maxHeartbeats 4000000
namespace Mine
theorem Bys.snoc : ∀ {ws : List Value} {bs : List (Array UInt8)} {c : Array UInt8} {t : Tok}, Bys ws bs → Bys (ws ++ [.bytes c t]) (bs ++ [c])
  | [], [], _, t, _ => ⟨⟨t, rfl⟩, trivial⟩
  | _ :: _, _ :: _, _, _, h => ⟨h.1, Bys.snoc h.2⟩
theorem cw_read {w : World} {mean : ExcName → Option Value} {mg mb : Str → Option Value} {news : List (Addr × Obj)} (x dx y : Addr) (t1 t2 t3 : Tok) (b : Array UInt8) (bs : List (Array UInt8)) (hn : bs.length ≤ 1000) (hbz : ∀ b ∈ bs, b.size ≤ 10000) (hbd : b = (enc bs.length).toArray ++ laidBy bs) (h1 : dx < x) (h2 : x < y) (h3 : OffN x dx y news)
   (dp un : Nat) (gd : Option (List Code)) (cn : Str) (nms : List (Str × NameKind)) (ig ic : Bool) (mr : List (Str × Const)) (a : Addr) (ccd : Value) (cl : List (Str × Addr)) (outer : List Env) (A₀ : Around) (base h₀ : Heap) (L : Addr) (m : Str → Option Value) (s : Shared) (Q E : Value → Shared → Prop)
   (B : Below A₀ base outer h₀) (F : Fr h₀ L s.heap m) (X : (Mine.hd.heap_39 w.params).In h₀) (N : News h₀ L s.heap ((x, instObj 329 dx) :: (dx, bioD w y 0 t1 t2 t3) :: (y, baObj b) :: news)) (T : Top Mine.hd.view_39 LS mean mg mb h₀) 
    (hd : dp + 50 < recursionLimit) (hu : un + 200 < cLine)
    (hret : ∀ z dz ll u1 ws p' t1 t2 t3 h' tk', Bys ws bs → p' = (b.size : Int) → Fr h₀ L h' m → News h₀ L h' ((z, instObj 834 dz) :: (dz, witD w ll u1) :: (ll, listOf ws.toArray 0) :: (x, instObj 329 dx) :: (dx, bioD w y p' t1 t2 t3) :: (y, baObj b) :: news) → AllLt dz ((x, instObj 329 dx) :: (dx, bioD w y p' t1 t2 t3) :: (y, baObj b) :: news) → dz < z → z < ll → Q (.ref z) { s with heap := h', toks := tk' }) :
      codeN (model Challenge.rw_bd0009_01.row.prog w) (ktrTop dp un gd cn ⟨.function, nms, ig, ic, mr⟩ L a ccd cl outer) (.call (.ref 821) ⟨[.ref 834, .ref x], []⟩) (fun r s' => match r with | .ok (.ret v) => Q v s' | .ok _ => False | .error e => E e s') s := by
  k_with_none
  k_with "n enter" => (refine' cDef ?zzk1 ?zzk2 ?zzk3 ?zzk4 ?zzk5 ?zzkA ?zzkF ?zzkK ?zzk6 ?zzk7 ?zzk8 ?zzk9 ?zzkB ?_ ?zzc2 ?zzc3 ?zzc4 ?zzc5; (case zzkA | zzkF | zzkK => exact rfl); (case zzk1 | zzk2 | zzk3 | zzk4 | zzk5 => k_asm); (case zzk6 | zzk7 => k_is); (case zzk8 => k_room); (case zzk9 => first | exact BindsTo.of_eq rfl | exact binds_K (by k_in) rfl (by k_is) rfl rfl rfl); (case zzc5 => decide); (case zzkB => exact locs rfl); (case zzc2 | zzc3 | zzc4 => exact rfl); intro g' L' h' FG' F' N' B' X' T'; (try dsimp only))
  k_with "call ref" => (k_here; (with_reducible show wpAny _ _ (call (Value.ref 253) [Value.ref _, Value.int _ _]) _ _ _); k_dflt ((with_unfolding_all refine' c_readX _ _ ?zzhr ?zzq1 ?zzq2 ?zzq3 ?zzq4 ?zzq5 ?zzq6 ?zzq7 ?zzB ?zzF ?zzX ?zzN ?zzT ?zzhd ?zzhu ?_); (case zzB | zzF | zzX | zzN | zzT => k_asm); (case zzhr => assumption); (case zzq1 | zzq2 | zzq3 => omega); (case zzq4 | zzq5 | zzq6 => assumption); (case zzq7 => (repeat' (first | assumption | exact OffN.nil | (refine OffN.cons ?_ ?_ ?_ ?_; (focus k_ne); (focus k_ne); (focus k_ne)) | (refine OffN.of (by assumption) (by assumption) (by assumption))))); (case zzhd => ktr_room); (case zzhu => ktr_units); k_whole; intro t1' t2' t3' t' h' tk' F' N'; (try k_sweep)))
  k_with "call ref" => (k_here; (with_reducible show wpAny _ _ (call (Value.ref 592) [Value.ref _]) _ _ _); k_dflt ((with_unfolding_all refine' c_readfrom _ _ _ _ _ _ _ _ _ _ ?zzq1 ?zzq4 ?zzq5 ?zzq6 ?zzq7 ?zzq2 ?zzq3 ?zzhr _ _ _ _ _ _ _ _ _ _ _ _ _ _ _ _ _ _ _ _ ?zzB ?zzF ?zzX ?zzN ?zzT ?zzhd ?zzhu ?_); (case zzB | zzF | zzX | zzN | zzT => k_asm); (case zzhr => (show DropAt _ _ _ _); assumption); (case zzq1 | zzq2 | zzq3 => omega); (case zzq4 | zzq5 | zzq6 => assumption); (case zzq7 => (repeat' (first | assumption | exact OffN.nil | (refine OffN.cons ?_ ?_ ?_ ?_; (focus k_ne); (focus k_ne); (focus k_ne)) | (refine OffN.of (by assumption) (by assumption) (by assumption))))); (case zzhd => ktr_room); (case zzhu => ktr_units); k_whole; intro p' t1' t2' t3' t' h' tk' e' F' N'; (try subst e'); (try k_sweep)))
  k_with "ite" => (k_here; first | (refine ite_pos (by omega) ?_) | (refine ite_neg (by omega) ?_))
  k_with "call builtin:len" => ((with_reducible show wpAny _ _ (call _ [Value.bytes _ _]) _ _ _); refine len_bytes (by omega) ?_)
  k_with "call ref" => (k_here; (with_reducible show wpAny _ _ (call (Value.ref 592) [Value.ref _]) _ _ _); k_dflt ((with_unfolding_all refine' c_readfromP [_, _] ?zzhr ?zzq1 ?zzq2 ?zzq4 ?zzq5 ?zzq6 ?zzq7 ?zzq8 ?zzq9 ?zzB ?zzF ?zzX ?zzN ?zzT ?zzhd ?zzhu ?_); (case zzB | zzF | zzX | zzN | zzT => k_asm); (case zzhr => assumption); (case zzq1 | zzq2 => omega); (case zzq4 | zzq5 => assumption); (case zzq6 | zzq7 => (repeat' (first | assumption | exact OffN.nil | (refine OffN.cons ?_ ?_ ?_ ?_; (focus k_ne); (focus k_ne); (focus k_ne)) | (refine OffN.of (by assumption) (by assumption) (by assumption))))); (case zzq8 | zzq9 => omega); (case zzhd => ktr_room); (case zzhu => ktr_units); k_whole; intro p' t1' t2' t3' t' h' tk' e' F' N'; (try subst e'); (try simp only [List.cons_append, List.nil_append] at N'); (try k_sweep)))
  k_with "call ref" => (k_here; (with_reducible show wpAny _ _ (call (Value.ref 253) [Value.ref _, Value.int _ _]) _ _ _); k_dflt ((with_unfolding_all refine' c_readP [_, _] _ _ ?zzhr ?zzq1 ?zzq2 ?zzq3 ?zzq4 ?zzq5 ?zzq6 ?zzq7 ?zzq8 ?zzB ?zzF ?zzX ?zzN ?zzT ?zzhd ?zzhu ?_); (case zzB | zzF | zzX | zzN | zzT => k_asm); (case zzhr => assumption); (case zzq1 | zzq2 | zzq3 => omega); (case zzq4 | zzq5 | zzq6 => assumption); (case zzq7 | zzq8 => (repeat' (first | assumption | exact OffN.nil | (refine OffN.cons ?_ ?_ ?_ ?_; (focus k_ne); (focus k_ne); (focus k_ne)) | (refine OffN.of (by assumption) (by assumption) (by assumption))))); (case zzhd => ktr_room); (case zzhu => ktr_units); k_whole; intro t1' t2' t3' t' h' tk' F' N'; (try simp only [List.cons_append, List.nil_append] at N'); (try k_sweep)))
  k_with "call ref" => (k_here; (with_reducible show wpAny _ _ (call (Value.ref 834) [Value.ref _]) _ _ _); k_dflt ((with_unfolding_all refine' c_witness _ _ _ ?zzq1 _ _ _ _ _ _ _ _ _ _ _ _ _ _ _ _ _ _ _ _ ?zzB ?zzF ?zzX ?zzN ?zzT ?zzhd ?zzhu ?_); (case zzB | zzF | zzX | zzN | zzT => k_asm); (case zzq1 => assumption); (case zzhd => ktr_room); (case zzhu => ktr_units); k_whole; intro z' dz' ll' u' h' tk' F' N' l1 l2 l3; (try k_sweep)))
  have X0 := X
  revert X0
  k_fill
  intro _
  have hz9 := sizeLine_eq
  replace h1 := ltN h1
  replace h2 := ltN h2
  have el := enc_len (v := (bs.length : Int)) (by omega) (by omega)
  have hls := laidBy_size bs hbz
  have hs : b.size = (enc (bs.length : Int)).length + (laidBy bs).size := by rw [hbd, Array.size_append, List.size_toArray (as := enc (bs.length : Int))]
  have hbs : b.size ≤ sizeLine := by omega
  have hD : DropAt b 0 bs.length (laidBy bs).toList := by unfold DropAt; rw [hbd]; simp
  refine' cDef ?k1 ?k2 ?k3 ?k4 ?k5 ?kA ?kF ?kK ?k6 ?k7 ?k8 ?k9 ?kB ?_ ?c2 ?c3 ?c4 ?c5
  case kA => exact rfl
  case kF => exact rfl
  case kK => exact rfl
  case k1 => k_asm
  case k2 => k_asm
  case k3 => k_asm
  case k4 => k_asm
  case k5 => k_asm
  case k6 => k_is
  case k7 => k_is
  case k8 => k_room
  case k9 => first | exact BindsTo.of_eq rfl | exact binds_K (by k_in) rfl (by k_is) rfl rfl rfl
  case c5 => decide
  case kB => exact locs rfl
  case c2 => exact rfl
  case c3 => exact rfl
  case c4 => exact rfl
  intro g' L' h' FG' F' N' B' X' T'
  (try dsimp only)
  refine nExecsCons (nOf ?_)
  k_steps
  refine nExecsCons (nOf ?_)
  k_steps
  rename Addr => li
  rename _ < _ ∧ _ < _ ∧ _ < _ ∧ _ => l3
  rename News _ _ _ _ => NZ
  refine nExecsCons (nFor ?_)
  k_steps
  refine iterRange (n := bs.length) (by k_asm) (by k_asm) (by assumption) ?_ ?_ ?_
  · exact small_n hn
  · (rw [rangeSize_nat]; omega)
  intro I h' hI F' N' l2
  refine cForW (env := envOf _ _ _ _ _) (PySem.Walks.range rfl I 0 1 bs.length) (fun i h hh => ⟨_, hh⟩) rfl rfl F' N' hI
    (fun i m' news' => ∃ q a1 a2 a3 ws k tn o1 o2 o3, m' = (fun y => if y = Str.ofString "data" then o3 else if y = Str.ofString "l" then o2 else if y = Str.ofString "i" then o1 else if y = Str.ofString "items" then some (.ref li) else if y = Str.ofString "num" then some (.int bs.length tn) else List.lookup y [(Str.ofString "stream", Value.ref x), (Str.ofString "cls", Value.ref 834)]) ∧
      Bys ws (bs.take i) ∧ q = ((enc (bs.length : Int)).length : Int) + ((laidBy (bs.take i)).size : Int) ∧
      news' = (li, listOf ws.toArray k) :: (x, instObj 329 dx) :: (dx, bioD w y q a1 a2 a3) :: (y, baObj b) :: news)
    ?h0 ?hJ ?step ?hR
  case h0 =>
    refine' ⟨_, _, _, _, [], 0, _, none, none, none, ?e1, trivial, ?e2, rfl⟩
    case e1 =>
      funext yy
      by_cases c1 : yy = Str.ofString "data"
      · subst c1; rfl
      by_cases c2 : yy = Str.ofString "l"
      · subst c2; rfl
      by_cases c3 : yy = Str.ofString "i"
      · subst c3; rfl
      rw [if_neg c1, if_neg c2, if_neg c3]
      rfl
    case e2 => (simp only [List.take_zero, laidBy, List.size_toArray, List.length_nil]; omega)
  case hJ =>
    rintro i m' news' ⟨q, a1, a2, a3, ws, k, tn, o1, o2, o3, e1, hw, hq, e3⟩ p hp
    subst e3
    have k0 := l2 _ (.head _)
    have k1 := l2 _ (.tail _ (.head _))
    have k2 := l2 _ (.tail _ (.tail _ (.head _)))
    have k3 := l2 _ (.tail _ (.tail _ (.tail _ (.head _))))
    rcases List.mem_cons.mp hp with e | hp
    · rw [e]; exact Nat.ne_of_lt k0
    rcases List.mem_cons.mp hp with e | hp
    · rw [e]; exact Nat.ne_of_lt k1
    rcases List.mem_cons.mp hp with e | hp
    · rw [e]; exact Nat.ne_of_lt k2
    rcases List.mem_cons.mp hp with e | hp
    · rw [e]; exact Nat.ne_of_lt k3
    exact Nat.ne_of_lt (l2 _ (.tail _ (.tail _ (.tail _ (.tail _ hp)))))
  case step =>
    rintro i v m₁ news₁ oI h tk hlt ⟨ti, hv⟩ ⟨q, a1, a2, a3, ws, k, tn, o1, o2, o3, e1, hw, hq, e3⟩ F1 N1
    subst e1 e3
    obtain ⟨c, hc⟩ : ∃ c, bs[i]? = some c := ⟨_, List.getElem?_eq_getElem hlt⟩
    have hcz : c.size ≤ 10000 := hbz c (List.mem_of_getElem? hc)
    obtain ⟨f1, f2⟩ := turn_facts hbd hc hq
    have g0 := ltN (l2 _ (.head _))
    have g1 := ltN (l2 _ (.tail _ (.head _)))
    have g2 := ltN (l2 _ (.tail _ (.tail _ (.head _))))
    have g3 := ltN (l2 _ (.tail _ (.tail _ (.tail _ (.head _)))))
    obtain ⟨l3a, l3b, l3c, l3d⟩ := l3
    have e2 := enc_len (v := (c.size : Int)) (by omega) (by omega)
    have p1 : 0 ≤ q := by omega
    have p2 : 0 ≤ q + ((enc (c.size : Int)).length : Int) := by omega
    have hwl : ws.length ≤ 1000 := by rw [hw.len]; exact Nat.le_trans (List.length_take_le' _ _) hn
    refine nOf ?_
    k_steps
    rename Fr _ _ _ _ => FZ
    rename News _ _ _ _ => NZ
    have hfin : bs.take (i + 1) = bs.take i ++ [c] := by rw [List.take_succ, hc]; rfl
    have hlt2 := laidBy_take hc
    rw [show ws.toArray.push _ = (ws ++ [_]).toArray from List.push_toArray _ _] at NZ
    refine' ⟨_, _, _, _, rfl, ⟨_, _, _, _, _, _, tn, some v, _, _, ?e1, ?ew, ?e2, rfl⟩, FZ, cb_drop NZ (by kcj_all)⟩
    case e1 =>
      funext yy
      by_cases c1 : yy = Str.ofString "data"
      · simp only [if_pos c1]; rfl
      by_cases c2 : yy = Str.ofString "l"
      · simp only [if_neg c1, if_pos c2]; rfl
      by_cases c3 : yy = Str.ofString "i"
      · simp only [if_neg c1, if_neg c2, if_pos c3]
      simp only [if_neg c1, if_neg c2, if_neg c3]
    case ew => (rw [hfin]; exact hw.snoc)
    case e2 => (rw [hlt2, Array.size_append, Array.size_append, List.size_toArray (as := enc (c.size : Int))]; omega)
  case hR =>
    rintro h' tk m' news' F1 N1 ⟨q, a1, a2, a3, ws, k, tn, o1, o2, o3, e1, hw, hq, e3⟩
    subst e1 e3
    have hts : bs.take bs.length = bs := List.take_length
    rw [hts] at hw hq
    have hz : ws.toArray.size ≤ sizeLine := by rw [List.size_toArray, hw.len]; omega
    dsimp only
    refine nOf ?_
    k_steps
    rename AllLt _ _ => lz
    exact hret _ _ _ _ ws q _ _ _ _ _ hw (by omega) (by k_asm) (cb_drop (by assumption) (by kcj_all)) (show _ ∧ _ ∧ _ ∧ _ from lz.2) (by assumption) (by assumption)
end Mine
end

section
open PySem PySem.Spec PySem.W PySem.Calls PyProof.Rows
set_option maxRecDepth 100000
set_option maxHeartbeats 4000000
namespace Mine
/-- a turn of a comprehension that makes bytes: what its element gives -/
def ByEl (news : List (Addr × Obj)) (r : Array UInt8) (y : Value) (news' : List (Addr × Obj)) : Prop := news' = news ∧ ∃ t : Tok, y = .bytes r t
section
variable {prog : Program} {w : World} {A : Around} {h₀ : Heap} {L : Addr} {m : Str → Option Value} {env : Env} {elt : Expr} {x : Str} {scope : Scope} {cl : List (Str × Addr)} {s : Shared} {S : List (Addr × Obj) → Prop} {P : Nat → Value → Prop} {Fin : List Value → List (Addr × Obj) → Prop} {news : List (Addr × Obj)}
theorem by_rest {n : Nat} (bs : List (Array UInt8)) (hn : bs.length = n)
    (turn : ∀ i v r I oI C oC D m₂ ys h tk (E' : Value → Shared → Prop), i < n → P i v → bs[i]? = some r → LCg.NsObj oC m₂ → m₂ x = some v → Fr h₀ L h m → News h₀ L h ((I, oI) :: (C, oC) :: (D, LCg.lst ys) :: news) → LCg.Off3 I C D news → ((@Ne Nat I C) ∧ (@Ne Nat I D) ∧ (@Ne Nat C D)) →
      wpAny (model prog w) A (eval elt (compEnvC scope cl C env)) (LCg.CompEnd h₀ L m { s with heap := h, toks := tk } I oI C oC D (LCg.lst ys) S (fun y news' => ByEl news r y news')) E' { s with heap := h, toks := tk })
    (fin : ∀ ys, Bys ys bs → Fin ys news) : LCg.CompRest prog w A h₀ L m env elt x scope cl s S P Fin n 0 [] news := by
  have key : ∀ (j i : Nat) (ys : List Value), i + j = n → Bys ys (bs.take i) → LCg.CompRest prog w A h₀ L m env elt x scope cl s S P Fin j i ys news := by
    intro j
    induction j with
    | zero =>
      intro i ys hi hy
      rw [List.take_of_length_le (by omega)] at hy
      exact LCg.CompRest.zero (fin ys hy)
    | succ j ih =>
      intro i ys hi hy
      refine LCg.CompRest.succ ?_
      intro v I oI C oC D m₂ h tk E' hv hC hx F N off ne
      have hr : bs[i]? = some bs[i] := List.getElem?_eq_getElem (by omega)
      refine wpAny_mono (turn i v _ I oI C oC D m₂ ys h tk E' (by omega) hv hr hC hx F N off ne) (fun y s₂ hq => ?_) fun _ _ e => e
      obtain ⟨h', tk', nw, e, F', N', off', hS, hnw, t', hy'⟩ := hq
      rw [hnw] at N' off' hS
      refine ⟨h', tk', news, e, F', N', off', hS, ?_⟩
      rw [hy']
      refine ih (i + 1) _ (by omega) ?_
      rw [List.take_add_one, hr]
      exact hy.snoc
  exact key n 0 [] (by omega) trivial
end
end Mine
end

section
open PySem PySem.Spec PySem.W PySem.Calls PyProof.Rows
set_option maxRecDepth 100000
set_option maxHeartbeats 4000000
namespace Mine
def BitsOK (ns : List Int) : Prop := ∀ k : Int, 0 ≤ k → k ≤ 100 → Builtin.Int.intBits (num ns k) ≤ 2000000
theorem BitsOK.le {ns : List Int} {k : Int} (h : BitsOK ns) (h0 : 0 ≤ k) (h1 : k ≤ 100) : Builtin.Int.intBits (num ns k) ≤ 2000000 := h k h0 h1
/-- the sizes of the law's menu -/
def siz (i : Int) : Int := [0, 1, 33, 252, 253, 300].getD (i.fmod 6).toNat 0
/-- `_law_items` -/
def lawItems (ns : List Int) (p : Int) : List (Array UInt8) := (List.range ((num ns p).fmod 5).toNat).map fun k : Nat => oct (num ns (p + 1 + (k : Int))) (siz (num ns (p + 5 + (k : Int))))
theorem lawItems_len (ns : List Int) (p : Int) : (lawItems ns p).length = ((num ns p).fmod 5 - 0).toNat := by simp [lawItems]
theorem byEl_intro {news : List (Addr × Obj)} {r b : Array UInt8} {t : Tok} (e : r = b) : ByEl news r (.bytes b t) news := ⟨rfl, t, by rw [e]⟩
theorem lawItems_get {ns : List Int} {p : Int} {i : Nat} {r : Array UInt8} (h : (lawItems ns p)[i]? = some r) : r = oct (num ns (p + 1 + (0 + (i : Int)))) (siz (num ns (p + 5 + (0 + (i : Int))))) := by
  unfold lawItems at h
  rw [List.getElem?_map] at h
  obtain ⟨k, hk, e⟩ := Option.map_eq_some_iff.mp h
  have := List.getElem?_eq_some_iff.mp hk
  obtain ⟨hl, hv⟩ := this
  rw [List.getElem_range] at hv
  subst hv
  rw [← e, Int.zero_add]
theorem c_items {w : World} {mean : ExcName → Option Value} {mg mb : Str → Option Value} {news : List (Addr × Obj)} (l : Addr) (vs : List Value) (ns : List Int) (hI : IntsAre vs ns) (hN : ns.length < 2 ^ 62) (hbits : BitsOK ns) (p : Int) (tk : Tok) (h0 : 0 ≤ p) (hp : p ≤ 50)
   (dp un : Nat) (gd : Option (List Code)) (cn : Str) (nms : List (Str × NameKind)) (ig ic : Bool) (mr : List (Str × Const)) (a : Addr) (ccd : Value) (cl : List (Str × Addr)) (A₀ : Around) (h₀ : Heap) (L : Addr) (m : Str → Option Value) (s : Shared) (Q E : Value → Shared → Prop)
   (hl : h₀.IsList l vs.toArray)
   (B : Below A₀ h₀ [] h₀) (F : Fr h₀ L s.heap m) (X : (Mine.hd.heap_39 w.params).In h₀) (N : News h₀ L s.heap news) (T : Top Mine.hd.view_39 LS mean mg mb h₀) 
    (hd : dp + 70 < recursionLimit) (hu : un + 300 < cLine)
    (hret : ∀ D ys h' tk', Bys ys (lawItems ns p) → Fr h₀ L h' m → News h₀ L h' ((D, listOf ys.toArray ys.length) :: news) → Q (.ref D) { s with heap := h', toks := tk' }) :
      wpAny (model Challenge.rw_bd0009_01.row.prog w) (ktrTop dp un gd cn ⟨.function, nms, ig, ic, mr⟩ L a ccd [] []) (call (.ref 862) [.ref l, .int p tk]) Q E s := by
  k_with_none
  k_with "call ref" => (k_here; (with_reducible show wpAny _ _ (call (Value.ref 843) [Value.ref _, Value.int _ _]) _ _ _); k_dflt ((with_unfolding_all refine' c_number _ _ _ _ _ ?zzq1 _ _ _ _ _ _ _ _ _ _ _ _ _ _ _ _ _ _ _ _ ?zzB ?zzF ?zzX ?zzN ?zzT ?zzC1 ?zzC2 ?zzC3 ?zzhd ?zzhu ?_); (case zzB | zzF | zzX | zzN | zzT => k_asm); (case zzC1 | zzC2 | zzC3 => assumption); (case zzq1 => omega); (case zzhd => ktr_room); (case zzhu => ktr_units); k_whole; intro t' h' tk' F' N'; (try k_sweep)))
  k_with "call ref" => (k_here; (with_reducible show wpAny _ _ (call (Value.ref 850) [Value.int _ _, Value.int _ _]) _ _ _); k_dflt ((with_unfolding_all refine' c_octets _ _ _ _ ?zzq1 ?zzq2 ?zzq3 _ _ _ _ _ _ _ _ _ _ _ _ _ _ _ _ _ _ _ _ ?zzB ?zzF ?zzX ?zzN ?zzT ?zzhd ?zzhu ?_); (case zzB | zzF | zzX | zzN | zzT => k_asm); (case zzq1 => first | omega | exact (kmn_any (lo := 0) (hi := 300) (by decide)).1); (case zzq2 => first | omega | exact (kmn_any (lo := 0) (hi := 300) (by decide)).2); (case zzq3 => first | assumption | exact BitsOK.le (by assumption) (by omega) (by omega)); (case zzhd => ktr_room); (case zzhu => ktr_units); k_whole; intro t' h' tk' F' N'; (try k_sweep)))
  k_with "CompSrc" => (k_here; k_dflt (refine LCg.CompSrc.range (by rfl) (by k_asm) (by k_asm) (by assumption) (small_one (by omega) (by omega) (by omega) (by omega)) (rangeSize_nat _ _) (by rw [PySem.sizeLine_eq]; omega) ?_); intro g'; refine' by_rest (lawItems _ _) ?zzkl ?zzkt ?zzkf; (case zzkl => exact lawItems_len _ _); (case' zzkt => intro i' v' r' I' oI' C' oC' D' m' ys' h' tk' E' hi' hv' hr' hC' hx' F' N' off' ne'; obtain ⟨t9', hv9'⟩ := hv'; subst hv9'; simp only [LCg.Off3, and_true] at off'; (try dsimp only)); (case' zzkf => intro ys' hy'))
  have X0 := X
  revert X0
  k_fill
  intro _
  refine wpAny_call ?_
  k_enter
  have g1 := fmod_lo (num ns p) (n := 5) (by decide)
  have g2 := fmod_hi (num ns p) (n := 5) (by decide)
  k_steps
  case zzkf =>
    exact hret _ _ _ _ (by assumption) (by k_asm) (cb_drop (by assumption) (by kcj_all))
  case zzkt =>
    rename (lawItems ns p)[_]? = some _ => hr
    have er := lawItems_get hr
    refine LCg.CompEnd.intro (by assumption) (by assumption) _ (by kcf_all) (by first | assumption | (simp only [LCg.Off3, and_true]; assumption)) trivial (byEl_intro er)
end Mine
end

section
open PySem PySem.Spec PySem.W PySem.Calls PyProof.Rows
set_option maxRecDepth 100000
set_option maxHeartbeats 4000000
namespace Mine
section
variable {α : Type} {M : Model} {A : Around} {E : Value → Shared → Prop} {s : Shared} {env : Env}
theorem nIsPlain {e : Expr} {whole : Sem Value} {Q : Bool → Shared → Prop} (h : wpN M A whole (fun v s₁ => wpAny M A (truthy v) Q E s₁) E s)
    (he : isTrue e env whole = (do let v ← whole; standAt e.pos; holding [v] (truthy v)) := by rfl) : wpN M A (isTrue e env whole) Q E s := by
  rw [he]
  exact nBind (nMono h (fun v s₁ h₁ => aBind (wpAny_standAt (nOf (wpAny_holding h₁)))) fun _ _ x => x)
theorem nIsNot {x : Expr} {pos : Pos} {whole : Sem Value} {Q : Bool → Shared → Prop} (h : wpN M A (isTrue x env (eval x env)) (fun c s' => Q (!c) s') E s) :
    wpN M A (isTrue (.UnaryOp .Not x pos) env whole) Q E s := by
  show wpN M A (do return !(← isTrue x env (eval x env))) Q E s
  exact nBind (nMono h (fun c s' h' => nPure h') fun _ _ x => x)
theorem nIsOr {x : Expr} {rest : List Expr} {pos : Pos} {whole : Sem Value} {Q : Bool → Shared → Prop}
    (h : wpN M A (isTrue x env (eval x env)) (fun c s' => if c then Q true s' else wpN M A (isTrue (.BoolOp .Or rest pos) env whole) Q E s') E s) :
    wpN M A (isTrue (.BoolOp .Or (x :: rest) pos) env whole) Q E s := by
  show wpN M A (do
    match BoolOp.Or, ← isTrue x env (eval x env) with
    | .And, false => pure false
    | .Or, true => pure true
    | _, _ => allTrue .Or rest env) Q E s
  refine nBind (nMono h (fun c s' h' => ?_) fun _ _ x => x)
  cases c with
  | false => exact h'
  | true => exact nPure h'
theorem nIsOrNil {pos : Pos} {whole : Sem Value} {Q : Bool → Shared → Prop} (h : Q false s) : wpN M A (isTrue (.BoolOp .Or [] pos) env whole) Q E s := nOf (isTrue_or_nil h)
theorem nIsCmp {l r : Expr} {op : CmpOp} {pos : Pos} {whole : Sem Value} {Q : Bool → Shared → Prop}
    (h : wpN M A (eval l env) (fun a s₁ => wpN M A (eval r env) (fun b s₂ => wpN M A (compareOp op a b) (fun c s₃ => wpAny M A (truthy c) Q E s₃) E s₂) E s₁) E s)
    (hm : behindInMarks op r = false := by with_unfolding_all rfl) : wpN M A (isTrue (.Compare l [op] [r] pos) env whole) Q E s := by
  rw [isTrue_Compare1, markedBehindIn_of_false hm]
  refine nBind (nMono h (fun a s₁ h₁ => nBind (nHolding (nMono h₁ (fun b s₂ h₂ => aBind (wpAny_standAt (nBind (nOperate (nMono h₂ (fun c s₃ h₃ => ?_) fun _ _ x => x))))) fun _ _ x => x))) fun _ _ x => x)
  exact nOf (wpAny_holding h₃)
theorem nCmpV {l r : Expr} {op : CmpOp} {pos : Pos} {Q : Value → Shared → Prop}
    (h : wpN M A (eval l env) (fun a s₁ => wpN M A (eval r env) (fun b s₂ => wpN M A (compareOp op a b) Q E s₂) E s₁) E s)
    (hm : behindInMarks op r = false := by with_unfolding_all rfl) : wpN M A (eval (.Compare l [op] [r] pos) env) Q E s := by
  rw [eval_Compare1, markedBehindIn_of_false hm]
  exact nBind (nMono h (fun a s₁ h₁ => nBind (nHolding (nMono h₁ (fun b s₂ h₂ => aBind (wpAny_standAt (nOperate h₂))) fun _ _ x => x))) fun _ _ x => x)
theorem nAnd {e₁ e₂ : Expr} {rest : List Expr} {pos : Pos} {Q : Value → Shared → Prop}
    (h : wpN M A (eval e₁ env) (fun v s₁ => wpAny M A (truthy v) (fun c s₂ => if c then wpN M A (eval (.BoolOp .And (e₂ :: rest) pos) env) Q E s₂ else Q v s₂) E s₁) E s) :
    wpN M A (eval (.BoolOp .And (e₁ :: e₂ :: rest) pos) env) Q E s := by
  show wpN M A (do
    let v ← eval e₁ env
    standAt pos
    let c ← holding [v] (truthy v)
    match BoolOp.And, c with
    | .And, false | .Or, true => pure v
    | _, _ => boolOp pos .And (eval e₂ env :: evalEach rest env)) Q E s
  refine nBind (nMono h (fun v s₁ h₁ => aBind (wpAny_standAt (aBind (wpAny_holding (wpAny_mono h₁ (fun c s₂ h₂ => ?_) fun _ _ x => x))))) fun _ _ x => x)
  cases c with
  | false => exact nPure h₂
  | true => exact h₂
theorem nAndOne {op : BoolOp} {e : Expr} {pos : Pos} {Q : Value → Shared → Prop} (h : wpN M A (eval e env) Q E s) : wpN M A (eval (.BoolOp op [e] pos) env) Q E s := h
theorem nAttr {o : Expr} {name : Str} {pos : Pos} {Q : Value → Shared → Prop}
    (h : wpN M A (eval o env) (fun ov s₁ => wpAny M A (getAttr ov name true) (fun r s₂ => wpAny M A (letTemporaryGo o ov r) (fun _ s₃ => Q r s₃) E s₂) E s₁) E s)
    (he : eval (.Attribute o name pos) env = (do
      let ov ← eval o env
      standAt pos.atName
      let r ← holding [ov] (getAttr ov name true)
      letTemporaryGo o ov r
      pure r) := by rfl) : wpN M A (eval (.Attribute o name pos) env) Q E s := by
  rw [he]
  exact nBind (nMono h (fun v s₁ h₁ => aBind (wpAny_standAt (aBind (wpAny_holding (wpAny_mono h₁ (fun r s₂ h₂ => aBind (wpAny_mono h₂ (fun _ _ h₃ => nPure h₃) fun _ _ x => x)) fun _ _ x => x))))) fun _ _ x => x)
theorem nTryExcept {body orelse : List Stmt} {h₀ : ExceptHandler} {hs : List ExceptHandler} {pos : Pos} {Q : Flow → Shared → Prop}
    (h : wpN M A (execs body env) (fun f s₁ => match f with | .next => wpN M A (execs orelse env) Q E s₁ | f => Q f s₁)
      (fun e s₁ => wpAny M A (noteFrame e env) (fun _ s₂ => wpAny M A (setFlight e none) (fun _ s₃ => wpAny M A (handleBy e env (h₀ :: hs)) Q E s₃) E s₂) E s₁) s) :
    wpN M A (exec (.Try body (h₀ :: hs) orelse [] pos) env) Q E s := by
  rw [arm_exec_Try]
  refine aBind (wpAny_standAt ?_)
  unfold tryStmt
  simp only [List.isEmpty_nil, if_true, List.isEmpty_cons, Bool.false_and, Bool.false_eq_true, if_false]
  refine nBind (nAttempt (nMono h (fun f s₁ h₁ => ?_) fun e s₁ h₁ => ?_))
  · cases f <;> first | exact h₁ | exact nPure h₁
  · exact nOf (wpAny_bind (wpAny_mono h₁ (fun _ _ h₂ => wpAny_bind h₂) fun _ _ x => x))
end
section
variable {prog : Program} {w : World} {A : Around} {E : Value → Shared → Prop} {s : Shared} {K : Frag} {x C L f : Addr} {h₀ : Heap} {m : Str → Option Value} {ox : Obj} {od : Option Obj} {name : Str} {b tb : Value}
theorem nIfBound {M : Model} {args : List Value} {Q : Option Value → Shared → Prop} (X : K.In s.heap) (I : InstAt s.heap x ox C od) (hs : findIn K (.ref C) name = some (some (.ref f))) (hf : isFn K (.ref f) = true)
    (h : wpN M A (call (.ref f) (.ref x :: args)) (fun v => Q (some v)) E s) : wpN M A (callSpecialIfBound? (.ref x) name args) Q E s := by
  simp only [callSpecialIfBound?, bindSpecialIfBound?]
  have fin : wpN M A (call (.ref f) ([.ref x] ++ args) >>= fun v => pure (some v)) Q E s := nBind (nMono h (fun v s' h' => nPure h') fun _ _ h' => h')
  refine nHolding (nBind (nOf (wpAny_bind (wpAny_bind (I.type.here ((looks_findIn X hs).here ?_))))))
  refine wpAny_bind (wpAny_askSetting (wpAny_ite ?_))
  split
  · exact wpAny_bind ((bind_fn X _ (beq_iff_eq.mp hf)).here (wpAny_pure (by exact fin)))
  · exact wpAny_tryCatch (wpAny_bind ((bind_fn X _ (beq_iff_eq.mp hf)).here (wpAny_pure (by exact fin))))
/-- two instances, compared by the class's own method -/
theorem nRich {op : CmpOp} {Q : Value → Shared → Prop} (hu : A.units < cLine) (F : Fr h₀ L s.heap m) (X₀ : K.In h₀) (I : InstAt s.heap x ox C od) (hb : Looks (model prog w) s.heap (typeOf b) tb) (hn : notFirst K C tb = true)
    (hs : findIn K (.ref C) (cmpInfo op).2.1 = some (some (.ref f))) (hf : isFn K (.ref f) = true)
    (h : wpN (model prog w) A (call (.ref f) [.ref x, b]) (PySem.W.CmpBack Q) E s) : wpN (model prog w) A (richCompare op (.ref x) b) Q E s := by
  have X := X₀.keeps F.keep
  have one : wpN (model prog w) A (tryCompare (.ref x) (cmpInfo op).2.1 b) (fun r s' => ∃ v, r = some v ∧ Q v s') E s := by
    unfold tryCompare
    refine nBind (nIfBound X I hs hf (nMono h (fun v s' hv => ?_) fun _ _ e => e))
    cases v <;> first | exact hv.elim | exact nPure ⟨_, rfl, hv⟩
  unfold richCompare
  simp only [oneThing_ref]
  refine nHolding (aBind (wpAny_cRoomFor hu ?_))
  refine nLook I.type (nLook hb ?_)
  split
  · rename_i q
    have e : subIn K tb (.ref C) = some false := by
      rcases Bool.or_eq_true_iff.mp hn with e | e
      · rw [beq_iff_eq.mp e] at q; simp at q
      · exact beq_iff_eq.mp e
    refine nLook (looks_subIn X e) ?_
    simp only [Bool.false_eq_true, if_false]
    refine nBind (nMono one (fun r s' z => ?_) fun _ _ e => e)
    obtain ⟨v, rfl, hq⟩ := z
    exact nPure hq
  · refine nBind (nPure ?_)
    simp only [Bool.false_eq_true, if_false]
    refine nBind (nMono one (fun r s' z => ?_) fun _ _ e => e)
    obtain ⟨v, rfl, hq⟩ := z
    exact nPure hq
end
end Mine
end

section
open PySem PySem.W PyProof.Rows
set_option maxRecDepth 100000
set_option maxHeartbeats 4000000
namespace Mine
theorem txt_len {x : Int} (h : x.natAbs < 10 ^ 30) : (Str.ofString (toString x)).length ≤ 31 := by
  rw [PySem.ofString_length]
  exact int_text_length_le10 (by decide) h
local macro_rules | `(tactic| kfm_len) => `(tactic| (refine txt_len ?_; omega))
/-- a call that the law itself makes -/
abbrev PL (w : World) (mean : ExcName → Option Value) (mg mb : Str → Option Value) (f : Addr) (news : List (Addr × Obj)) (vs : List Value) (R : Tok → Value) : Prop :=
  ∀ (dp un : Nat) (gd : Option (List Code)) (cn : Str) (nms : List (Str × NameKind)) (ig ic : Bool) (mr : List (Str × Const)) (a : Addr) (ccd : Value) (A₀ : Around) (h₀ : Heap) (L : Addr) (m : Str → Option Value) (s : Shared) (Q E : Value → Shared → Prop),
    Below A₀ h₀ [] h₀ → Fr h₀ L s.heap m → (Mine.hd.heap_39 w.params).In h₀ → News h₀ L s.heap news → Top Mine.hd.view_39 LS mean mg mb h₀ →
    (dp + 50 < recursionLimit → un + 200 < cLine → CbRet h₀ L m news s Q R →
      wpAny (model Challenge.rw_bd0009_01.row.prog w) (ktrTop dp un gd cn ⟨.function, nms, ig, ic, mr⟩ L a ccd [] []) (call (.ref f) vs) Q E s)
theorem c_ref0 {w : World} {mean : ExcName → Option Value} {mg mb : Str → Option Value} {news : List (Addr × Obj)} (x : Int) (t tk : Tok) (p1 : x < 0) (p2 : -18446744073709551617 < x) :
    PL w mean mg mb 857 news [.bytes #[] t, .int x tk] (fun _ => .bool true) := by
  k_with_none
  k_with "exec While" => (k_dflt (refine whl_start 100 ?_))
  k_with "WhlIf" => (first | refine WhlIf.yes (sh_yes (K := 256) (by rfl) (by decide) (by omega)) ?_ | refine WhlIf.yes (sh_yes (K := 65536) (by rfl) (by decide) (by omega)) ?_ | refine WhlIf.yes (sh_yes (K := 4294967296) (by rfl) (by decide) (by omega)) ?_ | refine WhlIf.yes (sh_yes (K := 18446744073709551616) (by rfl) (by decide) (by omega)) ?_ | refine WhlIf.no (sh_no (K := 340282366920938463463374607431768211456) (by rfl) (by omega) (by omega)) ?_)
  dsimp only [PL, CbRet]
  k_fill
  intro dp un gd cn nms ig ic mr a ccd A₀ h₀ L m s Q E B F X N T hd hu hret
  refine wpAny_call ?_
  k_dflt kts_go
  k_steps
  exact hret 0 _ _ (by k_asm) (cb_drop (by assumption) (by kcj_all))
theorem c_ref1 {w : World} {mean : ExcName → Option Value} {mg mb : Str → Option Value} {news : List (Addr × Obj)} (x : Int) (t tk : Tok) (p1 : 18446744073709551616 ≤ x) (p2 : x < 36893488147419103232) :
    PL w mean mg mb 857 news [.bytes #[] t, .int x tk] (fun _ => .bool true) := by
  k_with_none
  k_with "exec While" => (k_dflt (refine whl_start 100 ?_))
  k_with "WhlIf" => (first | refine WhlIf.yes (sh_yes (K := 256) (by rfl) (by decide) (by omega)) ?_ | refine WhlIf.yes (sh_yes (K := 65536) (by rfl) (by decide) (by omega)) ?_ | refine WhlIf.yes (sh_yes (K := 4294967296) (by rfl) (by decide) (by omega)) ?_ | refine WhlIf.yes (sh_yes (K := 18446744073709551616) (by rfl) (by decide) (by omega)) ?_ | refine WhlIf.no (sh_no (K := 340282366920938463463374607431768211456) (by rfl) (by omega) (by omega)) ?_)
  dsimp only [PL, CbRet]
  k_fill
  intro dp un gd cn nms ig ic mr a ccd A₀ h₀ L m s Q E B F X N T hd hu hret
  refine wpAny_call ?_
  k_dflt kts_go
  k_steps
  exact hret 0 _ _ (by k_asm) (cb_drop (by assumption) (by kcj_all))
end Mine
end

section
open PySem PySem.Spec PySem.W PySem.Calls PyProof.Rows
set_option maxRecDepth 100000
set_option maxHeartbeats 4000000
namespace Mine
section
variable {prog : Program} {w : World} {A₀ A : Around} {s : Shared} {base h₀ : Heap} {L a : Addr} {m : Str → Option Value} {cn : Str} {cs : Scope} {ccd : Value} {news : List (Addr × Obj)} {K : Frag} {p : Program} {loose : List Str} {mean : ExcName → Option Value} {mg mb : Str → Option Value}
  {R : Result → Shared → Prop} {name qual : Str} {params : Arguments} {body : List Stmt} {scope : Scope} {dV kV doc pm cdv ct oc : Value} {an od : Option Addr} {osl : Array (Option Value)} {f : Addr} {args : Args} {binds : List (Str × Value)}
/-- a def of the text's that catches, entered from the law's own frame -/
theorem cDefS0 (B : Below A₀ base [] h₀) (F : Fr h₀ L s.heap m) (X₀ : K.In h₀) (N : News h₀ L s.heap news) (T : Top p loose mean mg mb h₀) (hA : A.frames = some [envOf cn cs L a ccd])
    (ho : K.lookup f = some ⟨oc, od, .func (fnOf name qual params body scope dV kV doc pm an cdv ct), osl⟩) (hcd : codeIn K cdv qual = true) (hroom : A.depth < recursionLimit)
    (hbind : BindsTo s (fnOf name qual params body scope dV kV doc pm an cdv ct) args binds) (hloc : ∀ y ∈ binds, scope.names.lookup y.1 = some .local)
    (h : ∀ g L' h₁, Fr h₀ L g m → Fr g L' h₁ (fun y => binds.reverse.lookup y) → News g L' h₁ news → Below A base [envOf cn cs L a ccd] g → K.In g → Top p loose mean mg mb g → KtsDicts ([envOf cn cs L a ccd].filterMap (·.frame)) g →
      wpN (model prog w) (A.deeper (envOf qual scope L' f cdv)) (execs body (envOf qual scope L' f cdv))
        (fun fl s' => LeaveS0 ([envOf cn cs L a ccd].filterMap (·.frame)) h₀ L m g R (match fl with | .ret v => v | _ => .none) s')
        (fun e s' => wpAny (model prog w) (A.deeper (envOf qual scope L' f cdv)) (leaving (envOf qual scope L' f cdv) e) (fun _ s'' => R (.error e) s'') (fun e' s'' => R (.error e') s'') s')
        { s with heap := h₁, toks := s.toks + binds.length })
    (hck : cs.kind = .function) (hco : scope.isCoroutine = false) (hgen : scope.isGenerator = false) (hk : scope.kind = .function)
    (hcell : ∀ x ∈ scope.names, x.2 ≠ .cell) : codeN (model prog w) A (.call (.ref f) args) R s := by
  have X := X₀.keeps F.keep
  obtain ⟨oL, es, ep, hLg, hLd, hN, hNs, st, B₂⟩ := kts_enter B F N hA hck
  refine cCallFunction (fd := fnOf name qual params body scope dV kV doc pm an cdv ct) (body := body) hroom (X _ _ ho) rfl hco hgen rfl (codeRec_of X hcd) (hbind _ _ _ _ ?_)
  refine wpAny_newFunctionEnv hcell hloc (fun h₁ hns hsb => ⟨(T.nolimit.keeps F.keep).fresh _ hsb, cFunc ?_⟩) hk
  have hk₁ : ∀ b o, s.heap.get? b = some o → h₁.get? b = some o := fun b o e => hsb.extBut b o (Nat.ne_of_lt (Heap.lt_size e)) (Heap.get?_push_of_some _ e)
  show wpN (model prog w) (A.deeper (envOf qual scope s.heap.objs.size f cdv)) (execs body (envOf qual scope s.heap.objs.size f cdv)) _ _ _
  refine nMono (h _ s.heap.objs.size h₁ ⟨hN _ hLg, st, F.above⟩ ⟨hns, fun b o e => hk₁ b o (of_hideAll _ e), Nat.le_of_eq (hideAll_size _ _)⟩
    (fun p hp => ⟨hk₁ _ _ (N p hp).1, Nat.ne_of_lt (Heap.lt_size (N p hp).1), hideAll_none _ (List.mem_map_of_mem hp)⟩) B₂ (X₀.keeps st) (T.keeps st) (fun b hb => by
      rcases kts_mem hb with rfl | z
      · exact ⟨oL, es, ep, hLg, hLd⟩
      · simp at z)) (fun fl s' hl => ?_) fun _ _ y => y
  obtain ⟨g', L', m', news', T', F', N', k⟩ := hl
  have nL₀ : h₀.get? L = none := kts_self F
  obtain ⟨sl, hs⟩ := T'.up hLg
  refine k ⟨hNs sl _ (F'.keep _ _ hs), fun b o e => F'.keep b o (T'.other b o (st b o e) (fun q => by
    rcases kts_mem q with z | z
    · rw [z, nL₀] at e
      cases e
    · simp at z)), F.above⟩ fun p hp => ⟨(N' p hp).1, fun q => ?_, ?_⟩
  · have := (N' p hp).2.2; rw [q, hs] at this; cases this
  · cases q : h₀.get? p.1 with
    | none => rfl
    | some o =>
      obtain ⟨sl', hs'⟩ := T'.up (st _ _ q)
      have := (N' p hp).2.2
      rw [hs'] at this
      cases this
end
theorem pk_keepFrom (P : Params) (S : Setting) : peek (Mine.hd.heap_39 P) S (keeperOf (.ref 585)) = some .frame := by kernel_rfl
theorem c_refX {w : World} {mean : ExcName → Option Value} {mg mb : Str → Option Value} {news : List (Addr × Obj)} (v : Int) (v0 : 0 ≤ v) (v1 : v < 18446744073709551616) (b : Array UInt8) (j : UInt8) (js : List UInt8) (hb : b = (enc v ++ j :: js).toArray) (hj : js.length ≤ 1000) (x : Int) (t tk : Tok)
   (dp un : Nat) (gd : Option (List Code)) (cn : Str) (nms : List (Str × NameKind)) (ig ic : Bool) (mr : List (Str × Const)) (a : Addr) (ccd : Value) (A₀ : Around) (h₀ : Heap) (L : Addr) (m : Str → Option Value) (s : Shared) (Q E : Value → Shared → Prop)
   (B : Below A₀ h₀ [] h₀) (F : Fr h₀ L s.heap m) (X : (Mine.hd.heap_39 w.params).In h₀) (N : News h₀ L s.heap news) (T : Top Mine.hd.view_39 LS mean mg mb h₀) 
    (hd : dp + 70 < recursionLimit) (hu : un + 300 < cLine)
    (hret : ∀ h' tk', Fr h₀ L h' m → News h₀ L h' news → Q (.bool true) { s with heap := h', toks := tk' }) :
      wpN (model Challenge.rw_bd0009_01.row.prog w) (ktrTop dp un gd cn ⟨.function, nms, ig, ic, mr⟩ L a ccd [] []) (call (.ref 857) [.bytes b t, .int x tk]) Q E s := by
  k_with_none
  k_with "call ref" => (k_here; (with_reducible show wpAny _ _ (call (Value.ref 253) [Value.ref _, Value.int _ _]) _ _ _); k_dflt ((with_unfolding_all refine' c_readX _ _ ?zzhr ?zzq1 ?zzq2 ?zzq3 ?zzq4 ?zzq5 ?zzq6 ?zzq7 ?zzB ?zzF ?zzX ?zzN ?zzT ?zzhd ?zzhu ?_); (case zzB | zzF | zzX | zzN | zzT => k_asm); (case zzhr => assumption); (case zzq1 | zzq2 | zzq3 => omega); (case zzq4 | zzq5 | zzq6 => assumption); (case zzq7 => (repeat' (first | assumption | exact OffN.nil | (refine OffN.cons ?_ ?_ ?_ ?_; (focus k_ne); (focus k_ne); (focus k_ne)) | (refine OffN.of (by assumption) (by assumption) (by assumption))))); (case zzhd => ktr_room); (case zzhu => ktr_units); k_whole; intro t1' t2' t3' t' h' tk' F' N'; (try k_sweep)))
  k_with "call ref" => (k_here; (with_reducible show wpAny _ _ (call (Value.ref 592) [Value.ref _]) _ _ _); k_dflt ((with_unfolding_all refine' c_readfrom _ _ _ _ _ _ _ _ _ _ ?zzq1 ?zzq4 ?zzq5 ?zzq6 ?zzq7 ?zzq2 ?zzq3 ?zzhr _ _ _ _ _ _ _ _ _ _ _ _ _ _ _ _ _ _ _ _ ?zzB ?zzF ?zzX ?zzN ?zzT ?zzhd ?zzhu ?_); (case zzB | zzF | zzX | zzN | zzT => k_asm); (case zzhr => (show DropAt _ _ _ _); assumption); (case zzq1 | zzq2 | zzq3 => omega); (case zzq4 | zzq5 | zzq6 => assumption); (case zzq7 => (repeat' (first | assumption | exact OffN.nil | (refine OffN.cons ?_ ?_ ?_ ?_; (focus k_ne); (focus k_ne); (focus k_ne)) | (refine OffN.of (by assumption) (by assumption) (by assumption))))); (case zzhd => ktr_room); (case zzhu => ktr_units); k_whole; intro p' t1' t2' t3' t' h' tk' e' F' N'; (try subst e'); (try k_sweep)))
  k_with "ite" => (k_here; first | (refine ite_pos (by omega) ?_) | (refine ite_neg (by omega) ?_))
  have X0 := X
  revert X0
  k_fill
  intro _
  have hz9 := sizeLine_eq
  have el : (enc v).length ≤ 9 := by
    rcases enc_cases v0 v1 with ⟨_, e⟩ | ⟨_, _, e⟩ | ⟨_, _, e⟩ | ⟨_, e⟩ <;> rw [e] <;> simp [le_length]
  have hs : b.size = (enc v).length + (js.length + 1) := by rw [hb, List.size_toArray, List.length_append, List.length_cons]
  have hbs : b.size ≤ sizeLine := by omega
  have hD : DropAt b 0 v (j :: js) := by unfold DropAt; rw [hb]; simp
  have hR : RdAt b (0 + ((enc v).length : Int)) 1 #[j] (0 + ((enc v).length : Int) + 1) := by
    refine rdAt (n := 1) (l := [j]) (r := js) (Int.add_nonneg (Int.le_refl 0) (Int.natCast_nonneg _)) ?_ rfl rfl
    rw [Int.zero_add, Int.toNat_natCast, hb, List.drop_left]; rfl
  obtain ⟨r1, hr1⟩ : ∃ r : Array UInt8, r = #[j] := ⟨_, rfl⟩
  rw [← hr1] at hR
  have s1 : r1.size = 1 := by rw [hr1]; rfl
  have hbl : b.toList.length = b.size := Array.length_toList
  clear hr1
  refine nCall ?_
  refine' cDefS0 ?k1 ?k2 ?k3 ?k4 ?k5 ?kA ?k6 ?k7 ?k8 ?k9 ?kB ?_ ?cK ?c2 ?c3 ?c4 ?c5
  case kA => exact rfl
  case k1 => k_asm
  case k2 => k_asm
  case k3 => k_asm
  case k4 => k_asm
  case k5 => k_asm
  case k6 => k_is
  case k7 => k_is
  case k8 => k_room
  case k9 => first | exact binds_K (by k_in) rfl (by k_is) rfl rfl rfl | exact BindsTo.of_eq rfl
  case kB => exact locs rfl
  case cK => exact rfl
  case c2 => exact rfl
  case c3 => exact rfl
  case c4 => exact rfl
  case c5 => decide
  intro g' L' h' FG' F' N' B' X' T' D'
  (try dsimp only)
  refine nExecsCons (nTryExcept (nExecsCons (nIf (nOf ?_))))
  k_steps
  case _ =>
    refine nExecsCons (nExpr (nCallName ?_))
    k_steps
    refine nCallW ?_
    k_steps
    refine Kp.of .frame (Looks.of_peek (by k_in) (pk_keepFrom _ _)) ?_
    refine nCall ?_
    refine' cDef ?k1 ?k2 ?k3 ?k4 ?k5 ?kA ?kF ?kK ?k6 ?k7 ?k8 ?k9 ?kB ?_ ?c2 ?c3 ?c4 ?c5
    case kA => exact rfl
    case kF => exact rfl
    case kK => exact rfl
    case k1 => k_asm
    case k2 => k_asm
    case k3 => k_asm
    case k4 => k_asm
    case k5 => k_asm
    case k6 => k_is
    case k7 => k_is
    case k8 => k_room
    case k9 => first | exact BindsTo.of_eq rfl | exact binds_K (by k_in) rfl (by k_is) rfl rfl rfl
    case c5 => decide
    case kB => exact locs rfl
    case c2 => exact rfl
    case c3 => exact rfl
    case c4 => exact rfl
    intro g' L' h' FG' F' N' B' X' T'
    (try dsimp only)
    refine nExecsCons (nAssignName (nCallName ?_))
    k_steps
    refine nCallW ?_
    k_steps
    refine Kp.of .machine (Looks.of_peek (by k_in) (pk_keepBio _ _)) ?_
    refine' c_bio1 _ _ hbs _ _ _ _ _ _ _ _ _ _ _ _ _ _ _ _ _ _ _ _ ?B ?F ?X ?N ?T ?hd ?hu ?_
    case B => k_asm
    case F => k_asm
    case X => k_asm
    case N => k_asm
    case T => k_asm
    case hd => ktr_room
    case hu => ktr_units
    intro x dx y t1 t2 t3 h' tk' F' N' l1 l2 l3
    (try k_sweep)
    k_steps
    refine nOf ?_
    k_steps
    exact hret _ _ (by k_asm) (cb_drop (by assumption) (by kcj_all))
  case _ =>
    exfalso
    rename (b.toList != _) = false => hz
    have hz' : b.toList = [] := by simpa using hz
    rw [hz'] at hbl
    simp only [List.length_nil] at hbl
    omega
end Mine
end

section
open PySem PySem.W PySem.Calls PyProof.Rows
set_option maxRecDepth 100000
set_option maxHeartbeats 4000000
namespace Mine
theorem cw_parse {w : World} {mean : ExcName → Option Value} {mg mb : Str → Option Value} {news : List (Addr × Obj)} (b : Array UInt8) (bs : List (Array UInt8)) (t : Tok) (hn : bs.length ≤ 1000) (hbz : ∀ b ∈ bs, b.size ≤ 10000) (hbd : b = (enc bs.length).toArray ++ laidBy bs) (q : Addr) (oq : Obj) (hq : (q, oq) ∈ news) (hq1 : @LT.lt Nat _ 0 q)
   (dp un : Nat) (gd : Option (List Code)) (cn : Str) (nms : List (Str × NameKind)) (ig ic : Bool) (mr : List (Str × Const)) (a : Addr) (ccd : Value) (cl : List (Str × Addr)) (outer : List Env) (A₀ : Around) (base h₀ : Heap) (L : Addr) (m : Str → Option Value) (s : Shared) (Q E : Value → Shared → Prop)
   (B : Below A₀ base outer h₀) (F : Fr h₀ L s.heap m) (X : (Mine.hd.heap_39 w.params).In h₀) (N : News h₀ L s.heap news) (T : Top Mine.hd.view_39 LS mean mg mb h₀) 
    (hd : dp + 80 < recursionLimit) (hu : un + 400 < cLine)
    (hret : ∀ z dz ll u1 ws h' tk', Bys ws bs → Fr h₀ L h' m → News h₀ L h' ((z, instObj 834 dz) :: (dz, witD w ll u1) :: (ll, listOf ws.toArray 0) :: news) → AllLt dz news → dz < z → z < ll → Q (.ref z) { s with heap := h', toks := tk' }) :
      codeN (model Challenge.rw_bd0009_01.row.prog w) (ktrTop dp un gd cn ⟨.function, nms, ig, ic, mr⟩ L a ccd cl outer) (.call (.ref 639) ⟨[.ref 834, .bytes b t], []⟩) (fun r s' => match r with | .ok (.ret v) => Q v s' | .ok _ => False | .error e => E e s') s := by
  k_with_none
  k_with "call ref" => (k_here; (with_reducible show wpAny _ _ (call (Value.ref 253) [Value.ref _, Value.int _ _]) _ _ _); k_dflt ((with_unfolding_all refine' c_readX _ _ ?zzhr ?zzq1 ?zzq2 ?zzq3 ?zzq4 ?zzq5 ?zzq6 ?zzq7 ?zzB ?zzF ?zzX ?zzN ?zzT ?zzhd ?zzhu ?_); (case zzB | zzF | zzX | zzN | zzT => k_asm); (case zzhr => assumption); (case zzq1 | zzq2 | zzq3 => omega); (case zzq4 | zzq5 | zzq6 => assumption); (case zzq7 => (repeat' (first | assumption | exact OffN.nil | (refine OffN.cons ?_ ?_ ?_ ?_; (focus k_ne); (focus k_ne); (focus k_ne)) | (refine OffN.of (by assumption) (by assumption) (by assumption))))); (case zzhd => ktr_room); (case zzhu => ktr_units); k_whole; intro t1' t2' t3' t' h' tk' F' N'; (try k_sweep)))
  k_with "ite" => (k_here; first | (refine ite_pos (by omega) ?_) | (refine ite_neg (by omega) ?_))
  k_with "call builtin:len" => ((with_reducible show wpAny _ _ (call _ [Value.bytes _ _]) _ _ _); refine len_bytes (by omega) ?_)
  k_with "call ref" => (k_here; (with_reducible show wpAny _ _ (call (Value.ref 253) [Value.ref _, Value.int _ _]) _ _ _); k_dflt ((with_unfolding_all refine' c_readP [_, _, _] _ _ ?zzhr ?zzq1 ?zzq2 ?zzq3 ?zzq4 ?zzq5 ?zzq6 ?zzq7 ?zzq8 ?zzB ?zzF ?zzX ?zzN ?zzT ?zzhd ?zzhu ?_); (case zzB | zzF | zzX | zzN | zzT => k_asm); (case zzhr => assumption); (case zzq1 | zzq2 | zzq3 => omega); (case zzq4 | zzq5 | zzq6 => assumption); (case zzq7 | zzq8 => (repeat' (first | assumption | exact OffN.nil | (refine OffN.cons ?_ ?_ ?_ ?_; (focus k_ne); (focus k_ne); (focus k_ne)) | (refine OffN.of (by assumption) (by assumption) (by assumption))))); (case zzhd => ktr_room); (case zzhu => ktr_units); k_whole; intro t1' t2' t3' t' h' tk' F' N'; (try simp only [List.cons_append, List.nil_append] at N'); (try k_sweep)))
  have X0 := X
  revert X0
  k_fill
  intro _
  have hz9 := sizeLine_eq
  have el := enc_len (v := (bs.length : Int)) (by omega) (by omega)
  have hls := laidBy_size bs hbz
  have hs : b.size = (enc (bs.length : Int)).length + (laidBy bs).size := by rw [hbd, Array.size_append, List.size_toArray (as := enc (bs.length : Int))]
  have hbs : b.size ≤ sizeLine := by omega
  refine' cBoth (nm := Str.ofString "kwargs") (nr := Str.ofString "args") (front := [(Str.ofString "cls", Value.ref 834), (Str.ofString "s", Value.bytes b t)]) ?k1 ?k2 ?k3 ?k4 ?k5 ?kA ?kF ?kK ?k6 ?k7 ?k8 ?kP ?kS ?kT ?kB ?_ ?c2 ?c3 ?c4 ?c5
  case kA => exact rfl
  case kF => exact rfl
  case kK => exact rfl
  case k1 => k_asm
  case k2 => k_asm
  case k3 => k_asm
  case k4 => k_asm
  case k5 => k_asm
  case k6 => k_is
  case k7 => k_is
  case k8 => k_room
  case kP => exact rfl
  case kS => exact fun _ => rfl
  case kT => exact fun _ _ => rfl
  case kB => exact fun _ _ => locs rfl
  case c5 => decide
  case c2 => exact rfl
  case c3 => exact rfl
  case c4 => exact rfl
  intro C' D' g' L' h' tk' l1 l2 FG' F' N' B' X' T'
  have hD1 : @Ne Nat D' 1 := by
    have a1 : @LT.lt Nat _ q C' := l1 _ hq
    have a2 : @LT.lt Nat _ C' D' := l2
    omega
  (try k_sweep)
  refine nExecsCons (nAssignName (nCallName ?_))
  k_steps
  refine nCallW ?_
  k_steps
  refine Kp.of .machine (Looks.of_peek (by k_in) (pk_keepBio _ _)) ?_
  refine' c_bio1 _ _ hbs _ _ _ _ _ _ _ _ _ _ _ _ _ _ _ _ _ _ _ _ ?B ?F ?X ?N ?T ?hd ?hu ?_
  case B => k_asm
  case F => k_asm
  case X => k_asm
  case N => k_asm
  case T => k_asm
  case hd => ktr_room
  case hu => ktr_units
  intro x dx y t1 t2 t3 h' tk' F' N' l3 l4 l5
  have h3x : OffN x dx y news := OffN.of l4 l5 l3.2.2
  (try k_sweep)
  k_steps
  refine nExecsCons (nAssignName (nCallAttrStar ?_))
  k_steps
  refine nCallStar ?_
  k_steps
  refine starNews (by k_asm) (by k_asm) ?_
  intro D9 h' F' N' l6
  (try k_lt l6); (try k_sweep)
  k_steps
  · exact hD1
  · exact newsAt (by k_asm) (by k_mem)
  · exact newsAt (by k_asm) (by k_mem)
  refine Kp.of .boundFrame (lk_method (newsAt (by k_asm) (by k_mem)) ((show Frag.In _ _ by k_in) 821 _ rfl) rfl) ?_
  refine nMethod (newsAt (by k_asm) (by k_mem)) ?_
  refine' cw_read (news := news) x dx y t1 t2 t3 b bs hn hbz hbd l4 l5 h3x _ _ _ _ _ _ _ _ _ _ _ _ _ _ _ _ _ _ _ _ ?B ?F ?X ?N ?T ?hd ?hu ?_
  case B => k_asm
  case F => k_asm
  case X => k_asm
  case N => exact cb_drop (by assumption) (by kcj_all)
  case T => k_asm
  case hd => ktr_room
  case hu => ktr_units
  intro z dz ll u1 ws p' t1' t2' t3' h' tk' hw ep F' N' l7 l8 l9
  (try k_sweep)
  obtain ⟨l7a, l7b, l7c, l7d⟩ := l7
  replace l7a := ltN l7a
  replace l7b := ltN l7b
  replace l7c := ltN l7c
  replace l8 := ltN l8
  replace l9 := ltN l9
  have hR := rd_end ep
  have hp0 : 0 ≤ p' := by omega
  k_steps
  refine nOf ?_
  k_steps
  exact hret z dz ll u1 ws _ _ hw (by k_asm) (cb_drop (by assumption) (by kcj_all)) l7d l8 l9
end Mine
end

section
open PySem PySem.Spec PySem.W PySem.Calls PyProof.Rows
set_option maxRecDepth 100000
set_option maxHeartbeats 4000000
namespace Mine
theorem kind_has : builtinKind "hasattr" = none := by decide +kernel
theorem plain_has : plainId "hasattr" = true := by decide +kernel
theorem entry_has : entryFor table "hasattr" = some Builtin.«hasattr» := entryFor_of_fast (by kernel_rfl)
theorem args_has (a b : Value) : argsOk "hasattr" ⟨[a, b], []⟩ := by unfold argsOk; kernel_rfl
section
variable {prog : Program} {w : World} {A : Around} {E : Value → Shared → Prop} {s : Shared} {K : Frag} {x C f L : Addr} {ox : Obj} {name : Str} {expr : Bool} {h₀ : Heap} {m : Str → Option Value} {news : List (Addr × Obj)} {es : List DictEntry} {n : Nat} {t : Tok}
theorem byBound {Q : Value → Shared → Prop} (F : Fr h₀ L s.heap m) (X₀ : K.In h₀) (N : News h₀ L s.heap news) (I : InstAt s.heap x ox C (some (dictOf es n))) (hg : plainGet K C name = true) (hh : hasDictIn K C = true) (ha : findIn K (.ref C) name = some (some (.ref f))) (hf : isFn K (.ref f) = true)
    (hgf : specialIn K (.ref f) "__get__" = some (some (.builtin "function.__get__"))) (ht : takesIn K (.ref f) = some false) (hc : copiedNames.contains name = false) (hl : getL name es = some none)
    (h : ∀ q h', Fr h₀ L h' m → News h₀ L h' ((q, methodObj (.ref f) (.ref x)) :: news) → Q (.ref q) { s with heap := h' }) : wpAny (model prog w) A (getAttrBy (.ref x) (.str name t) false expr) Q E s := by
  have X := X₀.keeps F.keep
  have L0 := I.type (M := model prog w)
  have L1 := looks_findIn (M := model prog w) X (plainGet_of hg).1
  have L2 := looks_find (M := model prog w) X I (findObj_fn hh ha hgf ht hc (by show lookIn name (dictOf es n) = _; rw [lookIn_dict, hl]))
  have L3 := looks_findIn (M := model prog w) X (plainGet_of hg).2
  unfold getAttrBy
  refine wpAny_holding (wpAny_bind (L0.here (wpAny_bind (L1.here ?_))))
  show wpAny _ _ (getAttrEveryday _ _ _) _ _ _
  refine wpAny_bind (wpAny_onRaise (wpAny_runValue (codeAny_builtin PySem.F.plainObj_entry_getattr_hooked ?_)))
  refine wpAny_bind (wpAny_pure (wpAny_bind (L0.here (wpAny_bind (L2.here (wpAny_bind (L3.here ?_)))))))
  show wpAny _ _ (holding [.ref f] (call (.builtin "function.__get__") [.ref f, .ref x, .ref C]) >>= ret) _ _ _
  refine wpAny_bind (wpAny_holding (wpAny_call (fn_get X (beq_iff_eq.mp hf) (wpAny_pure (handed_on rfl (h s.heap.objs.size _ (F.push _) (N.push F _)))))))
theorem has_fn {Q : Value → Shared → Prop} (F : Fr h₀ L s.heap m) (X₀ : K.In h₀) (N : News h₀ L s.heap news) (I : InstAt s.heap x ox C (some (dictOf es n))) (hg : plainGet K C name = true) (hh : hasDictIn K C = true) (ha : findIn K (.ref C) name = some (some (.ref f))) (hf : isFn K (.ref f) = true)
    (hgf : specialIn K (.ref f) "__get__" = some (some (.builtin "function.__get__"))) (ht : takesIn K (.ref f) = some false) (hc : copiedNames.contains name = false) (hl : getL name es = some none)
    (hm : peek K ⟨prog, w.params⟩ (isSubtype (.ref C) (.type "module")) = some false)
    (h : ∀ q h', Fr h₀ L h' m → News h₀ L h' ((q, methodObj (.ref f) (.ref x)) :: news) → Q (.bool true) { s with heap := h' }) : wpAny (model prog w) A (call (.builtin "hasattr") [.ref x, .str name t]) Q E s := by
  have X := X₀.keeps F.keep
  have L0 := I.type (M := model prog w)
  have L9 : Looks (model prog w) s.heap (isInstance (.ref x) (.type "module")) false := L0.andThen (Looks.of_peek X hm)
  refine Calls.call_function_entry kind_has plain_has entry_has (args_has _ _) ?_
  unfold Builtin.«hasattr»
  refine wpAny_bind (wpAny_of_eq (a := [.ref x, .str name t]) (by first | rfl | kernel_rfl) ?_)
  dsimp only
  refine wpAny_bind (wpAny_of_eq (a := ()) (by first | rfl | kernel_rfl) ?_)
  rw [if_neg (by intro e; cases e)]
  refine wpAny_bind (L0.here ?_)
  dsimp only
  refine wpAny_bind ?_
  show wpAny _ _ (asStr? (.str name t) >>= fun r => _) _ _ s
  refine wpAny_bind (wpAny_of_eq (a := some name) rfl ?_)
  show wpAny _ _ (isInstance (.ref x) (.type "module") >>= fun r => _) _ _ s
  refine wpAny_bind (L9.here ?_)
  refine wpAny_pure ?_
  rw [if_neg (by decide)]
  refine wpAny_bind ?_
  unfold getAttrBy?
  refine wpAny_bind (wpAny_attempt (byBound F X₀ N I hg hh ha hf hgf ht hc hl fun q h' F' N' => ?_))
  refine wpAny_pure ?_
  exact wpAny_pure ⟨_, rfl, h q h' F' N'⟩
end
end Mine
end

section
open PySem PySem.W PySem.Calls PyProof.Rows
set_option maxRecDepth 100000
set_option maxHeartbeats 4000000
namespace Mine
theorem pk_keepSer (P : Params) (S : Setting) : peek (Mine.hd.heap_39 P) S (keeperOf (.ref 656)) = some .frame := by kernel_rfl
theorem pk_modW (P : Params) (S : Setting) : peek (Mine.hd.heap_39 P) S (isSubtype (.ref 834) (.type "module")) = some false := by kernel_rfl
theorem cw_eq {w : World} {mean : ExcName → Option Value} {mg mb : Str → Option Value} {news : List (Addr × Obj)} (z dz ll : Addr) (u1 : Tok) (ws : List Value) (bs : List (Array UInt8)) (hw : Bys ws bs) (hn : bs.length ≤ 1000) (hbs : ∀ b ∈ bs, b.size ≤ 10000) (h0 : dz < z)
   (z' dz' ll' : Addr) (u1' : Tok) (ws' : List Value) (bs' : List (Array UInt8)) (hw' : Bys ws' bs') (hn' : bs'.length ≤ 1000) (hbs' : ∀ b ∈ bs', b.size ≤ 10000) (h0' : dz' < z')
   (dp un : Nat) (gd : Option (List Code)) (cn : Str) (nms : List (Str × NameKind)) (ig ic : Bool) (mr : List (Str × Const)) (a : Addr) (ccd : Value) (cl : List (Str × Addr)) (outer : List Env) (A₀ : Around) (base h₀ : Heap) (L : Addr) (m : Str → Option Value) (s : Shared) (Q E : Value → Shared → Prop)
   (B : Below A₀ base outer h₀) (F : Fr h₀ L s.heap m) (X : (Mine.hd.heap_39 w.params).In h₀) (N : News h₀ L s.heap ((z, instObj 834 dz) :: (dz, witD w ll u1) :: (ll, listOf ws.toArray 0) :: (z', instObj 834 dz') :: (dz', witD w ll' u1') :: (ll', listOf ws'.toArray 0) :: news)) (T : Top Mine.hd.view_39 LS mean mg mb h₀) 
    (hd : dp + 100 < recursionLimit) (hu : un + 500 < cLine)
    (hret : ∀ h' tk', Fr h₀ L h' m → News h₀ L h' ((z, instObj 834 dz) :: (dz, witD w ll u1) :: (ll, listOf ws.toArray 0) :: (z', instObj 834 dz') :: (dz', witD w ll' u1') :: (ll', listOf ws'.toArray 0) :: news) → Q (.bool (((enc bs.length).toArray ++ laidBy bs).toList == ((enc bs'.length).toArray ++ laidBy bs').toList)) { s with heap := h', toks := tk' }) :
      wpN (model Challenge.rw_bd0009_01.row.prog w) (ktrTop dp un gd cn ⟨.function, nms, ig, ic, mr⟩ L a ccd cl outer) (call (.ref 687) [.ref z, .ref z']) Q E s := by
  k_with_none
  k_with "n enter" => (refine' cDef ?zzk1 ?zzk2 ?zzk3 ?zzk4 ?zzk5 ?zzkA ?zzkF ?zzkK ?zzk6 ?zzk7 ?zzk8 ?zzk9 ?zzkB ?_ ?zzc2 ?zzc3 ?zzc4 ?zzc5; (case zzkA | zzkF | zzkK => exact rfl); (case zzk1 | zzk2 | zzk3 | zzk4 | zzk5 => k_asm); (case zzk6 | zzk7 => k_is); (case zzk8 => k_room); (case zzk9 => first | exact BindsTo.of_eq rfl | exact binds_K (by k_in) rfl (by k_is) rfl rfl rfl); (case zzc5 => decide); (case zzkB => exact locs rfl); (case zzc2 | zzc3 | zzc4 => exact rfl); intro g' L' h' FG' F' N' B' X' T'; (try dsimp only))
  k_with "n both" => (refine' cBoth (nm := Str.ofString "kwargs") (nr := Str.ofString "args") (front := [_]) ?zzk1 ?zzk2 ?zzk3 ?zzk4 ?zzk5 ?zzkA ?zzkF ?zzkK ?zzk6 ?zzk7 ?zzk8 ?zzkP ?zzkS ?zzkT ?zzkB ?_ ?zzc2 ?zzc3 ?zzc4 ?zzc5; (case zzkA | zzkF | zzkK => exact rfl); (case zzk1 | zzk2 | zzk3 | zzk4 | zzk5 => k_asm); (case zzk6 | zzk7 => k_is); (case zzk8 => k_room); (case zzkP => exact rfl); (case zzkS => exact fun _ => rfl); (case zzkT => exact fun _ _ => rfl); (case zzkB => exact fun _ _ => locs rfl); (case zzc5 => decide); (case zzc2 | zzc3 | zzc4 => exact rfl); intro C' D' g' L' h' tk' l1 l2 FG' F' N' B' X' T'; (try dsimp only))
  k_with "call builtin:len" => ((with_reducible show wpAny _ _ (call _ [Value.bytes _ _]) _ _ _); refine len_bytes (by omega) ?_)
  k_with "call ref" => (k_here; k_dflt (show wpAny _ _ (call (Value.ref 215) [Value.ref _]) _ _ _); k_dflt ((with_unfolding_all refine' c_value _ _ _ _ _ _ _ _ ?zzq1 ?zzq4 ?zzq5 ?zzq6 _ _ _ _ _ _ _ _ _ _ _ _ _ _ _ _ _ _ _ _ ?zzB ?zzF ?zzX ?zzN ?zzT ?zzhd ?zzhu ?_); (case zzB | zzF | zzX | zzN | zzT => k_asm); (case zzq1 | zzq4 | zzq5 => assumption); (case zzq6 => (repeat' (first | assumption | exact OffN.nil | (refine OffN.cons ?_ ?_ ?_ ?_; (focus k_ne); (focus k_ne); (focus k_ne)) | (refine OffN.of (by assumption) (by assumption) (by assumption))))); (case zzhd => ktr_room); (case zzhu => ktr_units); k_whole; intro t' h' tk' F' N'; (try k_sweep)))
  k_with "call builtin:hasattr" => (k_here; (with_reducible show wpAny _ _ (call (Value.builtin _) [_, Value.str _ _]) _ _ _); k_dflt (refine' has_fn ?zzk1 ?zzk2 ?zzk3 ?zzk4 ?zzk5 ?zzk6 ?zzk7 ?zzk8 ?zzk9 ?zzk10 ?zzk11 ?zzk12 ?zzk13 ?_; (case zzk4 => k_inst); (case zzk1 | zzk2 | zzk3 => k_asm); (case zzk5 | zzk6 | zzk7 | zzk8 | zzk9 | zzk10 => k_is); (case zzk11 => decide +kernel); (case zzk12 => k_get); (case zzk13 => exact pk_modW _ _); k_whole); intro q' h' F' N'; (try k_sweep))
  have X0 := X
  revert X0
  k_fill
  intro _
  have hz9 := sizeLine_eq
  replace h0 := ltN h0
  replace h0' := ltN h0'
  refine nCall ?_
  walk_at "n enter"
  (try k_sweep)
  refine nExecsCons (nOf ?_)
  k_steps
  refine nExecsCons (nReturn (nCmpV (nCallAttr ?_)))
  k_steps
  refine nCallW0 ?_
  refine Kp.of .frame (Looks.of_peek (by k_in) (pk_keepSer _ _)) ?_
  refine' c_wser z dz ll u1 ws bs hw hn hbs h0 _ _ _ _ _ _ _ _ _ _ _ _ _ _ _ _ _ _ _ _ ?B ?F ?X ?N ?T ?hd ?hu ?_
  case B => k_asm
  case F => k_asm
  case X => k_asm
  case N => exact cb_drop (by assumption) (by kcj_all)
  case T => k_asm
  case hd => ktr_room
  case hu => ktr_units
  intro t' h' tk' F' N'
  (try k_sweep)
  refine nCallAttr ?_
  k_steps
  refine nCallW0 ?_
  refine Kp.of .frame (Looks.of_peek (by k_in) (pk_keepSer _ _)) ?_
  refine' c_wser (news := (z, instObj 834 dz) :: (dz, witD w ll u1) :: (ll, listOf ws.toArray 0) :: news) z' dz' ll' u1' ws' bs' hw' hn' hbs' h0' _ _ _ _ _ _ _ _ _ _ _ _ _ _ _ _ _ _ _ _ ?B ?F ?X ?N ?T ?hd ?hu ?_
  case B => k_asm
  case F => k_asm
  case X => k_asm
  case N => exact cb_drop (by assumption) (by kcj_all)
  case T => k_asm
  case hd => ktr_room
  case hu => ktr_units
  intro t' h' tk' F' N'
  (try k_sweep)
  refine nOf ?_
  k_steps
  exact hret _ _ (by k_asm) (cb_drop (by assumption) (by kcj_all))
end Mine
end

section
open PySem PySem.Spec PySem.W PySem.Calls PyProof.Rows
set_option maxRecDepth 100000
set_option maxHeartbeats 4000000
namespace Mine
def pick3 {α β γ : Type} (o : Option (α × β × γ)) (a : α) (b : β) (c : γ) (_ : o = some (a, b, c)) : β × γ := (b, c)
/-- the law's body and its scope, as the row has them -/
noncomputable def lawDef : List Stmt × Scope := pick3 (Challenge.rw_bd0009_01.row.prog.theDef (Str.ofString "law")) _ _ _ rfl
noncomputable abbrev lawEnv (L a : Addr) (ccd : Value) : Env := envOf (Str.ofString "law") lawDef.2 L a ccd
noncomputable abbrev lawTop (dp un : Nat) (gd : Option (List Code)) (L a : Addr) (ccd : Value) : Around := ktrTop dp un gd (Str.ofString "law") lawDef.2 L a ccd [] []
def Big (x : Int) : Prop := 0 ≤ x ∧ x < 18446744073709551616
end Mine
end

section
open PySem PySem.Spec PySem.W PySem.Calls PyProof.Rows
set_option maxRecDepth 100000
set_option maxHeartbeats 4000000
namespace Mine
theorem numb_a {p : Int} (h : p.fmod 5 ≠ 3) : Big ([253, 65536, 4294967296, 0, 253].getD (p.fmod 5).toNat 0 + (p.fdiv 5).fmod 7 - 3) := by
  have g1 := fmod_lo p (n := 5) (by decide)
  have g2 := fmod_hi p (n := 5) (by decide)
  have g3 := fmod_lo (p.fdiv 5) (n := 7) (by decide)
  have g4 := fmod_hi (p.fdiv 5) (n := 7) (by decide)
  generalize p.fmod 5 = j at *
  generalize (p.fdiv 5).fmod 7 = k at *
  have hj : j = 0 ∨ j = 1 ∨ j = 2 ∨ j = 4 := by omega
  rcases hj with rfl | rfl | rfl | rfl <;> constructor <;> simp <;> omega
theorem numb_b {p : Int} (h : p.fmod 5 = 3) : Big ([253, 65536, 4294967296, 0, 253].getD (p.fmod 5).toNat 0 + (p.fdiv 5).fmod 7 - 0) := by
  have g3 := fmod_lo (p.fdiv 5) (n := 7) (by decide)
  have g4 := fmod_hi (p.fdiv 5) (n := 7) (by decide)
  rw [h]
  generalize (p.fdiv 5).fmod 7 = k at *
  constructor <;> simp <;> omega
theorem numb_c (x : Int) : Big (x.fmod (2 ^ Int.toNat 64)) := by
  have e : ((2 : Int) ^ Int.toNat 64) = 18446744073709551616 := by decide
  rw [e]
  exact ⟨fmod_lo x (by decide), fmod_hi x (by decide)⟩
theorem lawA {w : World} {mean : ExcName → Option Value} {mg mb : Str → Option Value} (news : List (Addr × Obj)) (l : Addr) (vs : List Value) (ns : List Int) (hI : IntsAre vs ns) (hN : ns.length < 2 ^ 62) (hbits : BitsOK ns)
   (dp un : Nat) (gd : Option (List Code)) (a : Addr) (ccd : Value) (A₀ : Around) (h₀ : Heap) (L : Addr) (m : Str → Option Value) (s : Shared) (Q : Flow → Shared → Prop) (E : Value → Shared → Prop)
   (hl : h₀.IsList l vs.toArray)
   (B : Below A₀ h₀ [] h₀) (F : Fr h₀ L s.heap m) (X : (Mine.hd.heap_39 w.params).In h₀) (N : News h₀ L s.heap news) (T : Top Mine.hd.view_39 LS mean mg mb h₀) 
   (hd : dp + 200 < recursionLimit) (hu : un + 1000 < cLine)
   (hm0 : m (Str.ofString "script") = some (.ref l))
   (hret : ∀ ln vs' nn k m' h' tk', IntsAre vs' nn → nn.length = 5 → (∀ x ∈ nn, Big x) → m' (Str.ofString "script") = some (.ref l) → m' (Str.ofString "numbers") = some (.ref ln) →
      Fr h₀ L h' m' → News h₀ L h' ((ln, listOf vs'.toArray k) :: news) → wpN (model Challenge.rw_bd0009_01.row.prog w) (lawTop dp un gd L a ccd) (execs (lawDef.1.drop 2) (lawEnv L a ccd)) Q E { s with heap := h', toks := tk' }) :
   wpN (model Challenge.rw_bd0009_01.row.prog w) (lawTop dp un gd L a ccd) (execs lawDef.1 (lawEnv L a ccd)) Q E s := by
  k_with_none
  k_with "eval Name" => (k_here; k_dflt (refine' ld ?zzk1 ?zzk2 ?_; (case zzk1 => k_asm); (case zzk2 => first | exact rfl | assumption); k_whole))
  k_with "call ref" => (k_here; (with_reducible show wpAny _ _ (call (Value.ref 843) [Value.ref _, Value.int _ _]) _ _ _); k_dflt ((with_unfolding_all refine' c_number _ _ _ _ _ ?zzq1 _ _ _ _ _ _ _ _ _ _ _ _ _ _ _ _ _ _ _ _ ?zzB ?zzF ?zzX ?zzN ?zzT ?zzC1 ?zzC2 ?zzC3 ?zzhd ?zzhu ?_); (case zzB | zzF | zzX | zzN | zzT => k_asm); (case zzC1 | zzC2 | zzC3 => assumption); (case zzq1 => omega); (case zzhd => ktr_room); (case zzhu => ktr_units); k_whole; intro t' h' tk' F' N'; (try k_sweep)))
  k_with "binaryOp Mult int int" => (refine mul_int ?_ (hm := mul_any (BitsOK.le (by assumption) (by omega) (by omega)) (by decide)))
  have X0 := X
  revert X0
  k_fill
  intro _
  dsimp only [lawDef, pick3, List.drop, lawEnv, lawTop] at hret ⊢
  refine nExecsCons (nOf ?_)
  k_steps
  rename Addr => li
  rename News _ _ _ _ => NZ
  refine nExecsCons (nFor ?_)
  k_steps
  refine iterRange (n := 5) (by k_asm) (by k_asm) (by assumption) ?_ ?_ ?_
  · decide +kernel
  · decide +kernel
  intro I h' hI F' N' l2
  have g0 := ltN (l2 _ (.head _))
  refine cForW (env := envOf _ _ _ _ _) (PySem.Walks.range rfl I 0 1 5) (fun i h hh => ⟨_, hh⟩) rfl rfl F' N' hI
    (fun i m' news' => ∃ ws nn k, IntsAre ws nn ∧ nn.length = i ∧ (∀ x ∈ nn, Big x) ∧ m' (Str.ofString "script") = some (.ref l) ∧ m' (Str.ofString "numbers") = some (.ref li) ∧ news' = (li, listOf ws.toArray k) :: news)
    ?h0 ?hJ ?step ?hR
  case h0 => exact ⟨[], [], 0, .nil, rfl, (by intro x hx; cases hx), hm0, rfl, rfl⟩
  case hJ =>
    rintro i m' news' ⟨ws, nn, k, _, _, _, _, _, e3⟩ p hp
    subst e3
    rcases List.mem_cons.mp hp with e | hp
    · rw [e]; exact Nat.ne_of_lt g0
    exact Nat.ne_of_lt (l2 _ (.tail _ hp))
  case step =>
    rintro i v m₁ news₁ oI h tk hlt ⟨ti, hv⟩ ⟨ws, nn, k, hW, hnl, hnb, e1, e2, e3⟩ F1 N1
    subst e3
    subst hv
    refine nOf ?_
    k_steps
    all_goals (
      rename Fr _ _ _ _ => FZ
      rename News _ _ _ _ => NZ
      rw [show ws.toArray.push _ = (ws ++ [_]).toArray from List.push_toArray _ _] at NZ
      refine ⟨_, _, _, _, rfl, ?_, FZ, cb_drop (news := (I, oI) :: (li, listOf (ws ++ [_]).toArray (k + 1)) :: news) NZ (by kcj_all)⟩
      refine ⟨ws ++ [_], nn ++ [_], _, IntsAre.append hW (.cons _ _ .nil), ?_, ?_, e1, e2, rfl⟩
      · (rw [List.length_append, hnl]; rfl)
      · intro x hx
        rcases List.mem_append.mp hx with hx | hx
        · exact hnb x hx
        rw [List.mem_singleton.mp hx]
        first
          | exact numb_a (by assumption)
          | exact numb_b (by assumption)
          | exact numb_c _)
  case hR =>
    rintro h' tk m' news' F1 N1 ⟨ws, nn, k, hW, hnl, hnb, e1, e2, e3⟩
    subst e3
    exact hret li ws nn k m' h' tk hW hnl hnb e1 e2 F1 N1
end Mine
end

section
open PySem PySem.Spec PySem.W PySem.Calls PyProof.Rows PySem.Builtin
set_option maxRecDepth 100000
set_option maxHeartbeats 4000000
namespace Mine
theorem by_method {M : Model} {A : Around} {E : Value → Shared → Prop} {s : Shared} {b : Array UInt8} {t : Tok} {pl : Sem Bool} {Q : Value × List Value → Shared → Prop} {name : Str} {id : String} (slot : Slot "bytes" name id) (ty : typeOf (.builtin id) = pure (.type "method_descriptor")) (h : Q (.builtin id, [.bytes b t]) s) :
    wpAny M A (getMethod (.bytes b t) name pl) Q E s := KBd.method_of (.bytes b t) (typeIs_bytes _ _ _) slot ty KBd.noRef h
def swB (b c : Array UInt8) : Bool := if (b.size : Int) < c.size then false else b.extract 0 c.size == c
theorem gives_sw (b c : Array UInt8) (t u : Tok) : Gives («bytes.startswith» ⟨[.bytes b t, .bytes c u], []⟩) (.val (.bool (swB b c))) := by
  refine .of_wp fun M A E s Q hq => ?_
  show wpAny M A (isInstance (.bytes c u) (.type "tuple") >>= fun r => _) _ E s
  refine wpAny_bind (wpAny_isInstance (T := "bytes") (typeIs_bytes s c u) (b := false) (by rw [isSubtype_type]; kernel_rfl) ?_)
  show wpAny M A (Bytes.buffer? _ (.bytes c u) >>= fun r => _) _ E s
  refine wpAny_bind (wpAny_of_eq KBy.buffer_eq ?_)
  refine wpAny_pure ⟨_, rfl, ?_⟩
  refine Eq.mp (congrArg (fun v => Q (.bool v) s) ?_) hq
  have h1 : ¬ ((b.size : Int) < 0) := by omega
  simp [swB, h1]
theorem slot_lt : Slot "bytes" (cmpInfo .Lt).2.1 "bytes.__lt__" :=
  .of (owner := "bytes") (n := "__lt__") (by rw [typeLookup_type, builtinLookup_eq_fast]; kernel_rfl) (by decide +kernel) (by decide +kernel) (by decide +kernel)
    (by first | exact .inl (by decide +kernel) | exact .inr (by decide +kernel)) (by rw [isSubtype_type]; kernel_rfl)
theorem entry_lt : entryFor table "bytes.__lt__" = some Builtin.«bytes.__lt__» := entryFor_of_tree (by kernel_rfl)
theorem args_lt (a b : Value) : argsOk "bytes.__lt__" ⟨[a, b], []⟩ := by unfold argsOk; kernel_rfl
def ltB (b c : Array UInt8) : Bool := Bytes.order b.toList c.toList == .lt
theorem gives_lt (b c : Array UInt8) (t u : Tok) : Gives («bytes.__lt__» ⟨[.bytes b t, .bytes c u], []⟩) (.val (.bool (ltB b c))) := by
  refine .of_wp fun M A E s Q hq => ?_
  show wpAny M A (isInstance (.bytes c u) (.type "bytes") >>= fun r => _) _ E s
  refine wpAny_bind (wpAny_isInstance (typeIs_bytes s c u) PySem.F.sub_bytes_bytes ?_)
  exact wpAny_pure ⟨_, rfl, hq⟩
section
variable {prog : Program} {w : World} {A : Around} {E : Value → Shared → Prop} {s : Shared} {b c : Array UInt8} {t u : Tok}
theorem by_sw {Q : Value → Shared → Prop} (h : Q (.bool (swB b c)) s) : wpAny (model prog w) A (call (.builtin "bytes.startswith") [.bytes b t, .bytes c u]) Q E s :=
  call_gives FB.slot_bytes_startswith (typeIs_bytes _ _ _) FB.entry_bytes_startswith (FB.args_bytes_startswith_2 _ _) (gives_sw b c t u) h
theorem by_lt {Q : Value → Shared → Prop} (h : Q (.bool (ltB b c)) s) : wpAny (model prog w) A (compareOp .Lt (.bytes b t) (.bytes c u)) Q E s :=
  compareOp_gives (op := .Lt) (typeIs_bytes s b t) (typeIs_bytes s c u) slot_lt entry_lt (args_lt _ _) (gives_lt b c t u) (fun e => nomatch e) h
end
end Mine
end

section
open PySem PySem.Spec PySem.W PySem.Calls PyProof.Rows PySem.Builtin
set_option maxRecDepth 100000
set_option maxHeartbeats 4000000
namespace Mine
abbrev slO (l u v : Value) : Obj := { cls := .type "slice", data := .fields #[l, u, v] }
def cutB (b : Array UInt8) (lo hi st : Option Int) : Array UInt8 := Bytes.sliced b (sliceBounds lo hi st b.size).1 (sliceBounds lo hi st b.size).2.1 (sliceBounds lo hi st b.size).2.2
section
variable {M : Model} {h : Heap} {j : Addr} {l u v : Value} {lo hi st : Option Int}
theorem part_any {x : Value} {o : Option Int} (hx : IsPart x o) : Looks M h (do
    if x == .none then return .none
    if (← specialOf x "__index__").isNone then
      rule "bytes.slice.part-no-index"; raiseError "TypeError" "slice indices must be integers or None or have an __index__ method"
    return rawInt (← asIndex x)) (rawPart o) := by
  cases hx with
  | none => exact Looks.of_pure rfl
  | int i t =>
    refine Looks.of_pure ?_
    rw [FB.idx_int, FB.as_int]; rfl
theorem raw_ne {st : Option Int} (h0 : st ≠ some 0) : (rawPart st == rawInt 0) = false := by
  cases st with
  | none => rfl
  | some c =>
    have : c ≠ 0 := fun e => h0 (by rw [e])
    show (Value.int c 0 == Value.int 0 0) = false
    simp [this]
theorem parts_any (hs : h.get? j = some (slO l u v)) (hl : IsPart l lo) (hu : IsPart u hi) (hv : IsPart v st) (h0 : st ≠ some 0) : Looks M h (Bytes.sliceParts (.ref j)) (rawPart lo, rawPart hi, rawPart st) := by
  have fl : ∀ {i : Nat} {x : Value}, (#[l, u, v] : Array Value)[i]? = some x → Looks M h (field (.ref j) i) x := fun e _ _ _ _ k q => wpAny_field (k _ _ hs) rfl e q
  unfold Bytes.sliceParts
  refine (fl (i := 2) rfl).andThen ?_
  refine (part_any hv).andThen ?_
  rw [if_neg (by rw [raw_ne h0]; exact Bool.false_ne_true)]
  refine (fl (i := 0) rfl).andThen ?_
  refine (part_any hl).andThen ?_
  refine (fl (i := 1) rfl).andThen ?_
  refine (part_any hu).andThen ?_
  exact .now
end
theorem cut_whole {b : Array UInt8} {lo hi st : Option Int} (h1 : (sliceBounds lo hi st b.size).1 = 0) (h2 : (sliceBounds lo hi st b.size).2.2 = 1) (h3 : (sliceBounds lo hi st b.size).2.1 = b.size) : cutB b lo hi st = b := by
  unfold cutB
  rw [h1, h2, h3]
  have e := sliced_run b 0 b.size (Nat.le_refl _)
  rw [Array.extract_size] at e
  exact e
section
variable {prog : Program} {w : World} {A : Around} {E : Value → Shared → Prop} {s : Shared} {j : Addr} {l u v : Value} {lo hi st : Option Int} {b : Array UInt8} {t : Tok}
theorem meets_cut (hs : s.heap.get? j = some (slO l u v)) (hl : IsPart l lo) (hu : IsPart u hi) (hv : IsPart v st) (h0 : st ≠ some 0) (hz : (cutB b lo hi st).size ≤ sizeLine) {Q : Value → Shared → Prop} 
    (h : ∀ t' k, Q (.bytes (cutB b lo hi st) t') { s with toks := k }) :
    wpAny (model prog w) A (getItem (.bytes b t) (.ref j)) Q E s := by
  have hT : s.TypeIs (.ref j) "slice" := ⟨_, hs, rfl⟩
  refine wpAny_getItem_slot (typeIs_bytes _ _ _) (by decide) FB.slot_bytes_getitem (wpAny_call_entry FB.slot_bytes_getitem (typeIs_bytes _ _ _) FB.entry_bytes_getitem ?_ (FB.args_bytes_getitem_2 _ _))
  show wpAny _ _ (Bytes.payload (.bytes b t) >>= fun r => _) _ _ s
  refine wpAny_bind (wpAny_of_eq (a := b) rfl ?_)
  show wpAny _ _ (Bytes.subscript? (.ref j) >>= fun r => _) _ _ s
  refine wpAny_bind ?_
  unfold Bytes.subscript?
  refine wpAny_bind (wpAny_specialOf hT slice_no_index (wpAny_pure ?_))
  refine wpAny_bind (wpAny_typeOf hT ?_)
  show wpAny _ _ (Bytes.sliceParts (.ref j) >>= fun r => _) _ _ s
  refine wpAny_bind ((parts_any hs hl hu hv h0).here ?_)
  show wpAny _ _ (sliceIndices (rawPart lo) (rawPart hi) (rawPart st) b.size >>= fun r => _) _ _ s
  rw [sliceIndices_raw lo hi st b.size h0]
  refine wpAny_bind (wpAny_pure ?_)
  (try dsimp only)
  refine wpAny_ite ?_
  split
  · rename_i hc
    simp only [Bool.and_eq_true, beq_iff_eq] at hc
    have e := cut_whole (b := b) (lo := lo) (hi := hi) (st := st) hc.1.1.1 hc.1.1.2 hc.1.2
    refine wpAny_bind (wpAny_typeOf (typeIs_bytes s b t) ?_)
    refine wpAny_bind (wpAny_rule (wpAny_pure ⟨_, rfl, ?_⟩))
    have h' := h t s.toks
    rw [e] at h'
    exact h'
  · exact wpAny_bind (wpAny_mkBytes (wpAny_pure ⟨_, rfl, h _ _⟩) hz)
theorem by_slice {value slice : Expr} {h₀ : Heap} {L : Addr} {m : Str → Option Value} {news : List (Addr × Obj)} {r : Array UInt8} {Q : Value → Shared → Prop} (F : Fr h₀ L s.heap m) (N : News h₀ L s.heap news) (hl : IsPart l lo) (hu : IsPart u hi) (hv : IsPart v st) (h0 : st ≠ some 0) (e : cutB b lo hi st = r) (hz : r.size ≤ sizeLine)
    (h : ∀ h' t' k, Fr h₀ L h' m → News h₀ L h' news → Q (.bytes r t') { s with heap := h', toks := k })
    (hs : subscripted slice false (.bytes b t) (.ref s.heap.objs.size) = operate [.ref s.heap.objs.size, .bytes b t] (getItem (.bytes b t) (.ref s.heap.objs.size)) := by with_unfolding_all rfl)
    (ht : ∀ r, letTemporaryGo value (.bytes b t) r = pure () := by intro _; with_unfolding_all rfl) :
    wpAny (model prog w) A (subscriptTail value slice (.bytes b t) (.ref s.heap.objs.size)) Q E { s with heap := s.heap.push (slO l u v) } := by
  subst e
  exact tail_of_ItemOn ⟨"bytes", _, FB.slot_bytes_getitem.lookup, typeIs_bytes _ _ _, meets_cut (Heap.get?_push_size _ rfl) hl hu hv h0 hz fun t' k => h _ _ _ (F.push _) (News.pushKeep N _)⟩ hs ht
end
theorem cut_to {b : Array UInt8} {i : Int} (h0 : 0 ≤ i) (h1 : i ≤ b.size) : cutB b none (some i) none = b.extract 0 i.toNat := by
  have e : sliceBounds none (some i) none b.size = (0, i, 1) := by
    unfold sliceBounds
    simp only [Option.getD_none, if_neg (show ¬ i < 0 by omega), show ((1 : Int) > 0) = True from by simp, if_true]
    refine Prod.ext rfl (Prod.ext ?_ rfl)
    show max 0 (min i _) = i
    omega
  unfold cutB
  rw [e]
  have := sliced_run b 0 i.toNat (by omega)
  rw [Int.toNat_of_nonneg h0] at this
  exact this
theorem cut_from {b : Array UInt8} {i : Int} (h0 : 0 ≤ i) : cutB b (some i) none none = b.extract i.toNat b.size := by
  have e : sliceBounds (some i) none none b.size = (min i b.size, (b.size : Int), 1) := by
    unfold sliceBounds
    simp only [Option.getD_none, if_neg (show ¬ i < 0 by omega), show ((1 : Int) > 0) = True from by simp, if_true]
    refine Prod.ext ?_ rfl
    show max 0 (min i _) = min i _
    omega
  unfold cutB
  rw [e]
  by_cases h : i ≤ b.size
  · have := sliced_run b i.toNat b.size (Nat.le_refl _)
    rw [Int.toNat_of_nonneg h0] at this
    rw [show min i (b.size : Int) = i by omega]
    exact this
  · have := sliced_run b b.size b.size (Nat.le_refl _)
    rw [show min i (b.size : Int) = (b.size : Int) by omega]
    refine this.trans ?_
    apply Array.ext'
    simp only [Array.toList_extract, List.extract_eq_drop_take]
    rw [Nat.sub_self, show b.size - i.toNat = 0 by omega]
    simp
theorem cut_rev {b : Array UInt8} : cutB b none none (some (-1)) = b.toList.reverse.toArray := by
  have e : sliceBounds none none (some (-1)) b.size = ((b.size : Int) - 1, -1, -1) := rfl
  unfold cutB
  rw [e]
  unfold Bytes.sliced sliceRange
  simp only [show ¬ ((-1 : Int) > 0) by decide, if_false]
  have hc : (if (b.size : Int) - 1 > -1 then ((b.size : Int) - 1 - -1 - -1 - 1) / - -1 else 0).toNat = b.size := by
    rw [show (- (-1 : Int)) = 1 from rfl, Int.ediv_one]
    split <;> omega
  rw [hc]
  congr 1
  rw [List.filterMap_map]
  have e2 : (List.range b.size).filterMap ((fun x => b[x]?) ∘ fun k : Nat => ((b.size : Int) - 1 + -1 * (k : Int)).toNat) = (List.range b.size).map fun k => b.toList.getD (b.size - 1 - k) 0 := by
    refine fm_map fun x hx => ?_
    have hx' := List.mem_range.mp hx
    have e3 : ((b.size : Int) - 1 + -1 * (x : Int)).toNat = b.size - 1 - x := by omega
    show b[((b.size : Int) - 1 + -1 * (x : Int)).toNat]? = _
    rw [e3]
    have : b.size - 1 - x < b.size := by omega
    simp [this]
  rw [e2]
  apply List.ext_getElem?
  intro k
  by_cases hk : k < b.size
  · have h2 : b.size - 1 - k < b.size := by omega
    rw [List.getElem?_reverse (by rw [Array.length_toList]; exact hk)]
    simp [hk, h2]
  · rw [List.getElem?_eq_none (by simp; omega), List.getElem?_eq_none (by simp; omega)]
end Mine
end

section
open PySem PySem.Spec PySem.W PySem.Calls PyProof.Rows PySem.Builtin
set_option maxRecDepth 100000
set_option maxHeartbeats 4000000
namespace Mine
def joinBy : List (Array UInt8) → Array UInt8
  | [] => #[]
  | b :: r => b ++ joinBy r
theorem joinBy_append : ∀ (a r : List (Array UInt8)), joinBy (a ++ r) = joinBy a ++ joinBy r
  | [], r => by simp [joinBy]
  | b :: a, r => by simp only [List.cons_append, joinBy, joinBy_append a r, Array.append_assoc]
theorem joined_from : ∀ (bs : List (Array UInt8)) (k : Nat) (o : Array UInt8), (bs.zipIdx k).foldl (fun out (p : Array UInt8 × Nat) => (if p.2 > 0 then out ++ (#[] : Array UInt8) else out) ++ p.1) o = o ++ joinBy bs
  | [], _, o => by simp [joinBy]
  | b :: bs, k, o => by
    rw [List.zipIdx_cons, List.foldl_cons, joined_from bs (k + 1)]
    simp [joinBy]
theorem joined_is (bs : List (Array UInt8)) : Bytes.joined #[] bs = joinBy bs := by
  have := joined_from bs 0 #[]
  rw [Array.empty_append] at this
  exact this
theorem sum_from : ∀ (bs : List (Array UInt8)) (n : Nat), bs.foldl (fun k b => k + b.size) n = n + (joinBy bs).size
  | [], n => by simp [joinBy]
  | b :: bs, n => by
    rw [List.foldl_cons, sum_from bs, joinBy, Array.size_append]; omega
theorem slot_join : Slot "bytes" "join" "bytes.join" :=
  .of (owner := "bytes") (n := "join") (by rw [typeLookup_type, builtinLookup_eq_fast]; kernel_rfl) (by decide +kernel) (by decide +kernel) (by decide +kernel)
    (by first | exact .inl (by decide +kernel) | exact .inr (by decide +kernel)) (by rw [isSubtype_type]; kernel_rfl)
theorem type_join : typeOf (.builtin "bytes.join") = pure (.type "method_descriptor") := by show builtinType _ = _; rw [builtinType_eq_fast]; kernel_rfl
theorem entry_join : entryFor table "bytes.join" = some Builtin.«bytes.join» := entryFor_of_tree (by kernel_rfl)
theorem args_join (a b : Value) : argsOk "bytes.join" ⟨[a, b], []⟩ := by unfold argsOk; kernel_rfl
section
variable {M : Model} {A : Around} {E : Value → Shared → Prop} {s : Shared}
theorem take_eq {id : String} (b : Array UInt8) (t : Tok) : Bytes.takeBufferQuiet? id (.bytes b t) 0 = pure (some (b, none)) := by
  unfold Bytes.takeBufferQuiet? Bytes.takeBuffer?
  rw [KBy.special_eq KBy.look_buffer, KBy.own_buffer, show Bytes.buffer? id (.bytes b t) (full := ((0 : Int) == Bytes.fullReadOnly)) = pure (some b) from FB.buffer_bytes _ _ _ _]
  kernel_rfl
theorem forIn_range {β : Type} {n : Nat} {f : Nat → β → Sem (ForInStep β)} {Q : β → Shared → Prop} (I : Nat → β → Prop)
    (step : ∀ i b (Q' : ForInStep β → Shared → Prop), i < n → I i b → (∀ b', I (i + 1) b' → Q' (.yield b') s) → wpAny M A (f i b) Q' E s) (hq : ∀ b, I n b → Q b s) :
    ∀ init, I 0 init → wpAny M A (forIn [0:n] init f) Q E s := by
  have key : ∀ (k i : Nat) (b : β), i + k = n → I i b → wpAny M A (forIn (List.range' i k) b f) Q E s := by
    intro k
    induction k with
    | zero =>
      intro i b hi hb
      have : i = n := by omega
      subst this
      exact wpAny_pure (hq b hb)
    | succ k ih =>
      intro i b hi hb
      rw [List.range'_succ, List.forIn_cons]
      exact wpAny_bind (step i b _ (by omega) hb fun b' h' => ih (i + 1) b' (by omega) h')
  intro init h0
  rw [Std.Legacy.Range.forIn_eq_forIn_range']
  have e : ([0:n] : Std.Legacy.Range).size = n := by simp [Std.Legacy.Range.size]
  rw [e]
  exact key n 0 init (by omega) h0
theorem letGo_all : ∀ {taken : List (Value × Option Value)} {keep : List Value} {Q : Unit → Shared → Prop}, (∀ p ∈ taken, p.2 = none) → Q () s → wpAny M A (Bytes.joinLetGo taken keep) Q E s
  | [], _, _, _, h => wpAny_pure h
  | (x, w) :: r, keep, Q, hw, h => by
    have e : w = none := hw (x, w) (.head _)
    subst e
    unfold Bytes.joinLetGo
    exact wpAny_bind (wpAny_letGo (letGo_all (fun p hp => hw p (.tail _ hp)) h))
end
section
variable {prog : Program} {w : World} {A : Around} {E : Value → Shared → Prop} {s : Shared}
theorem by_join {l : Addr} {ws : List Value} {bs : List (Array UInt8)} {t : Tok} {Q : Value → Shared → Prop} (hl : s.heap.IsList l ws.toArray) (hw : Bys ws bs) (hz : (joinBy bs).size ≤ sizeLine) (h : ∀ t' k, Q (.bytes (joinBy bs) t') { s with toks := k }) :
    wpAny (model prog w) A (call (.builtin "bytes.join") [.bytes #[] t, .ref l]) Q E s := by
  refine wpAny_call_entry slot_join (typeIs_bytes _ _ _) entry_join ?_ (args_join _ _)
  have hT : s.TypeIs (.ref l) "list" := hl.typeIs
  have hsi : ∀ {R : Option (Array Value) → Shared → Prop}, R (some ws.toArray) s → wpAny (model prog w) A.in1 (seqItems? (.ref l)) R E s := by
    intro R hR
    obtain ⟨o, ho, hc, n, hd⟩ := id hl
    unfold seqItems?
    refine wpAny_bind (wpAny_load ho ?_)
    rw [hd]
    exact wpAny_pure hR
  show wpAny _ _ (Bytes.joinItems (.ref l) >>= fun seq => _) _ _ s
  refine wpAny_bind ?_
  unfold Bytes.joinItems
  refine wpAny_bind (wpAny_typeOf hT ?_)
  refine wpAny_ite ?_
  rw [if_pos (by rfl)]
  refine wpAny_pure ?_
  refine wpAny_bind (hsi ?_)
  have gen : ∀ {f : Nat → Array (Array UInt8) × List (Value × Option Value) → Sem (ForInStep (Array (Array UInt8) × List (Value × Option Value)))} {g : Array (Array UInt8) × List (Value × Option Value) → Sem PySem.Fin},
      (∀ i p (Q' : ForInStep (Array (Array UInt8) × List (Value × Option Value)) → Shared → Prop), i < ws.toArray.size → (p.1.toList = bs.take i ∧ ∀ q ∈ p.2, q.1.onHeap = false ∧ q.2 = none) →
        (∀ p', (p'.1.toList = bs.take (i + 1) ∧ ∀ q ∈ p'.2, q.1.onHeap = false ∧ q.2 = none) → Q' (.yield p') s) → wpAny (model prog w) A.in1 (f i p) Q' E s) →
      (∀ p, (p.1.toList = bs ∧ ∀ q ∈ p.2, q.1.onHeap = false ∧ q.2 = none) → wpAny (model prog w) A.in1 (g p) (fun fin s' => ∃ v, fin = .done (.ret v) ∧ Q v s') E s) →
      wpAny (model prog w) A.in1 (forIn [0:ws.toArray.size] (#[], []) f >>= g) (fun fin s' => ∃ v, fin = .done (.ret v) ∧ Q v s') E s := by
    intro f g hf hg
    refine wpAny_bind (forIn_range (fun i (p : Array (Array UInt8) × List (Value × Option Value)) => p.1.toList = bs.take i ∧ ∀ q ∈ p.2, q.1.onHeap = false ∧ q.2 = none) hf (fun p hp => hg p ?_) _ ⟨rfl, fun q hq => nomatch hq⟩)
    have e : ws.toArray.size = bs.length := by rw [List.size_toArray, hw.len]
    rw [e, List.take_length] at hp
    exact hp
  have fin : ∀ p : Array (Array UInt8) × List (Value × Option Value), (p.1.toList = bs ∧ ∀ q ∈ p.2, q.1.onHeap = false ∧ q.2 = none) →
      wpAny (model prog w) A.in1 (do
        let sep ← Bytes.payload (.bytes #[] t)
        if Bytes.tooLong (Array.foldl (fun k b => k + b.size) (sep.size * (p.1.size - 1)) p.1) = true then unsupported (toString "bytes.join" ++ toString ":memory")
        let result ← mkBytes (Bytes.joined sep p.1.toList)
        holding (result :: p.2.flatMap fun x => x.1 :: x.2.toList) point
        Bytes.joinLetGo p.2 [result]
        ret result) (fun fin s' => ∃ v, fin = .done (.ret v) ∧ Q v s') E s := by
    rintro ⟨ps, tk⟩ ⟨h1, h2⟩
    refine wpAny_bind (wpAny_of_eq (a := (#[] : Array UInt8)) rfl ?_)
    have hs : Array.foldl (fun k (b : Array UInt8) => k + b.size) ((#[] : Array UInt8).size * (ps.size - 1)) ps = (joinBy bs).size := by
      rw [← Array.foldl_toList, h1, sum_from]; simp
    dsimp only at h1 ⊢
    rw [hs, if_neg (by unfold Bytes.tooLong; simp; omega), h1, joined_is]
    refine wpAny_bind (wpAny_mkBytes ?_ hz)
    refine wpAny_bind (wpAny_holding (wpAny_point ?_))
    refine wpAny_bind (letGo_all (fun q hq => (h2 q hq).2) ?_)
    exact wpAny_pure ⟨_, rfl, h _ _⟩
  have any0 : ∀ {tk : List (Value × Option Value)}, (∀ q ∈ tk, q.1.onHeap = false ∧ q.2 = none) → (tk.any fun x => x.1.onHeap) = false := fun {tk} h => List.any_eq_false.mpr fun q hq => by rw [(h q hq).1]; exact Bool.false_ne_true
  have item : ∀ i, i < ws.toArray.size → ∃ b u, ws.toArray.getD i Value.none = .bytes b u ∧ bs[i]? = some b := by
    intro i hi
    rw [List.size_toArray] at hi
    have hv : ws[i]? = some ws[i] := List.getElem?_eq_getElem hi
    obtain ⟨b, u, e, hb⟩ := hw.get hv
    refine ⟨b, u, ?_, hb⟩
    rw [← e]
    simp [Array.getD, hi]
  rcases ws with _ | ⟨v, _ | ⟨v2, r⟩⟩
  · dsimp only
    rw [if_pos (by rfl)]
    exact gen (fun i p Q' hi _ _ => absurd hi (Nat.not_lt_zero i)) fun p hp => fin p hp
  · dsimp only
    rw [if_pos (by rfl)]
    obtain ⟨b, bs', rfl⟩ : ∃ b bs', bs = b :: bs' := by
      cases bs with
      | nil => exact hw.elim
      | cons b bs' => exact ⟨b, bs', rfl⟩
    obtain ⟨⟨u, rfl⟩, hr⟩ := hw
    have hr' : bs' = [] := by
      cases bs' with
      | nil => rfl
      | cons _ _ => exact hr.elim
    subst hr'
    refine wpAny_bind (wpAny_typeOf (typeIs_bytes _ _ _) ?_)
    rw [if_pos (by rfl)]
    refine wpAny_bind (wpAny_rule (wpAny_pure ⟨_, rfl, ?_⟩))
    have h' := h u s.toks
    simp only [joinBy, Array.append_empty] at h'
    exact h'
  · dsimp only
    rw [if_pos (by rfl)]
    refine gen (fun i p Q' hi hp hq => ?_) fun p hp => fin p hp
    obtain ⟨b, u, e, hb⟩ := item i hi
    refine wpAny_bind (hsi ?_)
    dsimp only
    rw [any0 hp.2, if_neg (by decide), e]
    refine wpAny_bind (wpAny_holding (wpAny_of_eq (take_eq b u) ?_))
    dsimp only
    refine wpAny_bind (hsi ?_)
    dsimp only
    rw [if_neg (by simp)]
    refine wpAny_pure (hq _ ⟨?_, fun q hm => ?_⟩)
    · rw [Array.toList_push, hp.1, List.take_add_one, hb]; rfl
    · rcases List.mem_append.mp hm with hm | hm
      · exact hp.2 q hm
      · rw [List.mem_singleton.mp hm]; exact ⟨rfl, rfl⟩
end
end Mine
end

section
open PySem PySem.Spec PySem.W PySem.Calls PyProof.Rows PySem.Builtin
set_option maxRecDepth 100000
set_option maxHeartbeats 4000000
namespace Mine
theorem eqG_bytes (b c : Array UInt8) (t u : Tok) : MeetsSeq.EqGives (.bytes b t) (.bytes c u) (b.toList == c.toList) := by
  intro prog w A E s Q h
  unfold eqBool
  refine wpAny_holding ?_
  refine wpAny_ite_split (fun hab => ?_) (fun hab => ?_)
  · have e : b = c := by have := eq_of_beq hab; injection this
    subst e
    exact wpAny_bind (wpAny_rule (wpAny_pure (by simpa using h)))
  · exact wpAny_bind (richCompare_gives (typeIs_bytes s b t) (typeIs_bytes s c u) FB.slot_bytes_eq FB.entry_bytes_eq (FB.args_bytes_eq_2 _ _) (gives_bytes_eq b c t u) (by simp [Made.takes]) (wpAny_truthy_bool h))
def sameAt (bs cs : List (Array UInt8)) (j : Nat) : Bool := (bs.getD j #[]).toList == (cs.getD j #[]).toList
theorem sameAt_all {bs cs : List (Array UInt8)} (h : bs.length = cs.length) : (List.range bs.length).all (sameAt bs cs) = decide (bs = cs) := by
  by_cases e : bs = cs
  · subst e
    rw [decide_eq_true rfl]
    exact List.all_eq_true.mpr fun j _ => by simp [sameAt]
  · rw [decide_eq_false e]
    by_cases q : (List.range bs.length).all (sameAt bs cs) = true
    · exfalso
      apply e
      apply List.ext_getElem h
      intro i h1 h2
      have := List.all_eq_true.mp q i (List.mem_range.mpr h1)
      simp only [sameAt, List.getD_eq_getElem?_getD, List.getElem?_eq_getElem h1, List.getElem?_eq_getElem h2, Option.getD_some, beq_iff_eq] at this
      exact Array.toList_inj.mp this
    · exact Bool.not_eq_true _ ▸ q
theorem bys_at {ws vs : List Value} {bs cs : List (Array UInt8)} (h1 : Bys ws bs) (h2 : Bys vs cs) : ∀ j (k1 : j < ws.toArray.size) (k2 : j < vs.toArray.size), MeetsSeq.EqGives ws.toArray[j] vs.toArray[j] (sameAt bs cs j) := by
  intro j k1 k2
  rw [List.size_toArray] at k1 k2
  obtain ⟨b, t, e1, hb⟩ := h1.get (List.getElem?_eq_getElem k1)
  obtain ⟨c, u, e2, hc⟩ := h2.get (List.getElem?_eq_getElem k2)
  have e3 : sameAt bs cs j = (b.toList == c.toList) := by simp [sameAt, hb, hc]
  rw [e3, List.getElem_toArray, List.getElem_toArray, e1, e2]
  exact eqG_bytes b c t u
section
variable {prog : Program} {w : World} {A : Around} {E : Value → Shared → Prop} {s : Shared} {l1 l2 : Addr} {ws vs : List Value} {bs cs : List (Array UInt8)} {n1 n2 : Nat} {Q : Value → Shared → Prop}
theorem by_eqL (g1 : s.heap.get? l1 = some (listOf ws.toArray n1)) (g2 : s.heap.get? l2 = some (listOf vs.toArray n2)) (h1 : Bys ws bs) (h2 : Bys vs cs) (hu : A.units < cLine) (h : Q (.bool (decide (bs = cs))) s) :
    wpAny (model prog w) A (compareOp .Eq (.ref l1) (.ref l2)) Q E s := by
  show wpAny _ _ (richCompare .Eq _ _) _ _ _
  by_cases hl : bs.length = cs.length
  · have hsz : ws.toArray.size = vs.toArray.size := by rw [List.size_toArray, List.size_toArray, h1.len, h2.len, hl]
    have hr : (List.range ws.toArray.size).all (sameAt bs cs) = decide (bs = cs) := by rw [List.size_toArray, h1.len, sameAt_all hl]
    exact richCompare_meets_room (op := .Eq) ⟨_, g1, rfl⟩ ⟨_, g2, rfl⟩ PySem.F.slot_list_eq PySem.F.entry_list_eq (PySem.F.args_list_eq_2 _ _) (MeetsSeq3.list_eq l1 l2 _ _ n1 n2 hsz (sameAt bs cs) (bys_at h1 h2))
      ⟨g1, g2, by rw [hr]; exact ⟨(fun e => nomatch e), h⟩⟩ hu
  · have hsz : (ws.toArray.size != vs.toArray.size) = true := by rw [List.size_toArray, List.size_toArray, h1.len, h2.len]; simpa using hl
    have hr : decide (bs = cs) = false := decide_eq_false fun e => hl (by rw [e])
    rw [hr] at h
    exact richCompare_meets_room (op := .Eq) ⟨_, g1, rfl⟩ ⟨_, g2, rfl⟩ PySem.F.slot_list_eq PySem.F.entry_list_eq (PySem.F.args_list_eq_2 _ _) (SeqAt.list_eq_lengthsAt l1 l2 _ _ n1 n2 none none #[] #[] hsz)
      ⟨g1, g2, (fun e => nomatch e), h⟩ hu
theorem by_neL (g1 : s.heap.get? l1 = some (listOf ws.toArray n1)) (g2 : s.heap.get? l2 = some (listOf vs.toArray n2)) (h1 : Bys ws bs) (h2 : Bys vs cs) (hu : A.units < cLine) (h : Q (.bool (!decide (bs = cs))) s) :
    wpAny (model prog w) A (compareOp .NotEq (.ref l1) (.ref l2)) Q E s := by
  show wpAny _ _ (richCompare .NotEq _ _) _ _ _
  by_cases hl : bs.length = cs.length
  · have hsz : ws.toArray.size = vs.toArray.size := by rw [List.size_toArray, List.size_toArray, h1.len, h2.len, hl]
    have hr : (List.range ws.toArray.size).all (sameAt bs cs) = decide (bs = cs) := by rw [List.size_toArray, h1.len, sameAt_all hl]
    exact richCompare_meets_room (op := .NotEq) ⟨_, g1, rfl⟩ ⟨_, g2, rfl⟩ PySem.F.slot_list_ne PySem.F.entry_list_ne (PySem.F.args_list_ne_2 _ _) (SeqAt.list_neAt l1 l2 _ _ n1 n2 none none #[] #[] hsz (sameAt bs cs))
      ⟨g1, g2, fun j k1 k2 => (bys_at h1 h2 j k1 k2).at _ _, by rw [hr]; exact ⟨(fun e => nomatch e), h⟩⟩ hu
  · have hsz : (ws.toArray.size != vs.toArray.size) = true := by rw [List.size_toArray, List.size_toArray, h1.len, h2.len]; simpa using hl
    have hr : decide (bs = cs) = false := decide_eq_false fun e => hl (by rw [e])
    rw [hr] at h
    exact richCompare_meets_room (op := .NotEq) ⟨_, g1, rfl⟩ ⟨_, g2, rfl⟩ PySem.F.slot_list_ne PySem.F.entry_list_ne (PySem.F.args_list_ne_2 _ _) (SeqAt.list_ne_lengthsAt l1 l2 _ _ n1 n2 none none #[] #[] hsz)
      ⟨g1, g2, (fun e => nomatch e), h⟩ hu
end
end Mine
end

section
open PySem PySem.Spec PySem.W PySem.Calls PyProof.Rows PySem.Builtin
set_option maxRecDepth 100000
set_option maxHeartbeats 4000000
namespace Mine
/-- the octets told: a number and what stands behind it -/
def dec : List UInt8 → Int × List UInt8
  | [] => (0, [])
  | j :: r => if j.toNat < 253 then ((j.toNat : Int), r) else
      let n := if j.toNat = 253 then 2 else if j.toNat = 254 then 4 else 8
      (KFB.value (KBw.bInts (r.take n).toArray).reverse, r.drop n)
theorem dec_le {n : Nat} {v : Int} {r : List UInt8} (h0 : 0 ≤ v) (h1 : v < 256 ^ n) : KFB.value (KBw.bInts ((le n v ++ r).take n).toArray).reverse = v ∧ (le n v ++ r).drop n = r := by
  constructor
  · rw [List.take_append_of_le_length (by rw [le_length]; exact Nat.le_refl _), List.take_of_length_le (by rw [le_length]; exact Nat.le_refl _), ints_le h0]
    exact value_le h0 h1
  · rw [List.drop_append_of_le_length (by rw [le_length]; exact Nat.le_refl _), List.drop_of_length_le (by rw [le_length]; exact Nat.le_refl _)]
    rfl
theorem dec_enc {v : Int} {r : List UInt8} (h : Big v) : dec (enc v ++ r) = (v, r) := by
  obtain ⟨h0, h1⟩ := h
  rcases enc_cases h0 h1 with ⟨c, e⟩ | ⟨_, c, e⟩ | ⟨_, c, e⟩ | ⟨c, e⟩ <;> rw [e]
  · have e1 := u8_toNat h0 (by omega)
    show (if v.toNat.toUInt8.toNat < 253 then ((v.toNat.toUInt8.toNat : Int), r) else _) = _
    rw [if_pos (by omega), e1]
  · have := dec_le (n := 2) (r := r) h0 (by omega)
    show (KFB.value (KBw.bInts ((le 2 v ++ r).take 2).toArray).reverse, (le 2 v ++ r).drop 2) = _
    rw [this.1, this.2]
  · have := dec_le (n := 4) (r := r) h0 (by omega)
    show (KFB.value (KBw.bInts ((le 4 v ++ r).take 4).toArray).reverse, (le 4 v ++ r).drop 4) = _
    rw [this.1, this.2]
  · have := dec_le (n := 8) (r := r) h0 (by omega)
    show (KFB.value (KBw.bInts ((le 8 v ++ r).take 8).toArray).reverse, (le 8 v ++ r).drop 8) = _
    rw [this.1, this.2]
theorem enc_inj {a b : Int} {r q : List UInt8} (ha : Big a) (hb : Big b) (h : enc a ++ r = enc b ++ q) : a = b ∧ r = q := by
  have e := congrArg dec h
  rw [dec_enc ha, dec_enc hb] at e
  exact ⟨congrArg Prod.fst e, congrArg Prod.snd e⟩
theorem sw_enc {a b : Int} (ha : Big a) (hb : Big b) : swB (enc a).toArray (enc b).toArray = decide (a = b) := by
  by_cases e : a = b
  · subst e
    rw [decide_eq_true rfl]
    unfold swB
    rw [if_neg (by omega)]
    simp
  · rw [decide_eq_false e]
    by_cases q : swB (enc a).toArray (enc b).toArray = true
    · exfalso
      apply e
      unfold swB at q
      split at q
      · cases q
      · have h1 := beq_iff_eq.mp q
        have h2 : (enc a).take (enc b).length = enc b := by
          have := congrArg Array.toList h1
          simpa [List.extract_eq_take_drop] using this
        have h3 : enc a ++ [] = enc b ++ (enc a).drop (enc b).length := by
          rw [List.append_nil]
          conv => lhs; rw [← List.take_append_drop (enc b).length (enc a), h2]
        exact (enc_inj ha hb h3).1
    · exact Bool.not_eq_true _ ▸ q
theorem enc_mono {a b : Int} (ha : Big a) (hb : Big b) (h : a < b) : (enc a).length ≤ (enc b).length := by
  rcases enc_cases ha.1 ha.2 with ⟨_, e⟩ | ⟨_, _, e⟩ | ⟨_, _, e⟩ | ⟨_, e⟩ <;> rcases enc_cases hb.1 hb.2 with ⟨_, f⟩ | ⟨_, _, f⟩ | ⟨_, _, f⟩ | ⟨_, f⟩ <;> rw [e, f] <;> simp [le_length] <;> omega
theorem order_app : ∀ {x y p q : List UInt8}, x.length = y.length → Bytes.order (x ++ p) (y ++ q) = (Bytes.order x y).then (Bytes.order p q)
  | [], [], _, _, _ => rfl
  | [], _ :: _, _, _, h => by simp at h
  | _ :: _, [], _, _, h => by simp at h
  | c :: x, d :: y, p, q, h => by
    have ih := order_app (p := p) (q := q) (show x.length = y.length by simpa using h)
    simp only [List.cons_append, Bytes.order]
    by_cases h1 : c < d
    · rw [if_pos h1, if_pos h1]; rfl
    · by_cases h2 : c > d
      · rw [if_neg h1, if_neg h1, if_pos h2, if_pos h2]; rfl
      · rw [if_neg h1, if_neg h1, if_neg h2, if_neg h2]; exact ih
theorem le_succ (n : Nat) (x : Int) : le (n + 1) x = (x % 256).toNat.toUInt8 :: le n (x / 256) := by
  unfold le
  rw [List.range_succ_eq_map, List.map_cons, List.map_map]
  congr 1
  · simp
  · refine List.map_congr_left fun i _ => ?_
    show (x / 256 ^ (i + 1) % 256).toNat.toUInt8 = _
    show _ = (x / 256 / 256 ^ i % 256).toNat.toUInt8
    rw [Int.pow_succ, Int.mul_comm, Int.ediv_ediv, if_neg (fun h => absurd h.1 (by decide)), Int.sub_zero]
theorem u8_lt {a b : Int} (a0 : 0 ≤ a) (a1 : a < 256) (b0 : 0 ≤ b) (b1 : b < 256) : (a.toNat.toUInt8 < b.toNat.toUInt8 ↔ a < b) := by
  rw [UInt8.lt_iff_toNat_lt]
  have h1 := u8_toNat a0 a1
  have h2 := u8_toNat b0 b1
  omega
theorem order_le : ∀ (n : Nat) (a b : Int), 0 ≤ a → a < 256 ^ n → 0 ≤ b → b < 256 ^ n → (Bytes.order (le n a).reverse (le n b).reverse = .lt ↔ a < b) ∧ (Bytes.order (le n a).reverse (le n b).reverse = .eq ↔ a = b)
  | 0, a, b, a0, a1, b0, b1 => by
    rw [Int.pow_zero] at a1 b1
    have : a = 0 := by omega
    have : b = 0 := by omega
    subst a b
    simp [le, Bytes.order]
  | n + 1, a, b, a0, a1, b0, b1 => by
    rw [le_succ, le_succ, List.reverse_cons, List.reverse_cons, order_app (by simp [le_length])]
    rw [Int.pow_succ] at a1 b1
    obtain ⟨i1, i2⟩ := order_le n (a / 256) (b / 256) (by omega) (by omega) (by omega) (by omega)
    have l1 := u8_lt (a := a % 256) (b := b % 256) (by omega) (by omega) (by omega) (by omega)
    have l2 := u8_lt (a := b % 256) (b := a % 256) (by omega) (by omega) (by omega) (by omega)
    generalize Bytes.order (le n (a / 256)).reverse (le n (b / 256)).reverse = o at *
    have o2 : Bytes.order [(a % 256).toNat.toUInt8] [(b % 256).toNat.toUInt8] = if a % 256 < b % 256 then .lt else if b % 256 < a % 256 then .gt else .eq := by
      simp only [Bytes.order, gt_iff_lt, l1, l2]
    rw [o2]
    cases o
    · have : a / 256 < b / 256 := i1.mp rfl
      constructor <;> simp <;> omega
    · have : a / 256 = b / 256 := i2.mp rfl
      constructor
      · by_cases q : a % 256 < b % 256
        · simp [q]; omega
        · by_cases q2 : b % 256 < a % 256
          · simp [q, q2]; omega
          · simp [q, q2]; omega
      · by_cases q : a % 256 < b % 256
        · simp [q]; omega
        · by_cases q2 : b % 256 < a % 256
          · simp [q, q2]; omega
          · simp [q, q2]; omega
    · have n1 : ¬ a / 256 < b / 256 := fun h => by have := i1.mpr h; cases this
      have n2 : ¬ a / 256 = b / 256 := fun h => by have := i2.mpr h; cases this
      constructor <;> simp <;> omega
theorem lt_le {n : Nat} {a b : Int} {j : UInt8} (a0 : 0 ≤ a) (a1 : a < 256 ^ n) (b0 : 0 ≤ b) (b1 : b < 256 ^ n) : ltB ((j :: le n a).reverse.toArray) ((j :: le n b).reverse.toArray) = decide (a < b) := by
  obtain ⟨i1, i2⟩ := order_le n a b a0 a1 b0 b1
  unfold ltB
  rw [List.reverse_cons, List.reverse_cons]
  show (Bytes.order ((le n a).reverse ++ [j]) ((le n b).reverse ++ [j]) == .lt) = _
  rw [order_app (by simp [le_length])]
  have oj : Bytes.order [j] [j] = .eq := by simp [Bytes.order, UInt8.lt_irrefl]
  rw [oj]
  generalize Bytes.order (le n a).reverse (le n b).reverse = o at *
  cases o
  · rw [decide_eq_true (i1.mp rfl)]; rfl
  · have := i2.mp rfl
    rw [decide_eq_false (by omega)]; rfl
  · rw [decide_eq_false (fun h => by have := i1.mpr h; cases this)]; rfl
theorem lt_enc {a b : Int} (ha : Big a) (hb : Big b) (h : (enc a).length = (enc b).length) : ltB (enc a).reverse.toArray (enc b).reverse.toArray = decide (a < b) := by
  rcases enc_cases ha.1 ha.2 with ⟨_, e⟩ | ⟨_, _, e⟩ | ⟨_, _, e⟩ | ⟨_, e⟩ <;> rcases enc_cases hb.1 hb.2 with ⟨_, f⟩ | ⟨_, _, f⟩ | ⟨_, _, f⟩ | ⟨_, f⟩ <;> rw [e, f] at h ⊢ <;> first
    | (exfalso; simp [le_length] at h; done)
    | exact lt_le ha.1 (by have := ha.2; omega) hb.1 (by have := hb.2; omega)
    | skip
  have l1 := u8_lt ha.1 (show a < 256 by omega) hb.1 (show b < 256 by omega)
  have l2 := u8_lt hb.1 (show b < 256 by omega) ha.1 (show a < 256 by omega)
  unfold ltB
  show (Bytes.order [a.toNat.toUInt8] [b.toNat.toUInt8] == .lt) = _
  simp only [Bytes.order, gt_iff_lt, l1, l2]
  by_cases q : a < b
  · simp [q]
  · by_cases q2 : b < a <;> simp [q, q2]
theorem laidBy_inj : ∀ {bs cs : List (Array UInt8)} {r q : List UInt8}, bs.length = cs.length → (∀ b ∈ bs, b.size ≤ 10000) → (∀ b ∈ cs, b.size ≤ 10000) → (laidBy bs).toList ++ r = (laidBy cs).toList ++ q → bs = cs
  | [], [], _, _, _, _, _, _ => rfl
  | [], _ :: _, _, _, h, _, _, _ => by simp at h
  | _ :: _, [], _, _, h, _, _, _ => by simp at h
  | b :: bs, c :: cs, r, q, h, hb, hc, e => by
    have hb0 := hb b (.head _)
    have hc0 := hc c (.head _)
    simp only [laidBy, Array.toList_append, List.append_assoc] at e
    obtain ⟨e1, e2⟩ := enc_inj (show Big (b.size : Int) from ⟨by omega, by omega⟩) (show Big (c.size : Int) from ⟨by omega, by omega⟩) e
    have e3 : b.toList.length = c.toList.length := by rw [Array.length_toList, Array.length_toList]; omega
    have e4 := List.append_inj e2 e3
    rw [Array.toList_inj.mp e4.1, laidBy_inj (show bs.length = cs.length by simpa using h) (fun x hx => hb x (.tail _ hx)) (fun x hx => hc x (.tail _ hx)) e4.2]
theorem ser_inj {bs cs : List (Array UInt8)} (h1 : bs.length ≤ 1000) (h2 : cs.length ≤ 1000) (hb : ∀ b ∈ bs, b.size ≤ 10000) (hc : ∀ b ∈ cs, b.size ≤ 10000) :
    (((enc bs.length).toArray ++ laidBy bs).toList == ((enc cs.length).toArray ++ laidBy cs).toList) = decide (bs = cs) := by
  by_cases e : bs = cs
  · subst e; simp
  · rw [decide_eq_false e]
    refine beq_false_of_ne fun q => e ?_
    rw [Array.toList_append, Array.toList_append] at q
    obtain ⟨e1, e2⟩ := enc_inj (show Big (bs.length : Int) from ⟨by omega, by omega⟩) (show Big (cs.length : Int) from ⟨by omega, by omega⟩) q
    exact laidBy_inj (r := []) (q := []) (by omega) hb hc (by rw [e2])
end Mine
end

section
open PySem PySem.Spec PySem.W PySem.Calls PyProof.Rows
set_option maxRecDepth 100000
set_option maxHeartbeats 4000000
namespace Mine
def told (nn : List Int) : List (Array UInt8) := nn.map fun x => (enc x).toArray
theorem told_at {nn : List Int} {vs : List Value} {i : Nat} {v : Value} {r : Array UInt8} (hI : IntsAre vs nn) (hb : ∀ x ∈ nn, Big x) (hv : vs.toArray[i]? = some v) (hr : (told nn)[i]? = some r) : ∃ x t, v = .int x t ∧ Big x ∧ r = (enc x).toArray := by
  obtain ⟨x, t, e, hx⟩ := IntsAre.at hI i v (by simpa using hv)
  refine ⟨x, t, e, hb x (List.mem_of_getElem? hx), ?_⟩
  unfold told at hr
  rw [List.getElem?_map, hx] at hr
  exact (Option.some.inj hr).symm
theorem lawB {w : World} {mean : ExcName → Option Value} {mg mb : Str → Option Value} (news : List (Addr × Obj)) (l ln : Addr) (vs : List Value) (nn : List Int) (k : Nat) (hI : IntsAre vs nn) (hn5 : nn.length = 5) (hbig : ∀ x ∈ nn, Big x)
   (dp un : Nat) (gd : Option (List Code)) (a : Addr) (ccd : Value) (A₀ : Around) (h₀ : Heap) (L : Addr) (m : Str → Option Value) (s : Shared) (Q : Flow → Shared → Prop) (E : Value → Shared → Prop)
   (B : Below A₀ h₀ [] h₀) (F : Fr h₀ L s.heap m) (X : (Mine.hd.heap_39 w.params).In h₀) (N : News h₀ L s.heap ((ln, listOf vs.toArray k) :: news)) (T : Top Mine.hd.view_39 LS mean mg mb h₀) 
   (hd : dp + 200 < recursionLimit) (hu : un + 1000 < cLine)
   (hm0 : m (Str.ofString "script") = some (.ref l)) (hm1 : m (Str.ofString "numbers") = some (.ref ln))
   (hret : ∀ lt ws m' h' tk', Bys ws (told nn) → m' (Str.ofString "script") = some (.ref l) → m' (Str.ofString "numbers") = some (.ref ln) → m' (Str.ofString "told") = some (.ref lt) →
      Fr h₀ L h' m' → News h₀ L h' ((lt, listOf ws.toArray ws.length) :: (ln, listOf vs.toArray k) :: news) → wpN (model Challenge.rw_bd0009_01.row.prog w) (lawTop dp un gd L a ccd) (execs (lawDef.1.drop 3) (lawEnv L a ccd)) Q E { s with heap := h', toks := tk' }) :
   wpN (model Challenge.rw_bd0009_01.row.prog w) (lawTop dp un gd L a ccd) (execs (lawDef.1.drop 2) (lawEnv L a ccd)) Q E s := by
  k_with_none
  k_with "eval Name" => (k_here; k_dflt (refine' ld ?zzk1 ?zzk2 ?_; (case zzk1 => k_asm); (case zzk2 => first | exact rfl | assumption); k_whole))
  k_with "call ref" => (k_here; (with_reducible show wpAny _ _ (call (Value.ref 28) [Value.int _ _]) _ _ _); k_dflt ((with_unfolding_all refine' c_to _ _ ?zzq1 ?zzq2 _ _ _ _ _ _ _ _ _ _ _ _ _ _ _ _ _ _ _ _ ?zzB ?zzF ?zzX ?zzN ?zzT ?zzhd ?zzhu ?_); (case zzB | zzF | zzX | zzN | zzT => k_asm); (case zzq1 | zzq2 => omega); (case zzhd => ktr_room); (case zzhu => ktr_units); k_whole; intro t' h' tk' F' N'; (try k_sweep)))
  k_with "exec Assign cons ListComp" => (k_here; k_dflt (refine LCg.Assign_ListComp_U (F₀ := by k_asm) (by rfl) (by with_unfolding_all rfl) (by with_unfolding_all rfl) (by decide) (by rfl) (by decide) (by rfl) (by rfl) (by rfl) ?_))
  k_with "CompSrc" => (k_here; k_dflt (refine LCg.CompSrc.ledger (by rfl) (by k_asm) (by k_asm) (by k_mem) (by assumption) ?_); intro g'; refine' by_rest (told _) ?zzkl ?zzkt ?zzkf; (case zzkl => assumption); (case' zzkt => intro i' v' r' I' oI' C' oC' D' m' ys' h' tk' E' hi' hv' hr' hC' hx' F' N' off' ne'; obtain ⟨x9', t9', hv9', hb9', hr9'⟩ := told_at (by assumption) (by assumption) hv' hr'; obtain ⟨hb1', hb2'⟩ := hb9'; subst hv9'; subst hr9'; simp only [LCg.Off3, and_true] at off'; (try dsimp only)); (case' zzkf => intro ys' hy'))
  have X0 := X
  revert X0
  k_fill
  intro _
  have hsz : vs.toArray.size ≤ sizeLine := by rw [List.size_toArray, hI.length, sizeLine_eq]; omega
  have hl9 : (told nn).length = vs.toArray.size := by rw [List.size_toArray, hI.length]; simp [told]
  dsimp only [lawDef, pick3, List.drop, lawEnv, lawTop] at hret ⊢
  refine nExecsCons (nOf ?_)
  k_steps
  case zzkt => exact LCg.CompEnd.intro (by assumption) (by assumption) _ (by kcf_all) (by first | assumption | (simp only [LCg.Off3, and_true]; assumption)) (by lcg_src) (byEl_intro rfl)
  case zzkf =>
    rename Fr _ _ _ _ => FZ
    rename News _ _ _ _ => NZ
    rename Bys _ _ => hw
    refine hret _ _ _ _ _ hw ?_ ?_ ?_ FZ (cb_drop NZ (by kcj_all))
    · exact hm0
    · exact hm1
    · rfl
end Mine
end

section
open PySem PySem.Spec PySem.W PySem.Calls PyProof.Rows
set_option maxRecDepth 100000
set_option maxHeartbeats 4000000
namespace Mine
/-- what a turn of a loop over a zip leaves -/
def TurnZ (h₀ : Heap) (L : Addr) (own : List (Addr × Obj)) (J : (Str → Option Value) → List (Addr × Obj) → Prop) (s : Shared) (R : Result → Shared → Prop) (f : Flow) (s₂ : Shared) : Prop :=
  match f with
  | .brk => R (.ok .next) s₂
  | .ret v => R (.ok (.ret v)) s₂
  | _ => ∃ h' tk' m₂ news₂, s₂ = { s with heap := h', toks := tk' } ∧ J m₂ news₂ ∧ Fr h₀ L h' m₂ ∧ News h₀ L h' (own ++ news₂)
/-- how it stands between two turns of a loop over a zip -/
inductive InvZ (h₀ : Heap) (L : Addr) (s : Shared) (z TI TO i1 i2 l1 l2 : Addr) (J : Nat → (Str → Option Value) → List (Addr × Obj) → Prop) (n k : Nat) : Shared → Prop
  | mk (h' : Heap) (tk : Nat) (m' : Str → Option Value) (news' own' : List (Addr × Obj)) (i : Nat) (a1 : IsZip h' z TI TO .none) (a2 : IsPair h' TI (.ref i1) (.ref i2)) (a3 : ∃ a b, IsPair h' TO a b) (a4 : h'.IsListIter i1 l1 i) (a5 : h'.IsListIter i2 l2 i)
      (e : own'.map (·.1) = [z, TI, TO, i1, i2]) (F : Fr h₀ L h' m') (N : News h₀ L h' (own' ++ news')) (j : J i m' news') (hi : i ≤ n) (hk : k = n + 1 - i) : InvZ h₀ L s z TI TO i1 i2 l1 l2 J n k { s with heap := h', toks := tk }
section
variable {prog : Program} {w : World} {A : Around} {s : Shared} {env : Env} {h₀ : Heap}
theorem cForZip {R : Result → Shared → Prop} {xa xb : Str} {pa pb tp : Pos} {kk : Nat} {body : List Stmt} {z TI TO i1 i2 l1 l2 : Addr} {lo1 lo2 : Obj} {xs ys : List Value} {n1 n2 : Nat} {m : Str → Option Value} {news own : List (Addr × Obj)}
    (hh : A.handled = none) (ha : env.kindOf xa = some .local) (hb : env.kindOf xb = some .local) (hp : (env.scope.kind == .class || (env.scope.kind == .module && env.locals != env.globals)) = false)
    (D : ZipApart z TI TO i1 i2 l1 l2) (hlen : ys.length = xs.length)
    (hc1 : lo1.cls = .type "list") (hd1 : lo1.data = .seq xs.toArray n1) (hc2 : lo2.cls = .type "list") (hd2 : lo2.data = .seq ys.toArray n2)
    (F : Fr h₀ env.locals s.heap m) (N : News h₀ env.locals s.heap (own ++ news)) (hown : own.map (·.1) = [z, TI, TO, i1, i2])
    (hz : IsZip s.heap z TI TO .none) (hTI : IsPair s.heap TI (.ref i1) (.ref i2)) (hTO : ∃ a b, IsPair s.heap TO a b) (h1 : s.heap.IsListIter i1 l1 0) (h2 : s.heap.IsListIter i2 l2 0)
    (J : Nat → (Str → Option Value) → List (Addr × Obj) → Prop) (h0 : J 0 m news)
    (hJ : ∀ i m' news', J i m' news' → (l1, lo1) ∈ news' ∧ (l2, lo2) ∈ news' ∧ ∀ p ∈ news', p.1 ≠ z ∧ p.1 ≠ TO ∧ p.1 ≠ i1 ∧ p.1 ≠ i2)
    (step : ∀ i x y m₁ news₁ own₁ h tk, xs[i]? = some x → ys[i]? = some y → own₁.map (·.1) = [z, TI, TO, i1, i2] → J i m₁ news₁ → Fr h₀ env.locals h (fun q => if q = xb then some y else if q = xa then some x else m₁ q) → News h₀ env.locals h (own₁ ++ news₁) →
      wpN (model prog w) A (execs body env) (TurnZ h₀ env.locals own₁ (J (i + 1)) s R) (notedBy (model prog w) A env fun e s' => R (.error e) s') { s with heap := h, toks := tk })
    (hR : ∀ h' tk m' news', Fr h₀ env.locals h' m' → News h₀ env.locals h' news' → J xs.length m' news' → R (.ok .next) { s with heap := h', toks := tk }) :
    codeN (model prog w) A (.forLoop (.Tuple [.Name xa pa, .Name xb pb] kk tp) (.ref z) body [] env) R s := by
  have W := (WalksT.zip2 (prog := prog) (w := w) hh z TI TO i1 i2 l1 l2 D xs.toArray ys.toArray).toU
  have hn : min xs.toArray.size ys.toArray.size = xs.length := by rw [List.size_toArray, List.size_toArray, hlen]; exact Nat.min_self _
  rw [hn] at W
  refine cFor (InvZ h₀ env.locals s z TI TO i1 i2 l1 l2 J xs.length) ?_ (xs.length + 1) (InvZ.mk s.heap s.toks m news own 0 hz hTI hTO h1 h2 hown F N h0 (Nat.zero_le _) rfl)
  rintro k _ ⟨h', tk, m', news', own', i, hz', hTI', hTO', h1', h2', hown', F', N', hj, hi, rfl⟩
  obtain ⟨hm1, hm2, hoff⟩ := hJ _ _ _ hj
  have hl1 : h'.IsList l1 xs.toArray := ⟨lo1, (N' _ (List.mem_append_right _ hm1)).1, hc1, n1, hd1⟩
  have hl2 : h'.IsList l2 ys.toArray := ⟨lo2, (N' _ (List.mem_append_right _ hm2)).1, hc2, n2, hd2⟩
  have ownAt : ∀ b ∈ [z, TI, TO, i1, i2], ∃ o, (b, o) ∈ own' := fun b hb => by
    rw [← hown'] at hb
    obtain ⟨p, hp, e⟩ := List.mem_map.mp hb
    exact ⟨p.2, e ▸ hp⟩
  have fresh : ∀ b ∈ [z, TI, TO, i1, i2], b ≠ env.locals ∧ h₀.get? b = none := fun b hb => by
    obtain ⟨o, ho⟩ := ownAt b hb
    exact (N' _ (List.mem_append_left _ ho)).2
  have nowr : ∀ b : Addr, b ≠ z → b ≠ TO → b ≠ i1 → b ≠ i2 → b ∉ [z, TO, i1, i2] := fun b a1 a2 a3 a4 hm => by
    rcases List.mem_cons.mp hm with e | hm
    · exact a1 e
    rcases List.mem_cons.mp hm with e | hm
    · exact a2 e
    rcases List.mem_cons.mp hm with e | hm
    · exact a3 e
    exact a4 (List.mem_singleton.mp hm)
  have Lwr : env.locals ∉ [z, TO, i1, i2] := nowr _ (fun e => (fresh z (.head _)).1 e.symm) (fun e => (fresh TO (.tail _ (.tail _ (.head _)))).1 e.symm) (fun e => (fresh i1 (.tail _ (.tail _ (.tail _ (.head _))))).1 e.symm) (fun e => (fresh i2 (.tail _ (.tail _ (.tail _ (.tail _ (.head _)))))).1 e.symm)
  have next : ∀ h₁ : Heap, (∀ b o, b ∉ [z, TO, i1, i2] → h'.get? b = some o → h₁.get? b = some o) → Fr h₀ env.locals h₁ m' ∧ News h₀ env.locals h₁ news' := fun h₁ hk₁ =>
    ⟨⟨F'.ns.at' fun o e => hk₁ _ o Lwr e, fun b o e => hk₁ b o (nowr b (fun q => by rw [q, (fresh z (.head _)).2] at e; cases e) (fun q => by rw [q, (fresh TO (.tail _ (.tail _ (.head _)))).2] at e; cases e)
        (fun q => by rw [q, (fresh i1 (.tail _ (.tail _ (.tail _ (.head _))))).2] at e; cases e) (fun q => by rw [q, (fresh i2 (.tail _ (.tail _ (.tail _ (.tail _ (.head _)))))).2] at e; cases e)) (F'.keep b o e), F'.above⟩,
      fun p hp => ⟨hk₁ _ _ (nowr _ (hoff p hp).1 (hoff p hp).2.1 (hoff p hp).2.2.1 (hoff p hp).2.2.2) (N' p (List.mem_append_right _ hp)).1, (N' p (List.mem_append_right _ hp)).2⟩⟩
  have st : IsZip h' z TI TO .none ∧ IsPair h' TI (.ref i1) (.ref i2) ∧ (∃ a b, IsPair h' TO a b) ∧ h'.IsListIter i1 l1 i ∧ h'.IsListIter i2 l2 i ∧ h'.IsList l1 xs.toArray ∧ h'.IsList l2 ys.toArray := ⟨hz', hTI', hTO', h1', h2', hl1, hl2⟩
  by_cases hlt : i < xs.length
  · refine W.item i _ _ _ hlt st fun T vals h₁ tk₁ hP hT hMid hk₁ => ?_
    obtain ⟨x, y, hx, hy, rfl⟩ := hP
    refine W.go _ _ _ i T _ _ _ hMid fun h₂ st₂ hk₂ => ?_
    have hTn : T ∉ [z, TO, i1, i2] := W.apart i T _ hMid
    have hT₂ : h₂.IsTuple T #[x, y] := hT.at fun o e => hk₂ T o hTn e
    obtain ⟨F₂, N₂⟩ := next h₂ fun b o hb e => hk₂ b o hb (hk₁ b o hb e)
    obtain ⟨a1, a2, ⟨a, b, a3⟩, ⟨o1, a4, a4'⟩, ⟨o2, a5, a5'⟩, _, _⟩ := st₂
    obtain ⟨qz, a1, b1⟩ : ∃ o, h₂.get? z = some o ∧ ∀ g : Heap, g.get? z = some o → IsZip g z TI TO .none := ⟨_, a1, fun _ e => e⟩
    obtain ⟨qI, a2, b2⟩ : ∃ o, h₂.get? TI = some o ∧ ∀ g : Heap, g.get? TI = some o → IsPair g TI (.ref i1) (.ref i2) := ⟨_, a2, fun _ e => e⟩
    obtain ⟨qO, a3, b3⟩ : ∃ o, h₂.get? TO = some o ∧ ∀ g : Heap, g.get? TO = some o → IsPair g TO a b := ⟨_, a3, fun _ e => e⟩
    refine kcp_assign hh hT₂ ha hb hp F₂.ns fun h₃ tk₃ hn₃ hk₃ => ?_
    have nL : h₀.get? env.locals = none := kts_self F'
    have F₃ : Fr h₀ env.locals h₃ _ := ⟨hn₃, fun b o e => hk₃ b o (fun q => by rw [q, nL] at e; cases e) (F₂.keep b o e), F'.above⟩
    have NO : News h₀ env.locals h₃ ([(z, qz), (TI, qI), (TO, qO), (i1, o1), (i2, o2)] ++ news') := fun p hp => by
      rcases List.mem_append.mp hp with hp | hp
      · rcases List.mem_cons.mp hp with e | hp
        · rw [e]; exact ⟨hk₃ _ _ (fresh z (.head _)).1 a1, fresh z (.head _)⟩
        rcases List.mem_cons.mp hp with e | hp
        · rw [e]; exact ⟨hk₃ _ _ (fresh TI (.tail _ (.head _))).1 a2, fresh TI (.tail _ (.head _))⟩
        rcases List.mem_cons.mp hp with e | hp
        · rw [e]; exact ⟨hk₃ _ _ (fresh TO (.tail _ (.tail _ (.head _)))).1 a3, fresh TO (.tail _ (.tail _ (.head _)))⟩
        rcases List.mem_cons.mp hp with e | hp
        · rw [e]; exact ⟨hk₃ _ _ (fresh i1 (.tail _ (.tail _ (.tail _ (.head _))))).1 a4, fresh i1 (.tail _ (.tail _ (.tail _ (.head _))))⟩
        rw [List.mem_singleton.mp hp]; exact ⟨hk₃ _ _ (fresh i2 (.tail _ (.tail _ (.tail _ (.tail _ (.head _)))))).1 a5, fresh i2 (.tail _ (.tail _ (.tail _ (.tail _ (.head _)))))⟩
      · exact ⟨hk₃ _ _ (N₂ p hp).2.1 (N₂ p hp).1, (N₂ p hp).2⟩
    refine nMono (step i x y m' news' _ h₃ tk₃ (List.getElem?_toArray.symm.trans hx) (List.getElem?_toArray.symm.trans hy) rfl hj F₃ NO) (fun f s₃ h₃' => ?_) fun _ _ e => e
    have go : (∃ h' tk' m₂ news₂, s₃ = { s with heap := h', toks := tk' } ∧ J (i + 1) m₂ news₂ ∧ Fr h₀ env.locals h' m₂ ∧ News h₀ env.locals h' ([(z, qz), (TI, qI), (TO, qO), (i1, o1), (i2, o2)] ++ news₂)) →
        ∃ k, k < xs.length + 1 - i ∧ InvZ h₀ env.locals s z TI TO i1 i2 l1 l2 J xs.length k s₃ := by
      rintro ⟨h', tk', m₂, news₂, rfl, j, F₄, N₄⟩
      refine ⟨xs.length + 1 - (i + 1), less_left hlt, InvZ.mk h' tk' m₂ news₂ _ (i + 1) ?_ ?_ ⟨a, b, ?_⟩ ⟨o1, ?_, a4'⟩ ⟨o2, ?_, a5'⟩ rfl F₄ N₄ j hlt rfl⟩
      · exact b1 _ (N₄ _ (List.mem_append_left _ (.head _))).1
      · exact b2 _ (N₄ _ (List.mem_append_left _ (.tail _ (.head _)))).1
      · exact b3 _ (N₄ _ (List.mem_append_left _ (.tail _ (.tail _ (.head _))))).1
      · exact (N₄ _ (List.mem_append_left _ (.tail _ (.tail _ (.tail _ (.head _)))))).1
      · exact (N₄ _ (List.mem_append_left _ (.tail _ (.tail _ (.tail _ (.tail _ (.head _))))))).1
    cases f with
    | next => exact go h₃'
    | cont => exact go h₃'
    | brk => exact h₃'
    | ret v => exact h₃'
  · have hin : i = xs.length := at_end hi hlt
    subst hin
    refine W.done _ _ _ st fun h₁ tk₁ hk₁ => ?_
    obtain ⟨F₁, N₁⟩ := next h₁ hk₁
    exact nOf (wpAny_execs_nil (hR h₁ tk₁ m' news' F₁ N₁ hj))
/-- a zip of two lists of the ledger's, made and walked -/
theorem zipLoop {R : Result → Shared → Prop} {E : Value → Shared → Prop} {xa xb : Str} {pa pb tp : Pos} {kk : Nat} {body : List Stmt} {l1 l2 : Addr} {lo1 lo2 : Obj} {xs ys : List Value} {n1 n2 : Nat} {m : Str → Option Value} {news : List (Addr × Obj)}
    (J : Nat → (Str → Option Value) → List (Addr × Obj) → Prop)
    (F : Fr h₀ env.locals s.heap m) (N : News h₀ env.locals s.heap news) (hm1 : (l1, lo1) ∈ news) (hm2 : (l2, lo2) ∈ news)
    (hc1 : lo1.cls = .type "list") (hd1 : lo1.data = .seq xs.toArray n1) (hc2 : lo2.cls = .type "list") (hd2 : lo2.data = .seq ys.toArray n2)
    (hlen : ys.length = xs.length) (h0 : J 0 m news)
    (hJ : ∀ i m' news', J i m' news' → (l1, lo1) ∈ news' ∧ (l2, lo2) ∈ news' ∧ ∀ p ∈ news', p ∈ news)
    (step : ∀ i x y m₁ news₁ own₁ h tk, xs[i]? = some x → ys[i]? = some y → (∀ p ∈ own₁, ∀ q ∈ news, q.1 < p.1) → J i m₁ news₁ → Fr h₀ env.locals h (fun q => if q = xb then some y else if q = xa then some x else m₁ q) → News h₀ env.locals h (own₁ ++ news₁) →
      wpN (model prog w) A (execs body env) (TurnZ h₀ env.locals own₁ (J (i + 1)) s R) (notedBy (model prog w) A env fun e s' => R (.error e) s') { s with heap := h, toks := tk })
    (hR : ∀ h' tk m' news', Fr h₀ env.locals h' m' → News h₀ env.locals h' news' → J xs.length m' news' → R (.ok .next) { s with heap := h', toks := tk })
    (hh : A.handled = none := by rfl) (ha : env.kindOf xa = some .local := by rfl) (hb : env.kindOf xb = some .local := by rfl) (hp : (env.scope.kind == .class || (env.scope.kind == .module && env.locals != env.globals)) = false := by rfl) :
    wpAny (model prog w) A (call (.type "zip") [.ref l1, .ref l2]) (fun x s₁ => wpAny (model prog w) A (pyIter x) (fun it s₂ => codeN (model prog w) A (.forLoop (.Tuple [.Name xa pa, .Name xb pb] kk tp) it body [] env) R s₂) E s₁) E s := by
  have hl1 : s.heap.IsList l1 xs.toArray := ⟨lo1, (N _ hm1).1, hc1, n1, hd1⟩
  have hl2 : s.heap.IsList l2 ys.toArray := ⟨lo2, (N _ hm2).1, hc2, n2, hd2⟩
  have lt : ∀ p ∈ news, p.1 < s.heap.objs.size := fun p hp => Heap.lt_size (N p hp).1
  have D : ZipApart (s.heap.objs.size + 4) (s.heap.objs.size + 2) (s.heap.objs.size + 3) s.heap.objs.size (s.heap.objs.size + 1) l1 l2 := ktu_apart _ _ _ (lt _ hm1) (lt _ hm2)
  refine call_zip_2 hl1 hl2 fun h' hz hTI hTO hi1 hi2 hsz hk => ?_
  refine wpAny_pyIter_zip hz ?_
  have F' : Fr h₀ env.locals h' m := F.keeps hk
  have Ls : env.locals < s.heap.objs.size := F.ns.lt
  obtain ⟨qz, a1⟩ : ∃ o, h'.get? (s.heap.objs.size + 4) = some o := ⟨_, hz⟩
  obtain ⟨qI, a2⟩ : ∃ o, h'.get? (s.heap.objs.size + 2) = some o := ⟨_, hTI⟩
  obtain ⟨qO, a3⟩ : ∃ o, h'.get? (s.heap.objs.size + 3) = some o := ⟨_, hTO⟩
  obtain ⟨o1, a4, a4'⟩ := id hi1
  obtain ⟨o2, a5, a5'⟩ := id hi2
  have nw : ∀ k : Nat, s.heap.objs.size + k ≠ env.locals ∧ h₀.get? (s.heap.objs.size + k) = none := fun k => ⟨fun e => by have := Ls; rw [← e] at this; exact absurd this (Nat.not_lt.mpr (Nat.le_add_right _ _)), ktu_new F (Nat.le_add_right _ _)⟩
  have NO : News h₀ env.locals h' ([(s.heap.objs.size + 4, qz), (s.heap.objs.size + 2, qI), (s.heap.objs.size + 3, qO), (s.heap.objs.size, o1), (s.heap.objs.size + 1, o2)] ++ news) := fun p hp => by
    rcases List.mem_append.mp hp with hp | hp
    · rcases List.mem_cons.mp hp with e | hp
      · rw [e]; exact ⟨a1, nw 4⟩
      rcases List.mem_cons.mp hp with e | hp
      · rw [e]; exact ⟨a2, nw 2⟩
      rcases List.mem_cons.mp hp with e | hp
      · rw [e]; exact ⟨a3, nw 3⟩
      rcases List.mem_cons.mp hp with e | hp
      · rw [e]; exact ⟨a4, nw 0⟩
      rw [List.mem_singleton.mp hp]; exact ⟨a5, nw 1⟩
    · exact ⟨hk _ _ (N p hp).1, (N p hp).2⟩
  have off : ∀ p ∈ news, ∀ k : Nat, p.1 < s.heap.objs.size + k := fun p hp k => Nat.lt_of_lt_of_le (lt p hp) (Nat.le_add_right _ _)
  refine cForZip (s := { s with heap := h' }) hh ha hb hp D hlen hc1 hd1 hc2 hd2 F' NO rfl hz hTI ⟨_, _, hTO⟩ hi1 hi2 J h0 (fun i m' news' hj => ?_) (fun i x y m₁ news₁ own₁ h tk hx hy ho hj F₁ N₁ => ?_) hR
  · obtain ⟨b1, b2, b3⟩ := hJ _ _ _ hj
    exact ⟨b1, b2, fun p hp => ⟨Nat.ne_of_lt (off p (b3 p hp) 4), Nat.ne_of_lt (off p (b3 p hp) 3), Nat.ne_of_lt (off p (b3 p hp) 0), Nat.ne_of_lt (off p (b3 p hp) 1)⟩⟩
  · refine step i x y m₁ news₁ own₁ h tk hx hy (fun p hp q hq => ?_) hj F₁ N₁
    have hp' : p.1 ∈ own₁.map (·.1) := List.mem_map_of_mem hp
    rw [ho] at hp'
    rcases List.mem_cons.mp hp' with e | hp'
    · rw [e]; exact off q hq 4
    rcases List.mem_cons.mp hp' with e | hp'
    · rw [e]; exact off q hq 2
    rcases List.mem_cons.mp hp' with e | hp'
    · rw [e]; exact off q hq 3
    rcases List.mem_cons.mp hp' with e | hp'
    · rw [e]; exact off q hq 0
    rw [List.mem_singleton.mp hp']; exact off q hq 1
end
end Mine
end

section
open PySem PySem.Spec PySem.W PySem.Calls PyProof.Rows
set_option maxRecDepth 100000
set_option maxHeartbeats 4000000
namespace Mine
def StopAt (p : Prop) : Prop := p
theorem stopAt {p : Prop} (h : StopAt p) : p := h
/-- the body of the loop over the numbers -/
noncomputable def loopBody : List Stmt := match lawDef.1.drop 3 with | .For _ _ b _ _ :: _ => b | _ => []
theorem oct_cons {x k : Int} (h : 1 ≤ k) (hk : k ≤ 1000) : ∃ j js, (oct x k).toList = j :: js ∧ js.length ≤ 1000 := by
  have hl : (oct x k).toList.length = k.toNat := by rw [Array.length_toList, oct_size]
  cases e : (oct x k).toList with
  | nil => rw [e] at hl; simp at hl; omega
  | cons j js => rw [e] at hl; simp at hl; exact ⟨j, js, rfl, by omega⟩
theorem by_sw_enc {prog : Program} {w : World} {A : Around} {E : Value → Shared → Prop} {s : Shared} {x y : Int} {t u : Tok} {Q : Value → Shared → Prop} (hx : Big x) (hy : Big y) (h : Q (.bool (decide (x = y))) s) : wpAny (model prog w) A (call (.builtin "bytes.startswith") [.bytes (enc x).toArray t, .bytes (enc y).toArray u]) Q E s := by
  refine by_sw ?_
  rw [sw_enc hx hy]
  exact h
theorem by_mStarts {M : Model} {A : Around} {E : Value → Shared → Prop} {s : Shared} {b : Array UInt8} {t : Tok} {pl : Sem Bool} {Q : Value × List Value → Shared → Prop} (h : Q (.builtin "bytes.startswith", [.bytes b t]) s) :
    wpAny M A (getMethod (.bytes b t) "startswith" pl) Q E s := by
  with_reducible exact KBd.method_of (.bytes b t) (typeIs_bytes _ _ _) FB.slot_bytes_startswith FB.type_bytes_startswith KBd.noRef h
theorem rev_fits {x : Int} (h : Big x) : (enc x).reverse.toArray.size ≤ sizeLine := by
  have := enc_len h.1 h.2
  rw [List.size_toArray, List.length_reverse, sizeLine_eq]; omega
theorem enc_fits {x : Int} (h : Big x) : (enc x).toArray.size ≤ 1099511627776 := by
  have := enc_len h.1 h.2
  rw [List.size_toArray]; omega
theorem pk_keepRefused (P : Params) (S : Setting) : peek (Mine.hd.heap_39 P) S (keeperOf (.ref 857)) = some .frame := by kernel_rfl
theorem lawT {w : World} {mean : ExcName → Option Value} {mg mb : Str → Option Value} (own news : List (Addr × Obj)) (l ln lt : Addr) (sv : List Value) (ns : List Int) (hIs : IntsAre sv ns) (hNs : ns.length < 2 ^ 62) (hbits : BitsOK ns) (vs ws : List Value) (nn : List Int) (k : Nat) (hI : IntsAre vs nn) (hbig : ∀ x ∈ nn, Big x) (hW : Bys ws (told nn)) (av : Int) (hA : Big av) (ta tb tl : Tok)
   (dp un : Nat) (gd : Option (List Code)) (a : Addr) (ccd : Value) (A₀ : Around) (h₀ : Heap) (L : Addr) (m : Str → Option Value) (s : Shared) (Q : Flow → Shared → Prop) (E : Value → Shared → Prop)
   (hl : h₀.IsList l sv.toArray)
   (B : Below A₀ h₀ [] h₀) (F : Fr h₀ L s.heap m) (X : (Mine.hd.heap_39 w.params).In h₀) (N : News h₀ L s.heap (own ++ (lt, listOf ws.toArray ws.length) :: (ln, listOf vs.toArray k) :: news)) (T : Top Mine.hd.view_39 LS mean mg mb h₀) 
   (hd : dp + 200 < recursionLimit) (hu : un + 1000 < cLine)
   (hm0 : m (Str.ofString "script") = some (.ref l)) (hm1 : m (Str.ofString "numbers") = some (.ref ln)) (hm2 : m (Str.ofString "told") = some (.ref lt))
   (hm3 : m (Str.ofString "a") = some (.int av ta)) (hm4 : m (Str.ofString "one") = some (.bytes (enc av).toArray tb)) (hm5 : m (Str.ofString "laid") = some (.bytes (enc av).toArray tl))
   (hret : ∀ m' h' tk', m' (Str.ofString "script") = some (.ref l) → m' (Str.ofString "numbers") = some (.ref ln) → m' (Str.ofString "told") = some (.ref lt) →
      Fr h₀ L h' m' → News h₀ L h' (own ++ (lt, listOf ws.toArray ws.length) :: (ln, listOf vs.toArray k) :: news) → Q .next { s with heap := h', toks := tk' }) :
   wpN (model Challenge.rw_bd0009_01.row.prog w) (lawTop dp un gd L a ccd) (execs (loopBody.drop 2) (lawEnv L a ccd)) Q E s := by
  k_with_none
  k_with "eval Name" => (k_here; k_dflt (refine' ld ?zzk1 ?zzk2 ?_; (case zzk1 => k_asm); (case zzk2 => first | exact rfl | assumption); k_whole))
  k_with "call ref" => (k_here; (with_reducible show wpAny _ _ (call (Value.ref 843) [Value.ref _, Value.int _ _]) _ _ _); k_dflt ((with_unfolding_all refine' c_number _ _ _ _ _ ?zzq1 _ _ _ _ _ _ _ _ _ _ _ _ _ _ _ _ _ _ _ _ ?zzB ?zzF ?zzX ?zzN ?zzT ?zzC1 ?zzC2 ?zzC3 ?zzhd ?zzhu ?_); (case zzB | zzF | zzX | zzN | zzT => k_asm); (case zzC1 | zzC2 | zzC3 => assumption); (case zzq1 => omega); (case zzhd => ktr_room); (case zzhu => ktr_units); k_whole; intro t' h' tk' F' N'; (try k_sweep)))
  k_with "call ref" => (k_here; (with_reducible show wpAny _ _ (call (Value.ref 850) [Value.int _ _, Value.int _ _]) _ _ _); k_dflt ((with_unfolding_all refine' c_octets _ _ _ _ ?zzq1 ?zzq2 ?zzq3 _ _ _ _ _ _ _ _ _ _ _ _ _ _ _ _ _ _ _ _ ?zzB ?zzF ?zzX ?zzN ?zzT ?zzhd ?zzhu ?_); (case zzB | zzF | zzX | zzN | zzT => k_asm); (case zzq1 => first | omega | exact (kmn_any (lo := 0) (hi := 300) (by decide)).1); (case zzq2 => first | omega | exact (kmn_any (lo := 0) (hi := 300) (by decide)).2); (case zzq3 => first | assumption | exact BitsOK.le (by assumption) (by omega) (by omega)); (case zzhd => ktr_room); (case zzhu => ktr_units); k_whole; intro t' h' tk' F' N'; (try k_sweep)))
  k_with "call type:zip" => (refine stopAt ?_)
  k_with "binaryOp Add bytes bytes" => ((try dsimp only); k_dflt (refine KBy.add_bytes (by first | assumption | omega) ?_); intro _ _)
  k_with "getMethod bytes" => (with_reducible refine by_mStarts ?_)
  k_with "call builtin:bytes.startswith" => (k_dflt (refine by_sw_enc (by assumption) (by assumption) ?_))
  k_with "compareOp Lt bytes bytes" => (k_dflt (refine by_lt ?_))
  k_with "subscriptTail" => (k_dflt (refine by_slice (r := (enc _).reverse.toArray) (by k_asm) (by k_asm) .none .none (.int _ _) (by decide) cut_rev (rev_fits (by assumption)) ?_); intro h' t' k' F' N'; (try k_sweep))
  k_with "call builtin:len" => (k_dflt (refine len_bytes (enc_fits (by assumption)) ?_))
  have X0 := X
  revert X0
  k_fill
  intro _
  have hwl : ws.length = vs.length := by rw [hW.len, hI.length]; simp [told]
  have el := enc_len hA.1 hA.2
  have hz9 := sizeLine_eq
  have g7 := fmod_lo (num ns 7) (n := 9) (by decide)
  have g8 := fmod_hi (num ns 7) (n := 9) (by decide)
  dsimp only [loopBody, lawDef, pick3, List.drop, lawEnv, lawTop]
  have hs9 : (enc av).toArray.size + (oct (num ns 6) (1 + (num ns 7).fmod 9)).size ≤ 16777216 := by rw [List.size_toArray, oct_size]; omega
  obtain ⟨nw, hnw⟩ : ∃ nw, nw = own ++ (lt, listOf ws.toArray ws.length) :: (ln, listOf vs.toArray k) :: news := ⟨_, rfl⟩
  have hmt : (lt, listOf ws.toArray ws.length) ∈ nw := by rw [hnw]; exact List.mem_append_right _ (.head _)
  have hmn : (ln, listOf vs.toArray k) ∈ nw := by rw [hnw]; exact List.mem_append_right _ (.tail _ (.head _))
  rw [← hnw] at N hret
  clear hnw
  refine nExecsCons (nIf (nIsOr (nOf ?_)))
  k_steps
  · exfalso
    rename (_ != _) = true => hq
    simp at hq
  refine nIsOr (nIsCmp (nCallName ?_))
  k_steps
  refine nCallW ?_
  k_steps
  refine Kp.of .frame (Looks.of_peek (by k_in) (pk_keepFrom _ _)) ?_
  refine' c_from av hA.1 hA.2 _ rfl _ _ _ _ _ _ _ _ _ _ _ _ _ _ _ _ _ _ _ _ _ ?B ?F ?X ?N ?T ?hd ?hu ?_
  case B => k_asm
  case F => k_asm
  case X => k_asm
  case N => k_asm
  case T => k_asm
  case hd => ktr_room
  case hu => ktr_units
  intro t' h' tk' F' N'
  (try k_sweep)
  refine nOf ?_
  k_steps
  refine nOf ?_
  k_steps
  · exfalso
    omega
  refine nIsOr (nIsNot (nIsPlain (nCallName ?_)))
  k_steps
  refine nCallW ?_
  k_steps
  refine Kp.of .frame (Looks.of_peek (by k_in) (pk_keepRefused _ _)) ?_
  obtain ⟨j, js, ej, hj⟩ := oct_cons (x := num ns 6) (k := 1 + (num ns 7).fmod 9) (by omega) (by omega)
  refine' c_refX av hA.1 hA.2 _ j js ?hb hj _ _ _ _ _ _ _ _ _ _ _ _ _ _ _ _ _ _ _ _ ?B ?F ?X ?N ?T ?hd ?hu ?_
  case hb => (apply Array.ext'; rw [Array.toList_append, ej])
  case B => k_asm
  case F => k_asm
  case X => k_asm
  case N => k_asm
  case T => k_asm
  case hd => ktr_room
  case hu => ktr_units
  intro h' tk' F' N'
  (try k_sweep)
  k_steps
  refine nIsOrNil ?_
  dsimp only
  refine nExecsNil ?_
  dsimp only
  refine nExecsCons (nFor ?_)
  k_steps
  rename Fr _ _ _ _ => FZ
  rename News _ _ _ _ => NZ
  refine zipLoop (env := envOf _ _ _ _ _) (s := ⟨_, _, _, _, _⟩) (l1 := ln) (l2 := lt) (xs := vs) (ys := ws)
    (fun i m' news' => m' (Str.ofString "script") = some (.ref l) ∧ m' (Str.ofString "numbers") = some (.ref ln) ∧ m' (Str.ofString "told") = some (.ref lt) ∧ m' (Str.ofString "a") = some (.int av ta) ∧ m' (Str.ofString "one") = some (.bytes (enc av).toArray tb) ∧ news' = nw)
    FZ NZ hmn hmt rfl rfl rfl rfl hwl ⟨hm0, hm1, hm2, hm3, hm4, rfl⟩ ?hJ ?step ?hR
  case hJ =>
    rintro i m' news' ⟨_, _, _, _, _, rfl⟩
    exact ⟨hmn, hmt, fun p hp => hp⟩
  case hR =>
    rintro h' tk m' news' F1 N1 ⟨e1, e2, e3, e4, e5, rfl⟩
    dsimp only
    refine nExecsNil ?_
    exact hret m' h' tk e1 e2 e3 F1 N1
  case step =>
    rintro i x y m₁ news₁ own₁ h tk hx hy hown ⟨e1, e2, e3, e4, e5, rfl⟩ F1 N1
    obtain ⟨bv, tc, ex, hxn⟩ := IntsAre.at hI i x hx
    subst ex
    have hB : Big bv := hbig bv (List.mem_of_getElem? hxn)
    obtain ⟨by_, td, ey, hyn⟩ := hW.get hy
    subst ey
    have eb : by_ = (enc bv).toArray := by
      have : (told nn)[i]? = some (enc bv).toArray := by unfold told; rw [List.getElem?_map, hxn]; rfl
      exact Option.some.inj (hyn.symm.trans this)
    subst eb
    have mono := enc_mono (a := av) (b := bv) hA hB
    have lts := lt_enc (a := av) (b := bv) hA hB
    have za : (enc av).toArray.size = (enc av).length := List.size_toArray
    have zb : (enc bv).toArray.size = (enc bv).length := List.size_toArray
    refine nOf ?_
    k_steps
    all_goals first
      | (exfalso; rename (decide (av = bv) != _) = true => hq; rw [show decide (av = bv) = (av == bv) from rfl] at hq; simp at hq; done)
      | (exfalso; rename (decide (av < bv) != ltB _ _) = true => hq; rw [lts (by omega)] at hq; simp at hq; done)
      | (exfalso; have := mono (by assumption); omega)
      | (rename Fr _ _ _ _ => FZ2
         rename News _ _ _ _ => NZ2
         refine ⟨_, _, _, _, rfl, ?_, FZ2, NZ2⟩
         exact ⟨e1, e2, e3, e4, e5, rfl⟩)
end Mine
end

section
open PySem PySem.Spec PySem.W PySem.Calls PyProof.Rows
set_option maxRecDepth 100000
set_option maxHeartbeats 4000000
namespace Mine
open PySem.Sem (wp) in
theorem nExecsApp {M : Model} {A : Around} {E : Value → Shared → Prop} {s : Shared} {env : Env} {Q : Flow → Shared → Prop} (P : Shared → Prop) 
    {as bs : List Stmt} (h : wpN M A (execs as env) (fun f s' => f = .next ∧ P s') E s) (k : ∀ s', P s' → wpN M A (execs bs env) Q E s') : wpN M A (execs (as ++ bs) env) Q E s := by
  intro Γ p hΓ hC
  have h' := h Γ p hΓ hC
  clear h
  induction as generalizing p s with
  | nil =>
    rw [List.nil_append]
    rw [execs] at h'
    have h'' : Flow.next = .next ∧ P s := h'
    exact k s h''.2 Γ p hΓ hC
  | cons st rest ih =>
    rw [List.cons_append]
    rw [execs_cons] at h' ⊢
    rw [Sem.wp_bind'] at h' ⊢
    refine Sem.wp_mono M Γ (exec st env) (fun f p' s' hf => ?_) (fun _ _ _ x => x) p s h'
    cases f with
    | next => exact ih p' hf
    | brk => exact absurd (show Flow.brk = .next from (show _ ∧ _ from hf).1) (by intro e; cases e)
    | cont => exact absurd (show Flow.cont = .next from (show _ ∧ _ from hf).1) (by intro e; cases e)
    | ret v => exact absurd (show Flow.ret v = .next from (show _ ∧ _ from hf).1) (by intro e; cases e)
theorem laid_eq {x : Array UInt8} {v : Int} {t : Tok} (e : x = (enc v).toArray) : some (Value.bytes x t) = some (.bytes (enc v).toArray t) := by rw [e]
theorem encl2 {x : Int} (h : 253 ≤ x) (h' : x < 65536) : (253 :: le 2 x).toArray = (enc x).toArray := by unfold enc; rw [if_neg (by omega), if_pos h']
theorem encl4 {x : Int} (h : 65536 ≤ x) (h' : x < 4294967296) : (254 :: le 4 x).toArray = (enc x).toArray := by unfold enc; rw [if_neg (by omega), if_neg (by omega), if_pos h']
theorem encl8 {x : Int} (h : 4294967296 ≤ x) : (255 :: le 8 x).toArray = (enc x).toArray := by unfold enc; rw [if_neg (by omega), if_neg (by omega), if_neg (by omega)]
theorem item_tmp {prog : Program} {w : World} {A : Around} {E : Value → Shared → Prop} {s : Shared} {d : Addr} {D : List (PyData × PyData)} {value slice : Expr} {i : Int} {t : Tok} {dv : PyData} {Q : Value → Shared → Prop} (T : IntTab prog w s.heap d D) (hl : lookup (.int i) D = some dv)
    (h : ∀ v, PyProof.V.Flat v dv → Q v { s with toks := s.toks + 1 })
    (hs : subscripted slice false (.ref d) (.int i t) = operate [.ref d, .int i t] (getItem (.ref d) (.int i t)) := by with_unfolding_all rfl) :
    wpAny (model prog w) A (subscriptTail value slice (.ref d) (.int i t)) Q E s := by
  obtain ⟨lo, kvs, hd, hf⟩ := id T
  exact tail_any hd.typeIs PySem.F.slot_dict_getitem.lookup (getItem_tab PyProof.V.same_int (intKind_is prog w i t) T hl h) hs
theorem lawC {w : World} {mean : ExcName → Option Value} {mg mb : Str → Option Value} (news : List (Addr × Obj)) (l ln lt : Addr) (sv : List Value) (ns : List Int) (hIs : IntsAre sv ns) (hNs : ns.length < 2 ^ 62) (hbits : BitsOK ns) (vs ws : List Value) (nn : List Int) (k : Nat) (hI : IntsAre vs nn) (hbig : ∀ x ∈ nn, Big x) (hW : Bys ws (told nn))
   (dp un : Nat) (gd : Option (List Code)) (a : Addr) (ccd : Value) (A₀ : Around) (h₀ : Heap) (L : Addr) (m : Str → Option Value) (s : Shared) (Q : Flow → Shared → Prop) (E : Value → Shared → Prop)
   (hl : h₀.IsList l sv.toArray)
   (B : Below A₀ h₀ [] h₀) (F : Fr h₀ L s.heap m) (X : (Mine.hd.heap_39 w.params).In h₀) (N : News h₀ L s.heap ((lt, listOf ws.toArray ws.length) :: (ln, listOf vs.toArray k) :: news)) (T : Top Mine.hd.view_39 LS mean mg mb h₀) 
   (hd : dp + 200 < recursionLimit) (hu : un + 1000 < cLine)
   (hm0 : m (Str.ofString "script") = some (.ref l)) (hm1 : m (Str.ofString "numbers") = some (.ref ln)) (hm2 : m (Str.ofString "told") = some (.ref lt))
   (hret : ∀ m' h' tk', m' (Str.ofString "script") = some (.ref l) → m' (Str.ofString "numbers") = some (.ref ln) →
      Fr h₀ L h' m' → News h₀ L h' ((lt, listOf ws.toArray ws.length) :: (ln, listOf vs.toArray k) :: news) → wpN (model Challenge.rw_bd0009_01.row.prog w) (lawTop dp un gd L a ccd) (execs (lawDef.1.drop 4) (lawEnv L a ccd)) Q E { s with heap := h', toks := tk' }) :
   wpN (model Challenge.rw_bd0009_01.row.prog w) (lawTop dp un gd L a ccd) (execs (lawDef.1.drop 3) (lawEnv L a ccd)) Q E s := by
  k_with_none
  k_with "eval Name" => (k_here; k_dflt (refine' ld ?zzk1 ?zzk2 ?_; (case zzk1 => k_asm); (case zzk2 => first | exact rfl | assumption); k_whole))
  k_with "call ref" => (k_here; (with_reducible show wpAny _ _ (call (Value.ref 843) [Value.ref _, Value.int _ _]) _ _ _); k_dflt ((with_unfolding_all refine' c_number _ _ _ _ _ ?zzq1 _ _ _ _ _ _ _ _ _ _ _ _ _ _ _ _ _ _ _ _ ?zzB ?zzF ?zzX ?zzN ?zzT ?zzC1 ?zzC2 ?zzC3 ?zzhd ?zzhu ?_); (case zzB | zzF | zzX | zzN | zzT => k_asm); (case zzC1 | zzC2 | zzC3 => assumption); (case zzq1 => omega); (case zzhd => ktr_room); (case zzhu => ktr_units); k_whole; intro t' h' tk' F' N'; (try k_sweep)))
  k_with "call ref" => (k_here; (with_reducible show wpAny _ _ (call (Value.ref 850) [Value.int _ _, Value.int _ _]) _ _ _); k_dflt ((with_unfolding_all refine' c_octets _ _ _ _ ?zzq1 ?zzq2 ?zzq3 _ _ _ _ _ _ _ _ _ _ _ _ _ _ _ _ _ _ _ _ ?zzB ?zzF ?zzX ?zzN ?zzT ?zzhd ?zzhu ?_); (case zzB | zzF | zzX | zzN | zzT => k_asm); (case zzq1 => first | omega | exact (kmn_any (lo := 0) (hi := 300) (by decide)).1); (case zzq2 => first | omega | exact (kmn_any (lo := 0) (hi := 300) (by decide)).2); (case zzq3 => first | assumption | exact BitsOK.le (by assumption) (by omega) (by omega)); (case zzhd => ktr_room); (case zzhu => ktr_units); k_whole; intro t' h' tk' F' N'; (try k_sweep)))
  k_with "call builtin:int.to_bytes" => (refine toLittle (by decide) (by decide) (by omega) (by first | exact Int.lt_of_lt_of_le (b := 65536) (by omega) (by decide) | exact Int.lt_of_lt_of_le (b := 4294967296) (by omega) (by decide) | exact Int.lt_of_lt_of_le (b := 18446744073709551616) (by omega) (by decide)) ?_; intro _ _)
  k_with "call type:zip" => (refine stopAt ?_)
  k_with "subscriptTail" => ((try dsimp only at *); (with_reducible show wpAny _ _ (subscriptTail _ _ (Value.ref _) (Value.int _ _)) _ _ _); (with_reducible rename Obj.IsDictOf _ _ _ => dictLook); k_dflt (refine item_tmp (TabAt.ofNews (by assumption) (.head _) (by assumption) (by assumption) (by assumption)) (by rfl) ?_); intro _ hv'; dict_open hv')
  have X0 := X
  revert X0
  k_fill
  intro _
  have hwl : ws.length = vs.length := by rw [hW.len, hI.length]; simp [told]
  dsimp only [lawDef, pick3, List.drop, lawEnv, lawTop] at hret ⊢
  refine nExecsCons (nFor ?_)
  k_steps
  rename Fr _ _ _ _ => FZ
  rename News _ _ _ _ => NZ
  refine zipLoop (env := envOf _ _ _ _ _) (s := ⟨_, _, _, _, _⟩) (l1 := ln) (l2 := lt) (xs := vs) (ys := ws)
    (fun i m' news' => m' (Str.ofString "script") = some (.ref l) ∧ m' (Str.ofString "numbers") = some (.ref ln) ∧ m' (Str.ofString "told") = some (.ref lt) ∧ news' = (lt, listOf ws.toArray ws.length) :: (ln, listOf vs.toArray k) :: news)
    FZ NZ (by k_mem) (by k_mem) rfl rfl rfl rfl hwl ⟨hm0, hm1, hm2, rfl⟩ ?hJ ?step ?hR
  case hJ =>
    rintro i m' news' ⟨_, _, _, rfl⟩
    exact ⟨by k_mem, by k_mem, fun p hp => hp⟩
  case hR =>
    rintro h' tk m' news' F1 N1 ⟨e1, e2, e3, rfl⟩
    exact hret m' h' tk e1 e2 F1 N1
  case step =>
    rintro i x y m₁ news₁ own₁ h tk hx hy hown ⟨e1, e2, e3, rfl⟩ F1 N1
    obtain ⟨av, ta, ex, hxn⟩ := IntsAre.at hI i x hx
    subst ex
    have hA : Big av := hbig av (List.mem_of_getElem? hxn)
    obtain ⟨by_, tb, ey, hyn⟩ := hW.get hy
    subst ey
    have eb : by_ = (enc av).toArray := by
      have : (told nn)[i]? = some (enc av).toArray := by unfold told; rw [List.getElem?_map, hxn]; rfl
      exact Option.some.inj (hyn.symm.trans this)
    subst eb
    obtain ⟨hA0, hA1⟩ := hA
    refine nExecsApp (as := [_, _]) (fun s' => StopAt (∃ m' h' tk', s' = { s with heap := h', toks := tk' } ∧ m' (Str.ofString "script") = some (.ref l) ∧ m' (Str.ofString "numbers") = some (.ref ln) ∧ m' (Str.ofString "told") = some (.ref lt) ∧
      m' (Str.ofString "a") = some (.int av ta) ∧ m' (Str.ofString "one") = some (.bytes (enc av).toArray tb) ∧ (∃ tl, m' (Str.ofString "laid") = some (.bytes (enc av).toArray tl)) ∧
      Fr h₀ L h' m' ∧ News h₀ L h' (own₁ ++ (lt, listOf ws.toArray ws.length) :: (ln, listOf vs.toArray k) :: news))) ?pre ?post
    case pre =>
      obtain ⟨nw, hnw⟩ : ∃ nw, nw = own₁ ++ (lt, listOf ws.toArray ws.length) :: (ln, listOf vs.toArray k) :: news := ⟨_, rfl⟩
      rw [← hnw] at N1 ⊢
      clear hnw hret
      refine nOf ?_
      k_steps
      all_goals (
        unfold StopAt
        rename Fr _ _ _ _ => FZ
        rename News _ _ _ _ => NZ
        refine ⟨_, _, _, rfl, ?_, ?_, ?_, ?_, ?_, ?_, FZ, cb_drop NZ (by kcj_all)⟩
        · exact e1
        · exact e2
        · exact e3
        · rfl
        · rfl
        · first
            | exact ⟨_, laid_eq (enc1 (by omega) (by omega))⟩
            | exact ⟨_, laid_eq (encl2 (by omega) (by omega))⟩
            | exact ⟨_, laid_eq (encl4 (by omega) (by omega))⟩
            | exact ⟨_, laid_eq (encl8 (by omega))⟩)
    case post =>
      rintro s' ⟨m', h', tk', rfl, d1, d2, d3, d4, d5, ⟨tl, d6⟩, F2, N2⟩
      refine lawT (m := m') (s := { s with heap := h', toks := tk' }) own₁ news l ln lt sv ns hIs hNs hbits vs ws nn k hI hbig hW av ⟨hA0, hA1⟩ ta tb tl dp un gd a ccd A₀ h₀ L _ _ hl B F2 X N2 T hd hu d1 d2 d3 d4 d5 d6 ?_
      intro m2 h2 tk2 f1 f2 f3 F3 N3
      exact ⟨_, _, _, _, rfl, ⟨f1, f2, f3, rfl⟩, F3, N3⟩
end Mine
end

section
open PySem PySem.Spec PySem.W PySem.Calls PyProof.Rows
set_option maxRecDepth 100000
set_option maxHeartbeats 4000000
namespace Mine
theorem p64 : (2:Int) ^ Int.toNat 64 = 18446744073709551616 := by decide
theorem getD_zero {x : Int} {r : List Int} : (x :: r).getD (Int.toNat 0) 0 = x := rfl
theorem lawD {w : World} {mean : ExcName → Option Value} {mg mb : Str → Option Value} (news : List (Addr × Obj)) (l ln : Addr) (vs : List Value) (nn : List Int) (k : Nat) (hI : IntsAre vs nn) (hn5 : nn.length = 5) (hbig : ∀ x ∈ nn, Big x)
   (dp un : Nat) (gd : Option (List Code)) (a : Addr) (ccd : Value) (A₀ : Around) (h₀ : Heap) (L : Addr) (m : Str → Option Value) (s : Shared) (Q : Flow → Shared → Prop) (E : Value → Shared → Prop)
   (B : Below A₀ h₀ [] h₀) (F : Fr h₀ L s.heap m) (X : (Mine.hd.heap_39 w.params).In h₀) (N : News h₀ L s.heap ((ln, listOf vs.toArray k) :: news)) (T : Top Mine.hd.view_39 LS mean mg mb h₀) 
   (hd : dp + 200 < recursionLimit) (hu : un + 1000 < cLine)
   (hm0 : m (Str.ofString "script") = some (.ref l)) (hm1 : m (Str.ofString "numbers") = some (.ref ln))
   (hret : ∀ m' h' tk', m' (Str.ofString "script") = some (.ref l) → Fr h₀ L h' m' → News h₀ L h' news →
      wpN (model Challenge.rw_bd0009_01.row.prog w) (lawTop dp un gd L a ccd) (execs (lawDef.1.drop 5) (lawEnv L a ccd)) Q E { s with heap := h', toks := tk' }) :
   wpN (model Challenge.rw_bd0009_01.row.prog w) (lawTop dp un gd L a ccd) (execs (lawDef.1.drop 4) (lawEnv L a ccd)) Q E s := by
  k_with_none
  k_with "eval Name" => (k_here; k_dflt (refine' ld ?zzk1 ?zzk2 ?_; (case zzk1 => k_asm); (case zzk2 => first | exact rfl | assumption); k_whole))
  k_with "call ref" => (k_here; (with_reducible show wpAny _ _ (call (Value.ref 857) [Value.bytes _ _, Value.int _ _]) _ _ _); k_dflt ((with_unfolding_all refine' c_ref1 _ _ _ ?zzq1 ?zzq2 _ _ _ _ _ _ _ _ _ _ _ _ _ _ _ _ _ (by k_dflt k_asm) (by k_dflt k_asm) (by k_dflt k_asm) (by k_dflt k_asm) (by k_dflt k_asm) (by k_dflt ktr_room) (by k_dflt ktr_units) ?_); (case zzq1 => (simp only [getD_zero, p64]; omega)); (case zzq2 => (simp only [getD_zero, p64]; omega)); k_whole; intro t' h' tk' F' N'; (try k_sweep)))
  k_with "call ref" => (k_here; (with_reducible show wpAny _ _ (call (Value.ref 857) [Value.bytes _ _, Value.int _ _]) _ _ _); k_dflt ((with_unfolding_all refine' c_ref0 _ _ _ ?zzq1 ?zzq2 _ _ _ _ _ _ _ _ _ _ _ _ _ _ _ _ _ (by k_dflt k_asm) (by k_dflt k_asm) (by k_dflt k_asm) (by k_dflt k_asm) (by k_dflt k_asm) (by k_dflt ktr_room) (by k_dflt ktr_units) ?_); (case zzq1 => (simp only [getD_zero, p64]; omega)); (case zzq2 => (simp only [getD_zero, p64]; omega)); k_whole; intro t' h' tk' F' N'; (try k_sweep)))
  have X0 := X
  revert X0
  k_fill
  intro _
  obtain ⟨n0, nr, rfl⟩ : ∃ n0 nr, nn = n0 :: nr := by
    cases nn with
    | nil => simp at hn5
    | cons n0 nr => exact ⟨n0, nr, rfl⟩
  obtain ⟨hb0, hb1⟩ := hbig n0 (.head _)
  dsimp only [lawDef, pick3, List.drop, lawEnv, lawTop] at hret ⊢
  refine nExecsCons (nOf ?_)
  k_steps
  rename Fr _ _ _ _ => FZ
  rename News _ _ _ _ => NZ
  dsimp only
  refine hret m _ _ hm0 FZ (cb_drop NZ ?_)
  first | exact fun _ h => .tail _ h | kcj_all
end Mine
end

section
open PySem PySem.Spec PySem.W PySem.Calls PyProof.Rows
set_option maxRecDepth 100000
set_option maxHeartbeats 4000000
namespace Mine
theorem lawE5 {w : World} {mean : ExcName → Option Value} {mg mb : Str → Option Value} (news : List (Addr × Obj)) (l : Addr) (sv : List Value) (ns : List Int) (hIs : IntsAre sv ns) (hNs : ns.length < 2 ^ 62) (hbits : BitsOK ns)
   (dp un : Nat) (gd : Option (List Code)) (a : Addr) (ccd : Value) (A₀ : Around) (h₀ : Heap) (L : Addr) (m : Str → Option Value) (s : Shared) (Q : Flow → Shared → Prop) (E : Value → Shared → Prop)
   (hl : h₀.IsList l sv.toArray)
   (B : Below A₀ h₀ [] h₀) (F : Fr h₀ L s.heap m) (X : (Mine.hd.heap_39 w.params).In h₀) (N : News h₀ L s.heap news) (T : Top Mine.hd.view_39 LS mean mg mb h₀) 
   (hd : dp + 200 < recursionLimit) (hu : un + 1000 < cLine)
   (hm0 : m (Str.ofString "script") = some (.ref l))
   (hret : ∀ lr lo rws ows m' h' tk', m' (Str.ofString "script") = some (.ref l) → m' (Str.ofString "rows") = some (.ref lr) → m' (Str.ofString "others") = some (.ref lo) → Bys rws (lawItems ns 10) → Bys ows (lawItems ns 20) → Fr h₀ L h' m' → News h₀ L h' ((lo, listOf ows.toArray ows.length) :: (lr, listOf rws.toArray rws.length) :: news) →
      wpN (model Challenge.rw_bd0009_01.row.prog w) (lawTop dp un gd L a ccd) (execs (lawDef.1.drop 6) (lawEnv L a ccd)) Q E { s with heap := h', toks := tk' }) :
   wpN (model Challenge.rw_bd0009_01.row.prog w) (lawTop dp un gd L a ccd) (execs (lawDef.1.drop 5) (lawEnv L a ccd)) Q E s := by
  k_with_none
  k_with "eval Name" => (k_here; k_dflt (refine' ld ?zzk1 ?zzk2 ?_; (case zzk1 => k_asm); (case zzk2 => first | exact rfl | assumption); k_whole))
  k_with "call ref" => (refine stopAt ?_)
  k_with "call ref" => (k_here; (with_reducible show wpAny _ _ (call (Value.ref 862) [Value.ref _, Value.int _ _]) _ _ _); k_dflt ((with_unfolding_all refine' c_items _ _ _ ?zzC1 ?zzC2 ?zzC4 _ _ ?zzq1 ?zzq2 _ _ _ _ _ _ _ _ _ _ [] _ _ _ _ _ _ _ ?zzC3 (by k_dflt k_asm) (by k_dflt k_asm) (by k_dflt k_asm) (by k_dflt k_asm) (by k_dflt k_asm) (by k_dflt ktr_room) (by k_dflt ktr_units) ?_); (case zzC1 | zzC2 | zzC3 | zzC4 => assumption); (case zzq1 | zzq2 => omega); k_whole; intro D' ys' h' tk' W' F' N'; (try k_sweep)))
  have X0 := X
  revert X0
  k_fill
  intro _
  dsimp only [lawDef, pick3, List.drop, lawEnv, lawTop] at hret ⊢
  refine nExecsCons (nOf ?_)
  k_steps
  rename Fr _ _ _ _ => FZ
  rename News _ _ _ _ => NZ
  refine hret ?lr ?lo ?rws ?ows _ _ _ ?a ?b ?c ?d ?e FZ ?f
  case a => exact hm0
  case b => rfl
  case c => rfl
  case d => assumption
  case e => assumption
  case f => exact cb_drop NZ (by kcj_all)
end Mine
end

section
open PySem PySem.Spec PySem.W PySem.Calls PyProof.Rows
set_option maxRecDepth 100000
set_option maxHeartbeats 4000000
namespace Mine
def Sm (z : Nat) (bs : List (Array UInt8)) : Prop := bs.length ≤ 4 ∧ ∀ b ∈ bs, b.size ≤ z
theorem Sm.mono {y z : Nat} {bs : List (Array UInt8)} (h : Sm y bs) (k : y ≤ z) : Sm z bs := ⟨h.1, fun b hb => Nat.le_trans (h.2 b hb) k⟩
theorem Sm.at {z : Nat} {bs : List (Array UInt8)} (h : Sm z bs) (i : Nat) : (bs.getD i #[]).size ≤ z := by
  rw [List.getD_eq_getElem?_getD]
  cases e : bs[i]? with
  | none => exact Nat.zero_le _
  | some b => exact h.2 b (List.mem_of_getElem? e)
theorem sm_items {ns : List Int} {p : Int} : Sm 300 (lawItems ns p) := by
  have g1 := fmod_lo (num ns p) (n := 5) (by decide)
  have g2 := fmod_hi (num ns p) (n := 5) (by decide)
  refine ⟨by rw [lawItems_len]; omega, ?_⟩
  intro b hb
  unfold lawItems at hb
  obtain ⟨k, _, rfl⟩ := List.mem_map.mp hb
  rw [oct_size]
  have := (kmn_any (d := 0) (lo := 0) (hi := 300) (i := ((num ns (p + 5 + (k : Int))).fmod 6).toNat) (l := [0, 1, 33, 252, 253, 300]) (by decide)).2
  unfold siz
  omega
theorem lawE6 {w : World} {mean : ExcName → Option Value} {mg mb : Str → Option Value} (news : List (Addr × Obj)) (l lr lo : Addr) (sv rws ows : List Value) (n1 n2 : Nat) (bs cs : List (Array UInt8)) (ns : List Int) (hIs : IntsAre sv ns) (hNs : ns.length < 2 ^ 62) (hbits : BitsOK ns)
   (dp un : Nat) (gd : Option (List Code)) (a : Addr) (ccd : Value) (A₀ : Around) (h₀ : Heap) (L : Addr) (m : Str → Option Value) (s : Shared) (Q : Flow → Shared → Prop) (E : Value → Shared → Prop)
   (hl : h₀.IsList l sv.toArray) (hW : Bys rws bs) (hV : Bys ows cs) (hS1 : Sm 300 bs) (hS2 : Sm 600 cs)
   (B : Below A₀ h₀ [] h₀) (F : Fr h₀ L s.heap m) (X : (Mine.hd.heap_39 w.params).In h₀) (N : News h₀ L s.heap ((lo, listOf ows.toArray n2) :: (lr, listOf rws.toArray n1) :: news)) (T : Top Mine.hd.view_39 LS mean mg mb h₀) 
   (hd : dp + 200 < recursionLimit) (hu : un + 1000 < cLine)
   (hm0 : m (Str.ofString "script") = some (.ref l)) (hm1 : m (Str.ofString "rows") = some (.ref lr)) (hm2 : m (Str.ofString "others") = some (.ref lo))
   (hret : ∀ lo' ows' n2' cs' m' h' tk', m' (Str.ofString "script") = some (.ref l) → m' (Str.ofString "rows") = some (.ref lr) → m' (Str.ofString "others") = some (.ref lo') → Bys ows' cs' → Sm 600 cs' → Fr h₀ L h' m' → News h₀ L h' ((lo', listOf ows'.toArray n2') :: (lr, listOf rws.toArray n1) :: news) →
      wpN (model Challenge.rw_bd0009_01.row.prog w) (lawTop dp un gd L a ccd) (execs (lawDef.1.drop 7) (lawEnv L a ccd)) Q E { s with heap := h', toks := tk' }) :
   wpN (model Challenge.rw_bd0009_01.row.prog w) (lawTop dp un gd L a ccd) (execs (lawDef.1.drop 6) (lawEnv L a ccd)) Q E s := by
  k_with_none
  k_with "eval Name" => (k_here; k_dflt (refine' ld ?zzk1 ?zzk2 ?_; (case zzk1 => k_asm); (case zzk2 => first | exact rfl | assumption); k_whole))
  k_with "call ref" => (refine stopAt ?_)
  k_with "call ref" => (k_here; (with_reducible show wpAny _ _ (call (Value.ref 843) [Value.ref _, Value.int _ _]) _ _ _); k_dflt ((with_unfolding_all refine' c_number _ _ _ _ _ ?zzq1 _ _ _ _ _ _ _ _ _ _ _ _ _ _ _ _ _ _ _ _ ?zzB ?zzF ?zzX ?zzN ?zzT ?zzC1 ?zzC2 ?zzC3 ?zzhd ?zzhu ?_); (case zzB | zzF | zzX | zzN | zzT => k_asm); (case zzC1 | zzC2 | zzC3 => assumption); (case zzq1 => omega); (case zzhd => ktr_room); (case zzhu => ktr_units); k_whole; intro t' h' tk' F' N'; (try k_sweep)))
  k_with "call type:list" => (k_here; (with_reducible show wpAny _ _ (call (Value.type _) [Value.ref _]) _ _ _); k_dflt (refine' kup_listOf ?zzF ?zzN ?zzb (by rfl) ?_ ?zzz; (case zzF | zzN => k_asm); (case zzb => k_mem); (case zzz => (simp only [List.size_toArray] at *; assumption))); intro D' c' h' F' N' l1; (try k_lt l1); (try k_sweep))
  have X0 := X
  revert X0
  k_fill
  intro _
  have hwl : rws.length ≤ 4 := by rw [hW.len]; exact hS1.1
  have hz9 := sizeLine_eq
  have hwz : rws.toArray.size ≤ sizeLine := by rw [List.size_toArray]; omega
  dsimp only [lawDef, pick3, List.drop, lawEnv, lawTop] at hret ⊢
  refine nExecsCons (nOf ?_)
  k_steps
  all_goals
    rename Fr _ _ _ _ => FZ
    rename News _ _ _ _ => NZ
    dsimp only
  · refine hret ?lo ?ows ?n2 bs _ _ _ ?a ?b ?c ?d (hS1.mono (by decide)) FZ ?f
    case a => exact hm0
    case b => exact hm1
    case c => rfl
    case d => exact hW
    case f => exact cb_drop NZ (by kcj_all)
  · exact hret lo ows n2 cs _ _ _ hm0 hm1 hm2 hV hS2 FZ NZ
end Mine
end

section
open PySem PySem.Spec PySem.W PySem.Calls PyProof.Rows
set_option maxRecDepth 100000
set_option maxHeartbeats 4000000
namespace Mine
theorem by_item {prog : Program} {w : World} {A : Around} {E : Value → Shared → Prop} {s : Shared} {value slice : Expr} {a : Addr} {l : List Value} {bs : List (Array UInt8)} {k : Int} {u : Tok} {Q : Value → Shared → Prop} (hl : s.heap.IsList a l.toArray) (hw : Bys l bs)
    (h0 : 0 ≤ k) (h1 : k < bs.length) (hfit : k < 2 ^ 63) (h : ∀ t, Q (.bytes (bs.getD k.toNat #[]) t) s)
    (hs : subscripted slice false (.ref a) (.int k u) = operate [.ref a, .int k u] (getItem (.ref a) (.int k u)) := by with_unfolding_all rfl) (hg : ∀ r, letTemporaryGo value (.ref a) r = pure () := by intro _; with_unfolding_all rfl) :
    wpAny (model prog w) A (subscriptTail value slice (.ref a) (.int k u)) Q E s := by
  have hk : k.toNat < l.length := by rw [hw.len]; omega
  obtain ⟨b, t, e, hb⟩ := hw.get (List.getElem?_eq_getElem hk)
  refine item_listL hl h0 hfit ((List.getElem?_eq_getElem hk).trans (congrArg some e)) ?_ hs hg
  have : bs.getD k.toNat #[] = b := by rw [List.getD_eq_getElem?_getD, hb]; rfl
  rw [← this]
  exact h t
theorem Bys.drop : ∀ {ws : List Value} {bs : List (Array UInt8)} (n : Nat), Bys ws bs → Bys (ws.drop n) (bs.drop n)
  | _, _, 0, h => h
  | [], [], _ + 1, h => h
  | v :: ws, c :: cs, n + 1, h => by
    simp only [List.drop_succ_cons]
    cases v <;> first | exact Bys.drop n h.2 | exact absurd h id
theorem pick_two {ws : List Value} : kms_pick ws.toArray.toList (some 2) none = ws.drop 2 := by
  unfold kms_pick
  have e1 : kms_lo (some 2) ws.toArray.toList.length = min 2 ws.length := by simp [kms_lo]
  have e2 : kms_hi none ws.toArray.toList.length = ws.length := by simp [kms_hi]
  rw [e1, e2]
  by_cases h : 2 ≤ ws.length
  · rw [Nat.min_eq_left h, List.take_of_length_le (by rw [List.length_drop]; exact Nat.le_refl _)]
  · rw [Nat.min_eq_right (by omega), List.drop_eq_nil_of_le (by simp), List.take_nil, List.drop_eq_nil_of_le (by omega)]
theorem lawE7 {w : World} {mean : ExcName → Option Value} {mg mb : Str → Option Value} (news : List (Addr × Obj)) (l lr lo : Addr) (sv rws ows : List Value) (n1 n2 : Nat) (bs cs : List (Array UInt8)) (ns : List Int) (hIs : IntsAre sv ns) (hNs : ns.length < 2 ^ 62) (hbits : BitsOK ns)
   (dp un : Nat) (gd : Option (List Code)) (a : Addr) (ccd : Value) (A₀ : Around) (h₀ : Heap) (L : Addr) (m : Str → Option Value) (s : Shared) (Q : Flow → Shared → Prop) (E : Value → Shared → Prop)
   (hl : h₀.IsList l sv.toArray) (hW : Bys rws bs) (hV : Bys ows cs) (hS1 : Sm 300 bs) (hS2 : Sm 600 cs)
   (B : Below A₀ h₀ [] h₀) (F : Fr h₀ L s.heap m) (X : (Mine.hd.heap_39 w.params).In h₀) (N : News h₀ L s.heap ((lo, listOf ows.toArray n2) :: (lr, listOf rws.toArray n1) :: news)) (T : Top Mine.hd.view_39 LS mean mg mb h₀) 
   (hd : dp + 200 < recursionLimit) (hu : un + 1000 < cLine)
   (hm0 : m (Str.ofString "script") = some (.ref l)) (hm1 : m (Str.ofString "rows") = some (.ref lr)) (hm2 : m (Str.ofString "others") = some (.ref lo))
   (hret : ∀ lo' ows' n2' cs' m' h' tk', m' (Str.ofString "script") = some (.ref l) → m' (Str.ofString "rows") = some (.ref lr) → m' (Str.ofString "others") = some (.ref lo') → Bys ows' cs' → Sm 600 cs' → Fr h₀ L h' m' → News h₀ L h' ((lo', listOf ows'.toArray n2') :: (lr, listOf rws.toArray n1) :: news) →
      wpN (model Challenge.rw_bd0009_01.row.prog w) (lawTop dp un gd L a ccd) (execs (lawDef.1.drop 8) (lawEnv L a ccd)) Q E { s with heap := h', toks := tk' }) :
   wpN (model Challenge.rw_bd0009_01.row.prog w) (lawTop dp un gd L a ccd) (execs (lawDef.1.drop 7) (lawEnv L a ccd)) Q E s := by
  k_with_none
  k_with "eval Name" => (k_here; k_dflt (refine' ld ?zzk1 ?zzk2 ?_; (case zzk1 => k_asm); (case zzk2 => first | exact rfl | assumption); k_whole))
  k_with "call ref" => (refine stopAt ?_)
  k_with "call ref" => (k_here; (with_reducible show wpAny _ _ (call (Value.ref 843) [Value.ref _, Value.int _ _]) _ _ _); k_dflt ((with_unfolding_all refine' c_number _ _ _ _ _ ?zzq1 _ _ _ _ _ _ _ _ _ _ _ _ _ _ _ _ _ _ _ _ ?zzB ?zzF ?zzX ?zzN ?zzT ?zzC1 ?zzC2 ?zzC3 ?zzhd ?zzhu ?_); (case zzB | zzF | zzX | zzN | zzT => k_asm); (case zzC1 | zzC2 | zzC3 => assumption); (case zzq1 => omega); (case zzhd => ktr_room); (case zzhu => ktr_units); k_whole; intro t' h' tk' F' N'; (try k_sweep)))
  k_with "subscriptTail Name Constant ref int" => ((with_reducible show wpAny _ _ (subscriptTail _ _ (Value.ref _) (Value.int _ _)) _ _ _); k_dflt (with_unfolding_all refine' by_item ?zzk1 ?zzk2 ?zzk3 ?zzk4 ?zzk5 ?_; (case zzk1 => kmk_list); (case zzk2 => assumption); (case zzk3 => decide); (case zzk4 => (simp only [List.size_toArray] at *; omega)); (case zzk5 => decide)); intro _)
  k_with "binaryOp Add bytes bytes" => ((try dsimp only); k_dflt (refine KBy.add_bytes (by assumption) ?_); intro _ _)
  k_with "binaryOp Add ref ref" => (k_here; (with_reducible show wpAny _ _ (binaryOp _ (Value.ref _) (Value.ref _)) _ _ _); k_dflt (refine' kmk_add_lit ?zzF ?zzN ?zza ?zzb (by rfl) ?_ ?zzz; (case zzF | zzN => k_asm); (case zza | zzb => kmk_list); (case zzz => (simp only [List.length_cons, List.length_nil, List.length_drop]; omega))); intro D' h' F' N' l1; (try k_lt l1); (try k_sweep))
  k_with "subscriptTail Name Slice ref ref" => (k_here; (with_reducible show wpAny _ _ (subscriptTail _ (PySem.Expr.Slice _ _ none _) (Value.ref _) (Value.ref _)) _ _ _); k_dflt (refine' kms_slice_lit ?zzF ?zzN ?zzl ?zzp ?zzq pick_two ?_ ?zzs ?zzt ?zzz; (case zzF | zzN => k_asm); (case zzl => kmk_list); (case zzp | zzq => kmk_part); (case zzs => with_unfolding_all rfl); (case zzt => kmk_pure); (case zzz => assumption)); intro D' h' F' N' l1; (try k_lt l1); (try k_sweep))
  have X0 := X
  revert X0
  k_fill
  intro _
  have hwl : rws.length ≤ 4 := by rw [hW.len]; exact hS1.1
  have hz9 := sizeLine_eq
  have hwz : rws.toArray.size ≤ sizeLine := by rw [List.size_toArray]; omega
  have hbl := hS1.1
  have hwe := hW.len
  have hs9 : (bs.getD (Int.toNat 0) #[]).size + (bs.getD (Int.toNat 1) #[]).size ≤ sizeLine := by have k0 := hS1.at (Int.toNat 0); have k1 := hS1.at (Int.toNat 1); omega
  dsimp only [lawDef, pick3, List.drop, lawEnv, lawTop] at hret ⊢
  refine nExecsCons (nOf ?_)
  k_steps
  all_goals
    rename Fr _ _ _ _ => FZ
    rename News _ _ _ _ => NZ
    dsimp only
  · refine hret ?lo ?ows ?n2 ((bs.getD (Int.toNat 0) #[] ++ bs.getD (Int.toNat 1) #[]) :: bs.drop 2) _ _ _ ?a ?b ?c ?d ?e FZ ?f
    case a => exact hm0
    case b => exact hm1
    case c => rfl
    case f => exact cb_drop NZ (by kcj_all)
    case d => exact ⟨⟨_, rfl⟩, Bys.drop 2 hW⟩
    case e =>
      refine ⟨by rw [List.length_cons, List.length_drop]; omega, ?_⟩
      intro b hb
      cases hb with
      | head => rw [Array.size_append]; have k0 := hS1.at (Int.toNat 0); have k1 := hS1.at (Int.toNat 1); omega
      | tail _ hb => exact Nat.le_trans (hS1.2 b (List.mem_of_mem_drop hb)) (by decide)
  · exact hret lo ows n2 cs _ _ _ hm0 hm1 hm2 hV hS2 FZ NZ
  · exact hret lo ows n2 cs _ _ _ hm0 hm1 hm2 hV hS2 FZ NZ
end Mine
end

section
open PySem PySem.Spec PySem.W PySem.Calls PyProof.Rows
set_option maxRecDepth 100000
set_option maxHeartbeats 4000000
namespace Mine
theorem c_witM {w : World} {mean : ExcName → Option Value} {mg mb : Str → Option Value} {news : List (Addr × Obj)} (l : Addr) (ws : List Value) (n : Nat) (hz : ws.toArray.size ≤ sizeLine) (hm : (l, listOf ws.toArray n) ∈ news)
   (dp un : Nat) (gd : Option (List Code)) (cn : Str) (nms : List (Str × NameKind)) (ig ic : Bool) (mr : List (Str × Const)) (a : Addr) (ccd : Value) (cl : List (Str × Addr)) (outer : List Env) (A₀ : Around) (base h₀ : Heap) (L : Addr) (m : Str → Option Value) (s : Shared) (Q E : Value → Shared → Prop)
   (B : Below A₀ base outer h₀) (F : Fr h₀ L s.heap m) (X : (Mine.hd.heap_39 w.params).In h₀) (N : News h₀ L s.heap news) (T : Top Mine.hd.view_39 LS mean mg mb h₀) 
    (hd : dp + 20 < recursionLimit) (hu : un + 100 < cLine)
    (hret : ∀ z dz ll t1 h' tk', Fr h₀ L h' m → News h₀ L h' ((z, instObj 834 dz) :: (dz, witD w ll t1) :: (ll, listOf ws.toArray 0) :: news) → dz < z → Q (.ref z) { s with heap := h', toks := tk' }) :
      wpAny (model Challenge.rw_bd0009_01.row.prog w) (ktrTop dp un gd cn ⟨.function, nms, ig, ic, mr⟩ L a ccd cl outer) (call (.ref 834) [.ref l]) Q E s := by
  refine c_witness (news := news) l ws n hz dp un gd cn nms ig ic mr a ccd cl outer A₀ base h₀ L m s Q E B F X (cb_drop N ?_) T hd hu ?_
  · intro p hp
    cases hp with
    | head => exact hm
    | tail _ h => exact h
  intro z dz ll t1 h' tk' F' N' _ h0 _
  refine hret z dz ll t1 h' tk' F' (cb_drop N' ?_) h0
  intro p hp
  cases hp with
  | head => exact .head _
  | tail _ h => cases h with
    | head => exact .tail _ (.head _)
    | tail _ h => cases h with
      | head => exact .tail _ (.tail _ (.head _))
      | tail _ h => exact .tail _ (.tail _ (.tail _ (.tail _ h)))
theorem lawF8 {w : World} {mean : ExcName → Option Value} {mg mb : Str → Option Value} (news : List (Addr × Obj)) (l lr lo : Addr) (rws ows : List Value) (n1 n2 : Nat) (hz1 : rws.toArray.size ≤ sizeLine) (hz2 : ows.toArray.size ≤ sizeLine)
   (dp un : Nat) (gd : Option (List Code)) (a : Addr) (ccd : Value) (A₀ : Around) (h₀ : Heap) (L : Addr) (m : Str → Option Value) (s : Shared) (Q : Flow → Shared → Prop) (E : Value → Shared → Prop)
   (B : Below A₀ h₀ [] h₀) (F : Fr h₀ L s.heap m) (X : (Mine.hd.heap_39 w.params).In h₀) (N : News h₀ L s.heap ((lo, listOf ows.toArray n2) :: (lr, listOf rws.toArray n1) :: news)) (T : Top Mine.hd.view_39 LS mean mg mb h₀) 
   (hd : dp + 200 < recursionLimit) (hu : un + 1000 < cLine)
   (hm0 : m (Str.ofString "script") = some (.ref l)) (hm1 : m (Str.ofString "rows") = some (.ref lr)) (hm2 : m (Str.ofString "others") = some (.ref lo))
   (hret : ∀ z1 dz1 ll1 t1 z2 dz2 ll2 t2 m' h' tk', m' (Str.ofString "script") = some (.ref l) → m' (Str.ofString "rows") = some (.ref lr) → m' (Str.ofString "others") = some (.ref lo) → m' (Str.ofString "first") = some (.ref z1) → m' (Str.ofString "second") = some (.ref z2) → dz1 < z1 → dz2 < z2 → Fr h₀ L h' m' → News h₀ L h' ((z2, instObj 834 dz2) :: (dz2, witD w ll2 t2) :: (ll2, listOf ows.toArray 0) :: (z1, instObj 834 dz1) :: (dz1, witD w ll1 t1) :: (ll1, listOf rws.toArray 0) :: (lo, listOf ows.toArray n2) :: (lr, listOf rws.toArray n1) :: news) →
      wpN (model Challenge.rw_bd0009_01.row.prog w) (lawTop dp un gd L a ccd) (execs (lawDef.1.drop 9) (lawEnv L a ccd)) Q E { s with heap := h', toks := tk' }) :
   wpN (model Challenge.rw_bd0009_01.row.prog w) (lawTop dp un gd L a ccd) (execs (lawDef.1.drop 8) (lawEnv L a ccd)) Q E s := by
  k_with_none
  k_with "eval Name" => (k_here; k_dflt (refine' ld ?zzk1 ?zzk2 ?_; (case zzk1 => k_asm); (case zzk2 => first | exact rfl | assumption); k_whole))
  k_with "call ref" => (refine stopAt ?_)
  k_with "call ref" => (k_here; k_dflt ((with_unfolding_all refine' c_witM _ _ _ ?zzp ?zzq _ _ _ _ _ _ _ _ _ _ _ _ _ _ _ _ _ _ _ _ (by k_dflt k_asm) (by k_dflt k_asm) (by k_dflt k_asm) (by k_dflt k_asm) (by k_dflt k_asm) (by k_dflt ktr_room) (by k_dflt ktr_units) ?_); (case zzq => k_mem); (case zzp => assumption); k_whole; intro z' dz' ll' t' h' tk' F' N' lt'; (try k_sweep)))
  have X0 := X
  revert X0
  k_fill
  intro _
  dsimp only [lawDef, pick3, List.drop, lawEnv, lawTop] at hret ⊢
  refine nExecsCons (nOf ?_)
  k_steps
  rename Fr _ _ _ _ => FZ
  rename News _ _ _ _ => NZ
  refine hret ?z1 ?dz1 ?ll1 ?t1 ?z2 ?dz2 ?ll2 ?t2 _ _ _ ?a ?b ?c ?d ?e ?f ?g FZ ?h
  case a => exact hm0
  case b => exact hm1
  case c => exact hm2
  case d => rfl
  case e => rfl
  case h => exact cb_drop NZ (by kcj_all)
  case f => assumption
  case g => assumption
end Mine
end

section
open PySem PySem.Spec PySem.W PySem.Calls PyProof.Rows
set_option maxRecDepth 100000
set_option maxHeartbeats 4000000
namespace Mine
/-- what the law lays for each item -/
def pcs (bs : List (Array UInt8)) : List (Array UInt8) := bs.map fun b => (enc b.size).toArray ++ b
theorem join_pcs : ∀ (bs : List (Array UInt8)), joinBy (pcs bs) = laidBy bs
  | [] => rfl
  | b :: r => by
    show (enc b.size).toArray ++ b ++ joinBy (pcs r) = (enc b.size).toArray ++ b ++ laidBy r
    rw [join_pcs r]
theorem enc_small {n : Nat} (h : n ≤ 10000) : (enc (n : Int)).toArray.size ≤ 9 := by
  rw [List.size_toArray]; exact enc_len (by omega) (by omega)
theorem pcs_at {ws : List Value} {bs : List (Array UInt8)} {z i : Nat} {v : Value} {r : Array UInt8} (hW : Bys ws bs) (hS : Sm z bs) (hz : z ≤ 600) (hv : ws.toArray[i]? = some v) (hr : (pcs bs)[i]? = some r) : ∃ b t, v = .bytes b t ∧ b.size ≤ 600 ∧ r = (enc b.size).toArray ++ b := by
  obtain ⟨b, t, e, hb⟩ := hW.get (by simpa using hv)
  refine ⟨b, t, e, Nat.le_trans (hS.2 b (List.mem_of_getElem? hb)) hz, ?_⟩
  unfold pcs at hr
  rw [List.getElem?_map, hb] at hr
  exact (Option.some.inj hr).symm
theorem by_mJoin {M : Model} {A : Around} {E : Value → Shared → Prop} {s : Shared} {b : Array UInt8} {t : Tok} {pl : Sem Bool} {Q : Value × List Value → Shared → Prop} (h : Q (.builtin "bytes.join", [.bytes b t]) s) :
    wpAny M A (getMethod (.bytes b t) "join" pl) Q E s := by
  with_reducible exact KBd.method_of (.bytes b t) (typeIs_bytes _ _ _) slot_join type_join KBd.noRef h
theorem lawF9 {w : World} {mean : ExcName → Option Value} {mg mb : Str → Option Value} (news : List (Addr × Obj)) (l lr lo z1 z2 : Addr) (rws : List Value) (bs : List (Array UInt8)) (n1 : Nat) (hm : (lr, listOf rws.toArray n1) ∈ news) (hW : Bys rws bs) (hS1 : Sm 300 bs)
   (dp un : Nat) (gd : Option (List Code)) (a : Addr) (ccd : Value) (A₀ : Around) (h₀ : Heap) (L : Addr) (m : Str → Option Value) (s : Shared) (Q : Flow → Shared → Prop) (E : Value → Shared → Prop)
   (B : Below A₀ h₀ [] h₀) (F : Fr h₀ L s.heap m) (X : (Mine.hd.heap_39 w.params).In h₀) (N : News h₀ L s.heap news) (T : Top Mine.hd.view_39 LS mean mg mb h₀) 
   (hd : dp + 200 < recursionLimit) (hu : un + 1000 < cLine)
   (hm0 : m (Str.ofString "script") = some (.ref l)) (hm1 : m (Str.ofString "rows") = some (.ref lr)) (hm2 : m (Str.ofString "others") = some (.ref lo)) (hm3 : m (Str.ofString "first") = some (.ref z1)) (hm4 : m (Str.ofString "second") = some (.ref z2))
   (hret : ∀ t m' h' tk', m' (Str.ofString "script") = some (.ref l) → m' (Str.ofString "rows") = some (.ref lr) → m' (Str.ofString "others") = some (.ref lo) → m' (Str.ofString "first") = some (.ref z1) → m' (Str.ofString "second") = some (.ref z2) → m' (Str.ofString "laid") = some (.bytes ((enc bs.length).toArray ++ laidBy bs) t) → Fr h₀ L h' m' → News h₀ L h' news →
      wpN (model Challenge.rw_bd0009_01.row.prog w) (lawTop dp un gd L a ccd) (execs (lawDef.1.drop 10) (lawEnv L a ccd)) Q E { s with heap := h', toks := tk' }) :
   wpN (model Challenge.rw_bd0009_01.row.prog w) (lawTop dp un gd L a ccd) (execs (lawDef.1.drop 9) (lawEnv L a ccd)) Q E s := by
  k_with_none
  k_with "getMethod bytes" => (with_reducible refine by_mJoin ?_)
  k_with "call builtin:bytes.join" => (k_dflt (refine by_join (by kmk_list) (by assumption) (by assumption) ?_); intro t' k')
  k_with "call builtin:len" => (k_dflt (refine len_bytes (by omega) ?_))
  k_with "call builtin:len" => ((with_reducible show wpAny _ _ (call _ [Value.ref _]) _ _ _); k_dflt (refine len_list (items := List.toArray _) (list_at (by k_asm) (by assumption)) (by omega) ?_))
  k_with "binaryOp Add bytes bytes" => ((try dsimp only); k_dflt (refine KBy.add_bytes (by first | assumption | omega) ?_); intro _ _)
  k_with "eval Name" => (k_here; k_dflt (refine' ld ?zzk1 ?zzk2 ?_; (case zzk1 => k_asm); (case zzk2 => first | exact rfl | assumption); k_whole))
  k_with "call ref" => (refine stopAt ?_)
  k_with "call ref" => (k_here; (with_reducible show wpAny _ _ (call (Value.ref 28) [Value.int _ _]) _ _ _); k_dflt ((with_unfolding_all refine' c_to _ _ ?zzq1 ?zzq2 _ _ _ _ _ _ _ _ _ _ _ _ _ _ _ _ _ _ _ _ (by k_dflt k_asm) (by k_dflt k_asm) (by k_dflt k_asm) (by k_dflt k_asm) (by k_dflt k_asm) (by k_dflt ktr_room) (by k_dflt ktr_units) ?_); (case zzq1 => (first | omega | exact Int.natCast_nonneg _)); (case zzq2 => ((try simp only [List.size_toArray]); omega)); k_whole; intro t' h' tk' F' N'; (try k_sweep)))
  k_with "eval ListComp" => (k_here; k_dflt (refine LCg.ListComp_U (F₀ := by k_asm) (by first | rfl | with_unfolding_all rfl) (by decide) (by rfl) (by decide) (by rfl) ?_))
  k_with "CompSrc" => (k_here; k_dflt (refine LCg.CompSrc.ledger (by rfl) (by k_asm) (by k_asm) (by first | assumption | k_mem) (by assumption) ?_); intro g'; refine' by_rest (pcs _) ?zzkl ?zzkt ?zzkf; (case zzkl => assumption); (case' zzkt => intro i' v' r' I' oI' C' oC' D' m' ys' h' tk' E' hi' hv' hr' hC' hx' F' N' off' ne'; obtain ⟨b9', t9', hv9', hb9', hr9'⟩ := pcs_at (by assumption) (by assumption) (by decide) hv' hr'; have he9' := enc_small (Nat.le_trans hb9' (by decide)); subst hv9'; subst hr9'; (try simp only [LCg.Off3, and_true] at off'); (try dsimp only)); (case' zzkf => intro ys' hy'))
  have X0 := X
  revert X0
  k_fill
  intro _
  have hz9 := sizeLine_eq
  have hwl : rws.length ≤ 4 := by rw [hW.len]; exact hS1.1
  have hsz : rws.toArray.size ≤ sizeLine := by rw [List.size_toArray, sizeLine_eq]; omega
  have hl9 : (pcs bs).length = rws.toArray.size := by rw [List.size_toArray, hW.len]; simp [pcs]
  have ls := laidBy_size bs fun b hb => Nat.le_trans (hS1.2 b hb) (by decide)
  have hbl := hS1.1
  have hj : (joinBy (pcs bs)).size ≤ sizeLine := by rw [join_pcs]; omega
  have he : (enc (rws.toArray.size : Int)).toArray.size ≤ 9 := enc_small (by rw [List.size_toArray]; omega)
  have hsum : (enc (rws.toArray.size : Int)).toArray.size + (joinBy (pcs bs)).size ≤ sizeLine := by rw [join_pcs]; omega
  dsimp only [lawDef, pick3, List.drop, lawEnv, lawTop] at hret ⊢
  refine nExecsCons (nOf ?_)
  k_steps
  case zzkt => exact LCg.CompEnd.intro (by assumption) (by assumption) _ (by kcf_all) (by first | assumption | (simp only [LCg.Off3, and_true]; assumption)) (by lcg_src) (byEl_intro rfl)
  case zzkf =>
    rename Fr _ _ _ _ => FZ
    rename News _ _ _ _ => NZ
    have hlaid : (enc (rws.toArray.size : Int)).toArray ++ joinBy (pcs bs) = (enc (bs.length : Int)).toArray ++ laidBy bs := by
      rw [join_pcs, List.size_toArray, hW.len]
    refine hret ?t _ _ _ ?a ?b ?c ?d ?e ?f FZ ?h
    case a => exact hm0
    case b => exact hm1
    case c => exact hm2
    case d => exact hm3
    case e => exact hm4
    case f => exact congrArg (fun b => some (Value.bytes b _)) hlaid
    case h => exact cb_drop NZ (by first | exact fun _ h => .tail _ h | kcj_all)
end Mine
end

section
open PySem PySem.Spec PySem.W PySem.Calls PyProof.Rows
set_option maxRecDepth 100000
set_option maxHeartbeats 4000000
namespace Mine
/-- the tests of the law's second great `if` -/
noncomputable def bigIf : List Expr := match lawDef.1.drop 10 with | .If (.BoolOp _ es _) _ _ _ :: _ => es | _ => []
theorem sub3 {p1 p2 p3 : Addr × Obj} {news : List (Addr × Obj)} (m1 : p1 ∈ news) (m2 : p2 ∈ news) (m3 : p3 ∈ news) : ∀ p ∈ p1 :: p2 :: p3 :: news, p ∈ news := by
  intro p hp
  cases hp with
  | head => exact m1
  | tail _ h => cases h with
    | head => exact m2
    | tail _ h => cases h with
      | head => exact m3
      | tail _ h => exact h
theorem c_wserM {w : World} {mean : ExcName → Option Value} {mg mb : Str → Option Value} {news : List (Addr × Obj)} (z dz ll : Addr) (u1 : Tok) (ws : List Value) (bs : List (Array UInt8)) (hw : Bys ws bs) (hn : bs.length ≤ 1000) (hbs : ∀ b ∈ bs, b.size ≤ 10000) (h0 : dz < z)
   (m1 : (z, instObj 834 dz) ∈ news) (m2 : (dz, witD w ll u1) ∈ news) (m3 : (ll, listOf ws.toArray 0) ∈ news)
   (dp un : Nat) (gd : Option (List Code)) (cn : Str) (nms : List (Str × NameKind)) (ig ic : Bool) (mr : List (Str × Const)) (a : Addr) (ccd : Value) (cl : List (Str × Addr)) (outer : List Env) (A₀ : Around) (base h₀ : Heap) (L : Addr) (m : Str → Option Value) (s : Shared) (Q E : Value → Shared → Prop)
   (B : Below A₀ base outer h₀) (F : Fr h₀ L s.heap m) (X : (Mine.hd.heap_39 w.params).In h₀) (N : News h₀ L s.heap news) (T : Top Mine.hd.view_39 LS mean mg mb h₀) 
    (hd : dp + 80 < recursionLimit) (hu : un + 400 < cLine)
    (hret : ∀ t h' tk', Fr h₀ L h' m → News h₀ L h' news → Q (.bytes ((enc bs.length).toArray ++ laidBy bs) t) { s with heap := h', toks := tk' }) :
      wpN (model Challenge.rw_bd0009_01.row.prog w) (ktrTop dp un gd cn ⟨.function, nms, ig, ic, mr⟩ L a ccd cl outer) (call (.ref 656) [.ref z]) Q E s := by
  refine c_wser (news := news) z dz ll u1 ws bs hw hn hbs h0 dp un gd cn nms ig ic mr a ccd cl outer A₀ base h₀ L m s Q E B F X (cb_drop N (sub3 m1 m2 m3)) T hd hu ?_
  intro t h' tk' F' N'
  exact hret t h' tk' F' (cb_drop N' fun p hp => .tail _ (.tail _ (.tail _ hp)))
theorem cw_eqM {w : World} {mean : ExcName → Option Value} {mg mb : Str → Option Value} {news : List (Addr × Obj)} (z dz ll : Addr) (u1 : Tok) (ws : List Value) (bs : List (Array UInt8)) (hw : Bys ws bs) (hn : bs.length ≤ 1000) (hbs : ∀ b ∈ bs, b.size ≤ 10000) (h0 : dz < z)
   (z' dz' ll' : Addr) (u1' : Tok) (ws' : List Value) (bs' : List (Array UInt8)) (hw' : Bys ws' bs') (hn' : bs'.length ≤ 1000) (hbs' : ∀ b ∈ bs', b.size ≤ 10000) (h0' : dz' < z')
   (m1 : (z, instObj 834 dz) ∈ news) (m2 : (dz, witD w ll u1) ∈ news) (m3 : (ll, listOf ws.toArray 0) ∈ news)
   (m1' : (z', instObj 834 dz') ∈ news) (m2' : (dz', witD w ll' u1') ∈ news) (m3' : (ll', listOf ws'.toArray 0) ∈ news)
   (dp un : Nat) (gd : Option (List Code)) (cn : Str) (nms : List (Str × NameKind)) (ig ic : Bool) (mr : List (Str × Const)) (a : Addr) (ccd : Value) (cl : List (Str × Addr)) (outer : List Env) (A₀ : Around) (base h₀ : Heap) (L : Addr) (m : Str → Option Value) (s : Shared) (Q E : Value → Shared → Prop)
   (B : Below A₀ base outer h₀) (F : Fr h₀ L s.heap m) (X : (Mine.hd.heap_39 w.params).In h₀) (N : News h₀ L s.heap news) (T : Top Mine.hd.view_39 LS mean mg mb h₀) 
    (hd : dp + 100 < recursionLimit) (hu : un + 500 < cLine)
    (hret : ∀ h' tk', Fr h₀ L h' m → News h₀ L h' news → Q (.bool (decide (bs = bs'))) { s with heap := h', toks := tk' }) :
      wpN (model Challenge.rw_bd0009_01.row.prog w) (ktrTop dp un gd cn ⟨.function, nms, ig, ic, mr⟩ L a ccd cl outer) (call (.ref 687) [.ref z, .ref z']) Q E s := by
  refine cw_eq (news := news) z dz ll u1 ws bs hw hn hbs h0 z' dz' ll' u1' ws' bs' hw' hn' hbs' h0' dp un gd cn nms ig ic mr a ccd cl outer A₀ base h₀ L m s Q E B F X (cb_drop N ?_) T hd hu ?_
  · intro p hp
    exact sub3 m1 m2 m3 p (by
      cases hp with
      | head => exact .head _
      | tail _ h => cases h with
        | head => exact .tail _ (.head _)
        | tail _ h => cases h with
          | head => exact .tail _ (.tail _ (.head _))
          | tail _ h => exact .tail _ (.tail _ (.tail _ (sub3 m1' m2' m3' p h))))
  intro h' tk' F' N'
  rw [ser_inj hn hn' hbs hbs']
  exact hret h' tk' F' (cb_drop N' fun p hp => .tail _ (.tail _ (.tail _ (.tail _ (.tail _ (.tail _ hp))))))
end Mine
end

section
open PySem PySem.Spec PySem.W PySem.Calls PyProof.Rows
set_option maxRecDepth 100000
set_option maxHeartbeats 4000000
namespace Mine
theorem lawC0 {w : World} {mean : ExcName → Option Value} {mg mb : Str → Option Value} {news : List (Addr × Obj)} {l lr lo z1 dz1 ll1 z2 dz2 ll2 : Addr} {t1 t2 tl : Tok} {rws ows : List Value} {bs cs : List (Array UInt8)} {n1 n2 : Nat} (hW : Bys rws bs) (hV : Bys ows cs) (hS1 : Sm 300 bs) (hS2 : Sm 600 cs) (i1 : dz1 < z1) (i2 : dz2 < z2)
   {dp un : Nat} {gd : Option (List Code)} {a : Addr} {ccd : Value} {A₀ : Around} {h₀ : Heap} {L : Addr} {m : Str → Option Value} {s : Shared} {Q : Bool → Shared → Prop} {E : Value → Shared → Prop}
   (B : Below A₀ h₀ [] h₀) (F : Fr h₀ L s.heap m) (X : (Mine.hd.heap_39 w.params).In h₀) (N : News h₀ L s.heap ((z2, instObj 834 dz2) :: (dz2, witD w ll2 t2) :: (ll2, listOf ows.toArray 0) :: (z1, instObj 834 dz1) :: (dz1, witD w ll1 t1) :: (ll1, listOf rws.toArray 0) :: (lo, listOf ows.toArray n2) :: (lr, listOf rws.toArray n1) :: news)) (T : Top Mine.hd.view_39 LS mean mg mb h₀) 
   (hd : dp + 200 < recursionLimit) (hu : un + 1000 < cLine)
   (hm1 : m (Str.ofString "rows") = some (.ref lr)) (hm2 : m (Str.ofString "others") = some (.ref lo)) (hm3 : m (Str.ofString "first") = some (.ref z1)) (hm4 : m (Str.ofString "second") = some (.ref z2)) (hm5 : m (Str.ofString "laid") = some (.bytes ((enc bs.length).toArray ++ laidBy bs) tl))
   (hret : ∀ h' tk', Fr h₀ L h' m → News h₀ L h' ((z2, instObj 834 dz2) :: (dz2, witD w ll2 t2) :: (ll2, listOf ows.toArray 0) :: (z1, instObj 834 dz1) :: (dz1, witD w ll1 t1) :: (ll1, listOf rws.toArray 0) :: (lo, listOf ows.toArray n2) :: (lr, listOf rws.toArray n1) :: news) → Q false { s with heap := h', toks := tk' }) :
   wpN (model Challenge.rw_bd0009_01.row.prog w) (lawTop dp un gd L a ccd) (isTrue (bigIf.getD 0 (.Name (Str.ofString "x") ⟨0,0,0,0⟩)) (lawEnv L a ccd) (eval (bigIf.getD 0 (.Name (Str.ofString "x") ⟨0,0,0,0⟩)) (lawEnv L a ccd))) Q E s := by
  k_with_none
  k_with "eval Name" => (k_here; k_dflt (refine' ld ?zzk1 ?zzk2 ?_; (case zzk1 => k_asm); (case zzk2 => first | exact rfl | assumption); k_whole))
  k_with "call ref" => (refine stopAt ?_)
  have X0 := X
  revert X0
  k_fill
  intro _
  have hz9 := sizeLine_eq
  have hb1 : bs.length ≤ 1000 := Nat.le_trans hS1.1 (by decide)
  have hb2 : ∀ b ∈ bs, b.size ≤ 10000 := fun b h => Nat.le_trans (hS1.2 b h) (by decide)
  have hc1 : cs.length ≤ 1000 := Nat.le_trans hS2.1 (by decide)
  have hc2 : ∀ b ∈ cs, b.size ≤ 10000 := fun b h => Nat.le_trans (hS2.2 b h) (by decide)
  dsimp only [bigIf, lawDef, pick3, List.drop, lawEnv, lawTop, List.getD, List.getElem?_cons_zero, List.getElem?_cons_succ, Option.getD]
  refine nIsCmp (nCallAttr ?_)
  k_steps
  refine nCallW0 ?_
  refine Kp.of .frame (Looks.of_peek (by k_in) (pk_keepSer _ _)) ?_
  refine' c_wserM z1 dz1 ll1 t1 rws bs hW hb1 hb2 i1 ?m1 ?m2 ?m3 _ _ _ _ _ _ _ _ _ _ _ _ _ _ _ _ _ _ _ _ ?B ?F ?X ?N ?T ?hd ?hu ?_
  case B => k_asm
  case F => k_asm
  case X => k_asm
  case N => k_asm
  case T => k_asm
  case m1 => k_mem
  case m2 => k_mem
  case m3 => k_mem
  case hd => ktr_room
  case hu => ktr_units
  intro t' h' tk' F' N'
  (try k_sweep)
  refine nOf ?_
  k_steps
  refine nOf ?_
  k_steps
  rw [bne_self_eq_false]
  exact hret _ _ (by k_asm) (by k_asm)
end Mine
end

section
open PySem PySem.Spec PySem.W PySem.Calls PyProof.Rows
set_option maxRecDepth 100000
set_option maxHeartbeats 4000000
namespace Mine
theorem lawC1 {w : World} {mean : ExcName → Option Value} {mg mb : Str → Option Value} {news : List (Addr × Obj)} {l lr lo z1 dz1 ll1 z2 dz2 ll2 : Addr} {t1 t2 tl : Tok} {rws ows : List Value} {bs cs : List (Array UInt8)} {n1 n2 : Nat} (hW : Bys rws bs) (hV : Bys ows cs) (hS1 : Sm 300 bs) (hS2 : Sm 600 cs) (i1 : dz1 < z1) (i2 : dz2 < z2)
   {dp un : Nat} {gd : Option (List Code)} {a : Addr} {ccd : Value} {A₀ : Around} {h₀ : Heap} {L : Addr} {m : Str → Option Value} {s : Shared} {Q : Bool → Shared → Prop} {E : Value → Shared → Prop}
   (B : Below A₀ h₀ [] h₀) (F : Fr h₀ L s.heap m) (X : (Mine.hd.heap_39 w.params).In h₀) (N : News h₀ L s.heap ((z2, instObj 834 dz2) :: (dz2, witD w ll2 t2) :: (ll2, listOf ows.toArray 0) :: (z1, instObj 834 dz1) :: (dz1, witD w ll1 t1) :: (ll1, listOf rws.toArray 0) :: (lo, listOf ows.toArray n2) :: (lr, listOf rws.toArray n1) :: news)) (T : Top Mine.hd.view_39 LS mean mg mb h₀) 
   (hd : dp + 200 < recursionLimit) (hu : un + 1000 < cLine)
   (hm1 : m (Str.ofString "rows") = some (.ref lr)) (hm2 : m (Str.ofString "others") = some (.ref lo)) (hm3 : m (Str.ofString "first") = some (.ref z1)) (hm4 : m (Str.ofString "second") = some (.ref z2)) (hm5 : m (Str.ofString "laid") = some (.bytes ((enc bs.length).toArray ++ laidBy bs) tl))
   (hret : ∀ h' tk', Fr h₀ L h' m → News h₀ L h' ((z2, instObj 834 dz2) :: (dz2, witD w ll2 t2) :: (ll2, listOf ows.toArray 0) :: (z1, instObj 834 dz1) :: (dz1, witD w ll1 t1) :: (ll1, listOf rws.toArray 0) :: (lo, listOf ows.toArray n2) :: (lr, listOf rws.toArray n1) :: news) → Q false { s with heap := h', toks := tk' }) :
   wpN (model Challenge.rw_bd0009_01.row.prog w) (lawTop dp un gd L a ccd) (isTrue (bigIf.getD 1 (.Name (Str.ofString "x") ⟨0,0,0,0⟩)) (lawEnv L a ccd) (eval (bigIf.getD 1 (.Name (Str.ofString "x") ⟨0,0,0,0⟩)) (lawEnv L a ccd))) Q E s := by
  k_with_none
  k_with "eval Name" => (k_here; k_dflt (refine' ld ?zzk1 ?zzk2 ?_; (case zzk1 => k_asm); (case zzk2 => first | exact rfl | assumption); k_whole))
  k_with "call ref" => (refine stopAt ?_)
  k_with "compareOp NotEq ref ref" => (k_here; k_dflt (refine' by_neL ?zzg1 ?zzg2 ?zzh1 ?zzh2 ?zzu ?_; (case zzg1 => exact newsAt (by k_asm) (by k_mem)); (case zzg2 => exact newsAt (by k_asm) (by k_mem)); (case zzh1 | zzh2 => assumption); (case zzu => ktr_units)))
  k_with "compareOp Eq ref ref" => (k_here; k_dflt (refine' by_eqL ?zzg1 ?zzg2 ?zzh1 ?zzh2 ?zzu ?_; (case zzg1 => exact newsAt (by k_asm) (by k_mem)); (case zzg2 => exact newsAt (by k_asm) (by k_mem)); (case zzh1 | zzh2 => assumption); (case zzu => ktr_units)))
  have X0 := X
  revert X0
  k_fill
  intro _
  have hz9 := sizeLine_eq
  have hb1 : bs.length ≤ 1000 := Nat.le_trans hS1.1 (by decide)
  have hb2 : ∀ b ∈ bs, b.size ≤ 10000 := fun b h => Nat.le_trans (hS1.2 b h) (by decide)
  have hc1 : cs.length ≤ 1000 := Nat.le_trans hS2.1 (by decide)
  have hc2 : ∀ b ∈ cs, b.size ≤ 10000 := fun b h => Nat.le_trans (hS2.2 b h) (by decide)
  dsimp only [bigIf, lawDef, pick3, List.drop, lawEnv, lawTop, List.getD, List.getElem?_cons_zero, List.getElem?_cons_succ, Option.getD]
  have i1' : @LT.lt Nat _ 0 z1 := by
    have i9 : @LT.lt Nat _ dz1 z1 := i1
    omega
  refine nIsCmp (nAttr (nCallAttr ?_))
  k_steps
  refine nCallW ?_
  k_steps
  refine Kp.of .boundFrame (lk_method (newsAt (by k_asm) (by k_mem)) ((show Frag.In _ _ by k_in) 639 _ rfl) rfl) ?_
  refine nMethod (newsAt (by k_asm) (by k_mem)) ?_
  refine' cw_parse _ bs _ hb1 hb2 rfl z1 (instObj 834 dz1) ?hq i1' _ _ _ _ _ _ _ _ _ _ _ _ _ _ _ _ _ _ _ _ ?B ?F ?X ?N ?T ?hd ?hu ?_
  case B => k_asm
  case F => k_asm
  case X => k_asm
  case N => k_asm
  case T => k_asm
  case hq => k_mem
  case hd => ktr_room
  case hu => ktr_units
  intro z dz ll u1 ws h' tk' hw F' N' l7 l8 l9
  (try k_sweep)
  obtain ⟨l7a, l7b⟩ := l7
  replace l7a := ltN l7a
  replace l8 := ltN l8
  replace l9 := ltN l9
  k_steps
  refine wpAny_letTemporaryGo ?_
  refine nOf ?_
  k_steps
  refine nOf ?_
  k_steps
  rw [show (!decide (bs = bs)) = false by simp]
  exact hret _ _ (by k_asm) (cb_drop (by assumption) (by kcj_all))
end Mine
end

section
open PySem PySem.Spec PySem.W PySem.Calls PyProof.Rows
set_option maxRecDepth 100000
set_option maxHeartbeats 4000000
namespace Mine
theorem lawC2 {w : World} {mean : ExcName → Option Value} {mg mb : Str → Option Value} {news : List (Addr × Obj)} {l lr lo z1 dz1 ll1 z2 dz2 ll2 : Addr} {t1 t2 tl : Tok} {rws ows : List Value} {bs cs : List (Array UInt8)} {n1 n2 : Nat} (hW : Bys rws bs) (hV : Bys ows cs) (hS1 : Sm 300 bs) (hS2 : Sm 600 cs) (i1 : dz1 < z1) (i2 : dz2 < z2)
   {dp un : Nat} {gd : Option (List Code)} {a : Addr} {ccd : Value} {A₀ : Around} {h₀ : Heap} {L : Addr} {m : Str → Option Value} {s : Shared} {Q : Bool → Shared → Prop} {E : Value → Shared → Prop}
   (B : Below A₀ h₀ [] h₀) (F : Fr h₀ L s.heap m) (X : (Mine.hd.heap_39 w.params).In h₀) (N : News h₀ L s.heap ((z2, instObj 834 dz2) :: (dz2, witD w ll2 t2) :: (ll2, listOf ows.toArray 0) :: (z1, instObj 834 dz1) :: (dz1, witD w ll1 t1) :: (ll1, listOf rws.toArray 0) :: (lo, listOf ows.toArray n2) :: (lr, listOf rws.toArray n1) :: news)) (T : Top Mine.hd.view_39 LS mean mg mb h₀) 
   (hd : dp + 200 < recursionLimit) (hu : un + 1000 < cLine)
   (hm1 : m (Str.ofString "rows") = some (.ref lr)) (hm2 : m (Str.ofString "others") = some (.ref lo)) (hm3 : m (Str.ofString "first") = some (.ref z1)) (hm4 : m (Str.ofString "second") = some (.ref z2)) (hm5 : m (Str.ofString "laid") = some (.bytes ((enc bs.length).toArray ++ laidBy bs) tl))
   (hret : ∀ h' tk', Fr h₀ L h' m → News h₀ L h' ((z2, instObj 834 dz2) :: (dz2, witD w ll2 t2) :: (ll2, listOf ows.toArray 0) :: (z1, instObj 834 dz1) :: (dz1, witD w ll1 t1) :: (ll1, listOf rws.toArray 0) :: (lo, listOf ows.toArray n2) :: (lr, listOf rws.toArray n1) :: news) → Q false { s with heap := h', toks := tk' }) :
   wpN (model Challenge.rw_bd0009_01.row.prog w) (lawTop dp un gd L a ccd) (isTrue (bigIf.getD 2 (.Name (Str.ofString "x") ⟨0,0,0,0⟩)) (lawEnv L a ccd) (eval (bigIf.getD 2 (.Name (Str.ofString "x") ⟨0,0,0,0⟩)) (lawEnv L a ccd))) Q E s := by
  k_with_none
  k_with "eval Name" => (k_here; k_dflt (refine' ld ?zzk1 ?zzk2 ?_; (case zzk1 => k_asm); (case zzk2 => first | exact rfl | assumption); k_whole))
  k_with "call ref" => (refine stopAt ?_)
  k_with "compareOp NotEq ref ref" => (k_here; k_dflt (refine' by_neL ?zzg1 ?zzg2 ?zzh1 ?zzh2 ?zzu ?_; (case zzg1 => exact newsAt (by k_asm) (by k_mem)); (case zzg2 => exact newsAt (by k_asm) (by k_mem)); (case zzh1 | zzh2 => assumption); (case zzu => ktr_units)))
  k_with "compareOp Eq ref ref" => (k_here; k_dflt (refine' by_eqL ?zzg1 ?zzg2 ?zzh1 ?zzh2 ?zzu ?_; (case zzg1 => exact newsAt (by k_asm) (by k_mem)); (case zzg2 => exact newsAt (by k_asm) (by k_mem)); (case zzh1 | zzh2 => assumption); (case zzu => ktr_units)))
  have X0 := X
  revert X0
  k_fill
  intro _
  have hz9 := sizeLine_eq
  have hb1 : bs.length ≤ 1000 := Nat.le_trans hS1.1 (by decide)
  have hb2 : ∀ b ∈ bs, b.size ≤ 10000 := fun b h => Nat.le_trans (hS1.2 b h) (by decide)
  have hc1 : cs.length ≤ 1000 := Nat.le_trans hS2.1 (by decide)
  have hc2 : ∀ b ∈ cs, b.size ≤ 10000 := fun b h => Nat.le_trans (hS2.2 b h) (by decide)
  dsimp only [bigIf, lawDef, pick3, List.drop, lawEnv, lawTop, List.getD, List.getElem?_cons_zero, List.getElem?_cons_succ, Option.getD]
  refine nIsCmp (nCmpV (nCallAttr ?_))
  k_steps
  refine nCallW0 ?_
  refine Kp.of .frame (Looks.of_peek (by k_in) (pk_keepSer _ _)) ?_
  refine' c_wserM z1 dz1 ll1 t1 rws bs hW hb1 hb2 i1 ?m1 ?m2 ?m3 _ _ _ _ _ _ _ _ _ _ _ _ _ _ _ _ _ _ _ _ ?B ?F ?X ?N ?T ?hd ?hu ?_
  case B => k_asm
  case F => k_asm
  case X => k_asm
  case N => k_asm
  case T => k_asm
  case m1 => k_mem
  case m2 => k_mem
  case m3 => k_mem
  case hd => ktr_room
  case hu => ktr_units
  intro t' h' tk' F' N'
  (try k_sweep)
  refine nCallAttr ?_
  k_steps
  refine nCallW0 ?_
  refine Kp.of .frame (Looks.of_peek (by k_in) (pk_keepSer _ _)) ?_
  refine' c_wserM z2 dz2 ll2 t2 ows cs hV hc1 hc2 i2 ?m1 ?m2 ?m3 _ _ _ _ _ _ _ _ _ _ _ _ _ _ _ _ _ _ _ _ ?B ?F ?X ?N ?T ?hd ?hu ?_
  case B => k_asm
  case F => k_asm
  case X => k_asm
  case N => k_asm
  case T => k_asm
  case m1 => k_mem
  case m2 => k_mem
  case m3 => k_mem
  case hd => ktr_room
  case hu => ktr_units
  intro t' h' tk' F' N'
  (try k_sweep)
  refine nOf ?_
  k_steps
  refine nOf ?_
  k_steps
  refine nOf ?_
  k_steps
  rw [ser_inj hb1 hc1 hb2 hc2, bne_self_eq_false]
  exact hret _ _ (by k_asm) (by k_asm)
end Mine
end

section
open PySem PySem.Spec PySem.W PySem.Calls PyProof.Rows
set_option maxRecDepth 100000
set_option maxHeartbeats 4000000
namespace Mine
theorem lawC3 {w : World} {mean : ExcName → Option Value} {mg mb : Str → Option Value} {news : List (Addr × Obj)} {l lr lo z1 dz1 ll1 z2 dz2 ll2 : Addr} {t1 t2 tl : Tok} {rws ows : List Value} {bs cs : List (Array UInt8)} {n1 n2 : Nat} (hW : Bys rws bs) (hV : Bys ows cs) (hS1 : Sm 300 bs) (hS2 : Sm 600 cs) (i1 : dz1 < z1) (i2 : dz2 < z2)
   {dp un : Nat} {gd : Option (List Code)} {a : Addr} {ccd : Value} {A₀ : Around} {h₀ : Heap} {L : Addr} {m : Str → Option Value} {s : Shared} {Q : Bool → Shared → Prop} {E : Value → Shared → Prop}
   (B : Below A₀ h₀ [] h₀) (F : Fr h₀ L s.heap m) (X : (Mine.hd.heap_39 w.params).In h₀) (N : News h₀ L s.heap ((z2, instObj 834 dz2) :: (dz2, witD w ll2 t2) :: (ll2, listOf ows.toArray 0) :: (z1, instObj 834 dz1) :: (dz1, witD w ll1 t1) :: (ll1, listOf rws.toArray 0) :: (lo, listOf ows.toArray n2) :: (lr, listOf rws.toArray n1) :: news)) (T : Top Mine.hd.view_39 LS mean mg mb h₀) 
   (hd : dp + 200 < recursionLimit) (hu : un + 1000 < cLine)
   (hm1 : m (Str.ofString "rows") = some (.ref lr)) (hm2 : m (Str.ofString "others") = some (.ref lo)) (hm3 : m (Str.ofString "first") = some (.ref z1)) (hm4 : m (Str.ofString "second") = some (.ref z2)) (hm5 : m (Str.ofString "laid") = some (.bytes ((enc bs.length).toArray ++ laidBy bs) tl))
   (hret : ∀ h' tk', Fr h₀ L h' m → News h₀ L h' ((z2, instObj 834 dz2) :: (dz2, witD w ll2 t2) :: (ll2, listOf ows.toArray 0) :: (z1, instObj 834 dz1) :: (dz1, witD w ll1 t1) :: (ll1, listOf rws.toArray 0) :: (lo, listOf ows.toArray n2) :: (lr, listOf rws.toArray n1) :: news) → Q false { s with heap := h', toks := tk' }) :
   wpN (model Challenge.rw_bd0009_01.row.prog w) (lawTop dp un gd L a ccd) (isTrue (bigIf.getD 3 (.Name (Str.ofString "x") ⟨0,0,0,0⟩)) (lawEnv L a ccd) (eval (bigIf.getD 3 (.Name (Str.ofString "x") ⟨0,0,0,0⟩)) (lawEnv L a ccd))) Q E s := by
  k_with_none
  k_with "eval Name" => (k_here; k_dflt (refine' ld ?zzk1 ?zzk2 ?_; (case zzk1 => k_asm); (case zzk2 => first | exact rfl | assumption); k_whole))
  k_with "call ref" => (refine stopAt ?_)
  k_with "compareOp NotEq ref ref" => (k_here; k_dflt (refine' by_neL ?zzg1 ?zzg2 ?zzh1 ?zzh2 ?zzu ?_; (case zzg1 => exact newsAt (by k_asm) (by k_mem)); (case zzg2 => exact newsAt (by k_asm) (by k_mem)); (case zzh1 | zzh2 => assumption); (case zzu => ktr_units)))
  k_with "compareOp Eq ref ref" => (k_here; k_dflt (refine' by_eqL ?zzg1 ?zzg2 ?zzh1 ?zzh2 ?zzu ?_; (case zzg1 => exact newsAt (by k_asm) (by k_mem)); (case zzg2 => exact newsAt (by k_asm) (by k_mem)); (case zzh1 | zzh2 => assumption); (case zzu => ktr_units)))
  have X0 := X
  revert X0
  k_fill
  intro _
  have hz9 := sizeLine_eq
  have hb1 : bs.length ≤ 1000 := Nat.le_trans hS1.1 (by decide)
  have hb2 : ∀ b ∈ bs, b.size ≤ 10000 := fun b h => Nat.le_trans (hS1.2 b h) (by decide)
  have hc1 : cs.length ≤ 1000 := Nat.le_trans hS2.1 (by decide)
  have hc2 : ∀ b ∈ cs, b.size ≤ 10000 := fun b h => Nat.le_trans (hS2.2 b h) (by decide)
  dsimp only [bigIf, lawDef, pick3, List.drop, lawEnv, lawTop, List.getD, List.getElem?_cons_zero, List.getElem?_cons_succ, Option.getD]
  refine nIsCmp (nCmpV (nOf ?_))
  k_steps
  refine nOf ?_
  k_steps
  with_unfolding_all refine' (nRich (op := .Eq) ?k1 ?k2 ?k3 ?k4 ?k5 ?k6 ?k7 ?k8 ?_)
  case k1 => ktr_units
  case k2 => k_asm
  case k3 => k_asm
  case k4 => k_inst
  case k5 => k_typeOf
  case k6 => k_is
  case k7 => k_is
  case k8 => k_is
  refine' cw_eqM z1 dz1 ll1 t1 rws bs hW hb1 hb2 i1 z2 dz2 ll2 t2 ows cs hV hc1 hc2 i2 ?m1 ?m2 ?m3 ?m4 ?m5 ?m6 _ _ _ _ _ _ _ _ _ _ _ _ _ _ _ _ _ _ _ _ ?B ?F ?X ?N ?T ?hd ?hu ?_
  case B => k_asm
  case F => k_asm
  case X => k_asm
  case N => k_asm
  case T => k_asm
  case m1 => k_mem
  case m2 => k_mem
  case m3 => k_mem
  case m4 => k_mem
  case m5 => k_mem
  case m6 => k_mem
  case hd => ktr_room
  case hu => ktr_units
  intro h' tk' F' N'
  (try k_sweep)
  show wpN _ _ _ _ _ _
  refine nOf ?_
  k_steps
  refine nOf ?_
  k_steps
  rw [bne_self_eq_false]
  exact hret _ _ (by k_asm) (by k_asm)
end Mine
end

section
open PySem PySem.Spec PySem.W PySem.Calls PyProof.Rows
set_option maxRecDepth 100000
set_option maxHeartbeats 4000000
namespace Mine
theorem lawC4 {w : World} {mean : ExcName → Option Value} {mg mb : Str → Option Value} {news : List (Addr × Obj)} {l lr lo z1 dz1 ll1 z2 dz2 ll2 : Addr} {t1 t2 tl : Tok} {rws ows : List Value} {bs cs : List (Array UInt8)} {n1 n2 : Nat} (hW : Bys rws bs) (hV : Bys ows cs) (hS1 : Sm 300 bs) (hS2 : Sm 600 cs) (i1 : dz1 < z1) (i2 : dz2 < z2)
   {dp un : Nat} {gd : Option (List Code)} {a : Addr} {ccd : Value} {A₀ : Around} {h₀ : Heap} {L : Addr} {m : Str → Option Value} {s : Shared} {Q : Bool → Shared → Prop} {E : Value → Shared → Prop}
   (B : Below A₀ h₀ [] h₀) (F : Fr h₀ L s.heap m) (X : (Mine.hd.heap_39 w.params).In h₀) (N : News h₀ L s.heap ((z2, instObj 834 dz2) :: (dz2, witD w ll2 t2) :: (ll2, listOf ows.toArray 0) :: (z1, instObj 834 dz1) :: (dz1, witD w ll1 t1) :: (ll1, listOf rws.toArray 0) :: (lo, listOf ows.toArray n2) :: (lr, listOf rws.toArray n1) :: news)) (T : Top Mine.hd.view_39 LS mean mg mb h₀) 
   (hd : dp + 200 < recursionLimit) (hu : un + 1000 < cLine)
   (hm1 : m (Str.ofString "rows") = some (.ref lr)) (hm2 : m (Str.ofString "others") = some (.ref lo)) (hm3 : m (Str.ofString "first") = some (.ref z1)) (hm4 : m (Str.ofString "second") = some (.ref z2)) (hm5 : m (Str.ofString "laid") = some (.bytes ((enc bs.length).toArray ++ laidBy bs) tl))
   (hret : ∀ h' tk', Fr h₀ L h' m → News h₀ L h' ((z2, instObj 834 dz2) :: (dz2, witD w ll2 t2) :: (ll2, listOf ows.toArray 0) :: (z1, instObj 834 dz1) :: (dz1, witD w ll1 t1) :: (ll1, listOf rws.toArray 0) :: (lo, listOf ows.toArray n2) :: (lr, listOf rws.toArray n1) :: news) → Q false { s with heap := h', toks := tk' }) :
   wpN (model Challenge.rw_bd0009_01.row.prog w) (lawTop dp un gd L a ccd) (isTrue (bigIf.getD 4 (.Name (Str.ofString "x") ⟨0,0,0,0⟩)) (lawEnv L a ccd) (eval (bigIf.getD 4 (.Name (Str.ofString "x") ⟨0,0,0,0⟩)) (lawEnv L a ccd))) Q E s := by
  k_with_none
  k_with "eval Name" => (k_here; k_dflt (refine' ld ?zzk1 ?zzk2 ?_; (case zzk1 => k_asm); (case zzk2 => first | exact rfl | assumption); k_whole))
  k_with "compareOp NotEq ref ref" => (k_here; k_dflt (refine' by_neL ?zzg1 ?zzg2 ?zzh1 ?zzh2 ?zzu ?_; (case zzg1 => exact newsAt (by k_asm) (by k_mem)); (case zzg2 => exact newsAt (by k_asm) (by k_mem)); (case zzh1 | zzh2 => assumption); (case zzu => ktr_units)))
  k_with "compareOp Eq ref ref" => (k_here; k_dflt (refine' by_eqL ?zzg1 ?zzg2 ?zzh1 ?zzh2 ?zzu ?_; (case zzg1 => exact newsAt (by k_asm) (by k_mem)); (case zzg2 => exact newsAt (by k_asm) (by k_mem)); (case zzh1 | zzh2 => assumption); (case zzu => ktr_units)))
  k_with "call builtin:len" => ((with_reducible show wpAny _ _ (call _ [Value.ref _]) _ _ _); k_dflt (refine len_list (items := List.toArray _) (by kmk_list) (by omega) ?_))
  have X0 := X
  revert X0
  k_fill
  intro _
  have hz9 := sizeLine_eq
  have hb1 : bs.length ≤ 1000 := Nat.le_trans hS1.1 (by decide)
  have hb2 : ∀ b ∈ bs, b.size ≤ 10000 := fun b h => Nat.le_trans (hS1.2 b h) (by decide)
  have hc1 : cs.length ≤ 1000 := Nat.le_trans hS2.1 (by decide)
  have hc2 : ∀ b ∈ cs, b.size ≤ 10000 := fun b h => Nat.le_trans (hS2.2 b h) (by decide)
  dsimp only [bigIf, lawDef, pick3, List.drop, lawEnv, lawTop, List.getD, List.getElem?_cons_zero, List.getElem?_cons_succ, Option.getD]
  have hsz1 : rws.toArray.size ≤ 1000 := by rw [List.size_toArray, hW.len]; exact hb1
  refine nIsCmp (nOf ?_)
  k_steps
  refine nOf ?_
  k_steps
  refine nOf ?_
  k_steps
  rw [bne_self_eq_false]
  exact hret _ _ (by k_asm) (cb_drop (by assumption) (by kcj_all))
end Mine
end

section
open PySem PySem.Spec PySem.W PySem.Calls PyProof.Rows
set_option maxRecDepth 100000
set_option maxHeartbeats 4000000
namespace Mine
theorem lawF10 {w : World} {mean : ExcName → Option Value} {mg mb : Str → Option Value} {news : List (Addr × Obj)} {l lr lo z1 dz1 ll1 z2 dz2 ll2 : Addr} {t1 t2 tl : Tok} {rws ows : List Value} {bs cs : List (Array UInt8)} {n1 n2 : Nat} (hW : Bys rws bs) (hV : Bys ows cs) (hS1 : Sm 300 bs) (hS2 : Sm 600 cs) (i1 : dz1 < z1) (i2 : dz2 < z2)
   {dp un : Nat} {gd : Option (List Code)} {a : Addr} {ccd : Value} {A₀ : Around} {h₀ : Heap} {L : Addr} {m : Str → Option Value} {s : Shared} {Q : Flow → Shared → Prop} {E : Value → Shared → Prop}
   (B : Below A₀ h₀ [] h₀) (F : Fr h₀ L s.heap m) (X : (Mine.hd.heap_39 w.params).In h₀) (N : News h₀ L s.heap ((z2, instObj 834 dz2) :: (dz2, witD w ll2 t2) :: (ll2, listOf ows.toArray 0) :: (z1, instObj 834 dz1) :: (dz1, witD w ll1 t1) :: (ll1, listOf rws.toArray 0) :: (lo, listOf ows.toArray n2) :: (lr, listOf rws.toArray n1) :: news)) (T : Top Mine.hd.view_39 LS mean mg mb h₀) 
   (hd : dp + 200 < recursionLimit) (hu : un + 1000 < cLine)
   (hm1 : m (Str.ofString "rows") = some (.ref lr)) (hm2 : m (Str.ofString "others") = some (.ref lo)) (hm3 : m (Str.ofString "first") = some (.ref z1)) (hm4 : m (Str.ofString "second") = some (.ref z2)) (hm5 : m (Str.ofString "laid") = some (.bytes ((enc bs.length).toArray ++ laidBy bs) tl))
   (hret : ∀ h' tk', Fr h₀ L h' m → News h₀ L h' ((z2, instObj 834 dz2) :: (dz2, witD w ll2 t2) :: (ll2, listOf ows.toArray 0) :: (z1, instObj 834 dz1) :: (dz1, witD w ll1 t1) :: (ll1, listOf rws.toArray 0) :: (lo, listOf ows.toArray n2) :: (lr, listOf rws.toArray n1) :: news) → 
      wpN (model Challenge.rw_bd0009_01.row.prog w) (lawTop dp un gd L a ccd) (execs (lawDef.1.drop 11) (lawEnv L a ccd)) Q E { s with heap := h', toks := tk' }) :
   wpN (model Challenge.rw_bd0009_01.row.prog w) (lawTop dp un gd L a ccd) (execs (lawDef.1.drop 10) (lawEnv L a ccd)) Q E s := by
  refine nExecsCons (nIf (nIsOr ?_))
  refine lawC0 (l := l) (news := news) hW hV hS1 hS2 i1 i2 B F X N T hd hu hm1 hm2 hm3 hm4 hm5 ?_
  intro h0 k0 F0 N0
  refine nIsOr ?_
  refine lawC1 (l := l) (news := news) hW hV hS1 hS2 i1 i2 B F0 X N0 T hd hu hm1 hm2 hm3 hm4 hm5 ?_
  intro h1 k1 F1 N1
  refine nIsOr ?_
  refine lawC2 (l := l) (news := news) hW hV hS1 hS2 i1 i2 B F1 X N1 T hd hu hm1 hm2 hm3 hm4 hm5 ?_
  intro h2 k2 F2 N2
  refine nIsOr ?_
  refine lawC3 (l := l) (news := news) hW hV hS1 hS2 i1 i2 B F2 X N2 T hd hu hm1 hm2 hm3 hm4 hm5 ?_
  intro h3 k3 F3 N3
  refine nIsOr ?_
  refine lawC4 (l := l) (news := news) hW hV hS1 hS2 i1 i2 B F3 X N3 T hd hu hm1 hm2 hm3 hm4 hm5 ?_
  intro h4 k4 F4 N4
  refine nIsOrNil ?_
  refine nExecsNil ?_
  exact hret _ _ F4 N4
end Mine
end

section
open PySem PySem.Spec PySem.W PySem.Calls PyProof.Rows
set_option maxRecDepth 100000
set_option maxHeartbeats 4000000
namespace Mine
theorem joinBy_le {z : Nat} : ∀ {bs : List (Array UInt8)}, (∀ b ∈ bs, b.size ≤ z) → (joinBy bs).size ≤ bs.length * z
  | [], _ => Nat.zero_le _
  | b :: r, h => by
    have h1 := h b (.head _)
    have h2 := joinBy_le (bs := r) fun q hq => h q (.tail _ hq)
    simp only [joinBy, Array.size_append, List.length_cons, Nat.succ_mul]
    omega
theorem lawG11 {w : World} {mean : ExcName → Option Value} {mg mb : Str → Option Value} {news : List (Addr × Obj)} {l : Addr} {sv : List Value} {ns : List Int} (hIs : IntsAre sv ns) (hNs : ns.length < 2 ^ 62) (hbits : BitsOK ns)
   {dp un : Nat} {gd : Option (List Code)} {a : Addr} {ccd : Value} {A₀ : Around} {h₀ : Heap} {L : Addr} {m : Str → Option Value} {s : Shared} {Q : Flow → Shared → Prop} {E : Value → Shared → Prop}
   (hl : h₀.IsList l sv.toArray) 
   (B : Below A₀ h₀ [] h₀) (F : Fr h₀ L s.heap m) (X : (Mine.hd.heap_39 w.params).In h₀) (N : News h₀ L s.heap news) (T : Top Mine.hd.view_39 LS mean mg mb h₀) 
   (hd : dp + 200 < recursionLimit) (hu : un + 1000 < cLine)
   (hm0 : m (Str.ofString "script") = some (.ref l)) {lr : Addr} {rws : List Value} {bs : List (Array UInt8)} {n1 : Nat} (hm : (lr, listOf rws.toArray n1) ∈ news) (hW : Bys rws bs) (hS1 : Sm 300 bs) (hm1 : m (Str.ofString "rows") = some (.ref lr))
   (hret : ∀ b t m' h' tk', Array.size b ≤ 5000 → m' (Str.ofString "script") = some (.ref l) → m' (Str.ofString "octets") = some (.bytes b t) → Fr h₀ L h' m' → News h₀ L h' news →
      wpN (model Challenge.rw_bd0009_01.row.prog w) (lawTop dp un gd L a ccd) (execs (lawDef.1.drop 12) (lawEnv L a ccd)) Q E { s with heap := h', toks := tk' }) :
   wpN (model Challenge.rw_bd0009_01.row.prog w) (lawTop dp un gd L a ccd) (execs (lawDef.1.drop 11) (lawEnv L a ccd)) Q E s := by
  k_with_none
  k_with "getMethod bytes" => (with_reducible refine by_mJoin ?_)
  k_with "call builtin:bytes.join" => (k_dflt (refine by_join (bs := _ ++ [_]) (by kmk_list) (Bys.snoc (by assumption)) (by assumption) ?_); intro t' k')
  k_with "binaryOp Add ref ref" => (k_here; (with_reducible show wpAny _ _ (binaryOp _ (Value.ref _) (Value.ref _)) _ _ _); k_dflt (refine' kmk_add_lit (its := List.toArray _) ?zzF ?zzN ?zza ?zzb (by rfl) ?_ ?zzz; (case zzF | zzN => k_asm); (case zza => first | exact list_at (by k_asm) (by assumption) | exact list_at (by k_asm) (.tail _ (by assumption))); (case zzb => kmk_list); (case zzz => (simp only [List.length_cons, List.length_nil]; omega))); intro D' h' F' N' l1; (try k_lt l1); (try k_sweep))
  k_with "newList" => (k_here; k_dflt (refine' newList_K ?zzk1 ?zzk2 ?_; (case zzk1 | zzk2 => k_asm); k_whole); intro l' h' F' N' l1; (try k_lt l1); (try k_sweep))
  k_with "eval Name" => (k_here; k_dflt (refine' ld ?zzk1 ?zzk2 ?_; (case zzk1 => k_asm); (case zzk2 => first | exact rfl | assumption); k_whole))
  k_with "call ref" => (refine stopAt ?_)
  k_with "call ref" => (k_here; (with_reducible show wpAny _ _ (call (Value.ref 843) [Value.ref _, Value.int _ _]) _ _ _); k_dflt ((with_unfolding_all refine' c_number _ _ _ _ _ ?zzq1 _ _ _ _ _ _ _ _ _ _ _ _ _ _ _ _ _ _ _ _ ?zzB ?zzF ?zzX ?zzN ?zzT ?zzC1 ?zzC2 ?zzC3 ?zzhd ?zzhu ?_); (case zzB | zzF | zzX | zzN | zzT => k_asm); (case zzC1 | zzC2 | zzC3 => assumption); (case zzq1 => omega); (case zzhd => ktr_room); (case zzhu => ktr_units); k_whole; intro t' h' tk' F' N'; (try k_sweep)))
  k_with "call ref" => (k_here; (with_reducible show wpAny _ _ (call (Value.ref 850) [Value.int _ _, Value.int _ _]) _ _ _); k_dflt ((with_unfolding_all refine' c_octets _ _ _ _ ?zzq1 ?zzq2 ?zzq3 _ _ _ _ _ _ _ _ _ _ _ _ _ _ _ _ _ _ _ _ (by k_dflt k_asm) (by k_dflt k_asm) (by k_dflt k_asm) (by k_dflt k_asm) (by k_dflt k_asm) (by k_dflt ktr_room) (by k_dflt ktr_units) ?_); (case zzq1 => first | assumption | omega | exact (kmn_any (lo := 0) (hi := 300) (by decide)).1); (case zzq2 => first | assumption | omega | exact (kmn_any (lo := 0) (hi := 300) (by decide)).2); (case zzq3 => first | assumption | exact BitsOK.le (by assumption) (by omega) (by omega)); k_whole; intro t' h' tk' F' N'; (try k_sweep)))
  have X0 := X
  revert X0
  k_fill
  intro _
  have hz9 := sizeLine_eq
  have hwl : rws.length ≤ 4 := by rw [hW.len]; exact hS1.1
  have g1 := fmod_lo (num ns 32) (n := 40) (by decide)
  have g2 := fmod_hi (num ns 32) (n := 40) (by decide)
  have q1 : 0 ≤ (num ns 32).fmod 40 := g1
  have q2 : (num ns 32).fmod 40 ≤ 300 := by omega
  have hj1 : (joinBy (bs ++ [oct (num ns 31) ((num ns 32).fmod 40)])).size ≤ 5000 := by
    have h1 := joinBy_le (z := 300) (bs := bs ++ [oct (num ns 31) ((num ns 32).fmod 40)]) (by
      intro b hb
      rcases List.mem_append.mp hb with h | h
      · exact hS1.2 b h
      · rw [List.mem_singleton.mp h, oct_size]; omega)
    have h2 := hS1.1
    rw [List.length_append, List.length_singleton] at h1
    omega
  have hj2 : (joinBy (bs ++ [oct (num ns 31) ((num ns 32).fmod 40)])).size ≤ sizeLine := by omega
  dsimp only [lawDef, pick3, List.drop, lawEnv, lawTop] at hret ⊢
  refine nExecsCons (nOf ?_)
  k_steps
  rename Fr _ _ _ _ => FZ
  rename News _ _ _ _ => NZ
  refine hret ?b ?t _ _ _ ?z ?a ?c FZ ?h
  case a => exact hm0
  case c => rfl
  case z => exact hj1
  case h => exact cb_drop NZ (fun _ h => .tail _ (.tail _ h))
end Mine
end

section
open PySem PySem.Spec PySem.W PySem.Calls PyProof.Rows
set_option maxRecDepth 100000
set_option maxHeartbeats 4000000
namespace Mine
theorem lawG12 {w : World} {mean : ExcName → Option Value} {mg mb : Str → Option Value} {news : List (Addr × Obj)} {l : Addr} {sv : List Value} {ns : List Int} (hIs : IntsAre sv ns) (hNs : ns.length < 2 ^ 62) (hbits : BitsOK ns)
   {dp un : Nat} {gd : Option (List Code)} {a : Addr} {ccd : Value} {A₀ : Around} {h₀ : Heap} {L : Addr} {m : Str → Option Value} {s : Shared} {Q : Flow → Shared → Prop} {E : Value → Shared → Prop}
   (hl : h₀.IsList l sv.toArray) 
   (B : Below A₀ h₀ [] h₀) (F : Fr h₀ L s.heap m) (X : (Mine.hd.heap_39 w.params).In h₀) (N : News h₀ L s.heap news) (T : Top Mine.hd.view_39 LS mean mg mb h₀) 
   (hd : dp + 200 < recursionLimit) (hu : un + 1000 < cLine)
   (hm0 : m (Str.ofString "script") = some (.ref l)) {b : Array UInt8} {tb : Tok} (hb : b.size ≤ 5000) (hm1 : m (Str.ofString "octets") = some (.bytes b tb))
   (hret : ∀ k t m' h' tk', 0 ≤ k → k ≤ (b.size : Int) → m' (Str.ofString "script") = some (.ref l) → m' (Str.ofString "octets") = some (.bytes b tb) → m' (Str.ofString "at") = some (.int k t) → Fr h₀ L h' m' → News h₀ L h' news →
      wpN (model Challenge.rw_bd0009_01.row.prog w) (lawTop dp un gd L a ccd) (execs (lawDef.1.drop 13) (lawEnv L a ccd)) Q E { s with heap := h', toks := tk' }) :
   wpN (model Challenge.rw_bd0009_01.row.prog w) (lawTop dp un gd L a ccd) (execs (lawDef.1.drop 12) (lawEnv L a ccd)) Q E s := by
  k_with_none
  k_with "binaryOp Mod int int" => (refine mod_int' (by omega) ?_)
  k_with "call builtin:len" => (k_dflt (refine len_bytes (by omega) ?_))
  k_with "eval Name" => (k_here; k_dflt (refine' ld ?zzk1 ?zzk2 ?_; (case zzk1 => k_asm); (case zzk2 => first | exact rfl | assumption); k_whole))
  k_with "call ref" => (refine stopAt ?_)
  k_with "call ref" => (k_here; (with_reducible show wpAny _ _ (call (Value.ref 843) [Value.ref _, Value.int _ _]) _ _ _); k_dflt ((with_unfolding_all refine' c_number _ _ _ _ _ ?zzq1 _ _ _ _ _ _ _ _ _ _ _ _ _ _ _ _ _ _ _ _ ?zzB ?zzF ?zzX ?zzN ?zzT ?zzC1 ?zzC2 ?zzC3 ?zzhd ?zzhu ?_); (case zzB | zzF | zzX | zzN | zzT => k_asm); (case zzC1 | zzC2 | zzC3 => assumption); (case zzq1 => omega); (case zzhd => ktr_room); (case zzhu => ktr_units); k_whole; intro t' h' tk' F' N'; (try k_sweep)))
  have X0 := X
  revert X0
  k_fill
  intro _
  have hz9 := sizeLine_eq
  have hp9 : (0 : Int) < (b.size : Int) + 1 := by omega
  have g1 := fmod_lo (num ns 34) hp9
  have g2 := fmod_hi (num ns 34) hp9
  dsimp only [lawDef, pick3, List.drop, lawEnv, lawTop] at hret ⊢
  refine nExecsCons (nOf ?_)
  k_steps
  rename Fr _ _ _ _ => FZ
  rename News _ _ _ _ => NZ
  refine hret _ ?t _ _ _ g1 ?z ?a ?c ?d FZ ?h
  case a => exact hm0
  case c => exact hm1
  case d => rfl
  case z => omega
  case h => first | exact NZ | exact cb_drop NZ (by kcj_all)
end Mine
end

section
open PySem PySem.Spec PySem.W PySem.Calls PyProof.Rows
set_option maxRecDepth 100000
set_option maxHeartbeats 4000000
namespace Mine
theorem ext_le {b : Array UInt8} {i j : Nat} (h : b.size ≤ 5000) : (b.extract i j).size ≤ 5000 := by
  rw [Array.size_extract]; exact Nat.le_trans (Nat.sub_le _ _) (Nat.le_trans (Nat.min_le_right _ _) h)
theorem ext_fits {b : Array UInt8} {i j : Nat} (h : b.size ≤ 5000) : (b.extract i j).size ≤ sizeLine := Nat.le_trans (ext_le h) (by decide +kernel)
theorem put_le {b : Array UInt8} {x : UInt8} {i : Nat} (h : b.size ≤ 5000) : (b.extract 0 i ++ #[x]).size ≤ 5001 := by
  rw [Array.size_append]; exact Nat.add_le_add (ext_le h) (Nat.le_refl 1)
theorem put_fits {b : Array UInt8} {x : UInt8} {i : Nat} (h : b.size ≤ 5000) : (b.extract 0 i).size + (#[x] : Array UInt8).size ≤ 16777216 := Nat.le_trans (Nat.add_le_add (ext_le h) (Nat.le_refl 1)) (by decide +kernel)
theorem both_fits {b : Array UInt8} {x : UInt8} {i j n : Nat} (h : b.size ≤ 5000) : (b.extract 0 i ++ #[x]).size + (b.extract j n).size ≤ 16777216 := Nat.le_trans (Nat.add_le_add (put_le h) (ext_le h)) (by decide +kernel)
theorem both_le {b : Array UInt8} {x : UInt8} {i j n : Nat} (h : b.size ≤ 5000) : (b.extract 0 i ++ #[x] ++ b.extract j n).size ≤ 20000 := by
  rw [Array.size_append]; exact Nat.le_trans (Nat.add_le_add (put_le h) (ext_le h)) (by decide +kernel)
theorem one_size {x : UInt8} : (#[x] : Array UInt8).size = 1 := rfl
theorem by_idx {prog : Program} {w : World} {A : Around} {E : Value → Shared → Prop} {s : Shared} {value slice : Expr} {b : Array UInt8} {t u : Tok} {k : Int} {Q : Value → Shared → Prop} (hb : b.size ≤ 5000) (h0 : 0 ≤ k) (h1 : k < (b.size : Int))
    (h : Q (.int (b.toList.getD k.toNat 0).toNat s.toks) { s with toks := s.toks + 1 })
    (hs : subscripted slice false (.bytes b t) (.int k u) = operate [.bytes b t, .int k u] (getItem (.bytes b t) (.int k u)) := by with_unfolding_all rfl) (hg : ∀ r, letTemporaryGo value (.bytes b t) r = pure () := by intro _; with_unfolding_all rfl) :
    wpAny (model prog w) A (subscriptTail value slice (.bytes b t) (.int k u)) Q E s := by
  refine subscriptTail_builtin (typeIs_bytes _ _ _) FB.slot_bytes_getitem.lookup ?_ hs hg
  have h9 := getItem_bytes (prog := prog) (w := w) (A := A) (E := E) (s := s) (t := t) (u := u) (l := b.toList) (i := k) (Q := Q) (by rw [Array.length_toList]; omega) h0 (by rw [Array.length_toList]; exact h1) h
  rw [Array.toArray_toList] at h9
  exact h9
theorem lawG13 {w : World} {mean : ExcName → Option Value} {mg mb : Str → Option Value} {news : List (Addr × Obj)} {l : Addr} {sv : List Value} {ns : List Int} (hIs : IntsAre sv ns) (hNs : ns.length < 2 ^ 62) (hbits : BitsOK ns)
   {dp un : Nat} {gd : Option (List Code)} {a : Addr} {ccd : Value} {A₀ : Around} {h₀ : Heap} {L : Addr} {m : Str → Option Value} {s : Shared} {Q : Flow → Shared → Prop} {E : Value → Shared → Prop}
   (hl : h₀.IsList l sv.toArray) 
   (B : Below A₀ h₀ [] h₀) (F : Fr h₀ L s.heap m) (X : (Mine.hd.heap_39 w.params).In h₀) (N : News h₀ L s.heap news) (T : Top Mine.hd.view_39 LS mean mg mb h₀) 
   (hd : dp + 200 < recursionLimit) (hu : un + 1000 < cLine)
   (hm0 : m (Str.ofString "script") = some (.ref l)) {b : Array UInt8} {tb ta : Tok} {k : Int} (hb : b.size ≤ 5000) (hk : 0 ≤ k) (hk' : k ≤ (b.size : Int)) (hm1 : m (Str.ofString "octets") = some (.bytes b tb)) (hm2 : m (Str.ofString "at") = some (.int k ta))
   (hret : ∀ z1 dz1 u1 v1 z2 dz2 u2 v2 c m' h' tk', Array.size c ≤ 20000 → dz1 < z1 → dz2 < z2 → m' (Str.ofString "octets") = some (.bytes b tb) → m' (Str.ofString "made") = some (.ref z1) → m' (Str.ofString "other") = some (.ref z2) → Fr h₀ L h' m' → News h₀ L h' ((z2, instObj 789 dz2) :: (dz2, scrD w c u2 v2) :: (z1, instObj 789 dz1) :: (dz1, scrD w b u1 v1) :: news) →
      wpN (model Challenge.rw_bd0009_01.row.prog w) (lawTop dp un gd L a ccd) (execs (lawDef.1.drop 14) (lawEnv L a ccd)) Q E { s with heap := h', toks := tk' }) :
   wpN (model Challenge.rw_bd0009_01.row.prog w) (lawTop dp un gd L a ccd) (execs (lawDef.1.drop 13) (lawEnv L a ccd)) Q E s := by
  k_with_none
  k_with "binaryOp Mod int int" => (refine mod_int' (by omega) ?_)
  k_with "call builtin:len" => (k_dflt (refine len_bytes (by omega) ?_))
  k_with "subscriptTail" => (k_dflt (refine by_slice (r := Array.extract _ 0 _) (by k_asm) (by k_asm) .none (.int _ _) .none (by decide) (cut_to (by assumption) (by assumption)) (ext_fits (by assumption)) ?_); intro h' t' k' F' N'; (try k_sweep))
  k_with "subscriptTail" => (k_dflt (refine by_slice (r := Array.extract _ _ _) (by k_asm) (by k_asm) (.int _ _) .none .none (by decide) (cut_from (by omega)) (ext_fits (by assumption)) ?_); intro h' t' k' F' N'; (try k_sweep))
  k_with "subscriptTail Name Name bytes int" => (k_dflt (refine by_idx (by assumption) (by assumption) (by omega) ?_))
  k_with "binaryOp Add bytes bytes" => ((try dsimp only); k_dflt (refine KBy.add_bytes (by first | exact put_fits (by assumption) | exact both_fits (by assumption)) ?_); intro _ _)
  k_with "eval Name" => (k_here; k_dflt (refine' ld ?zzk1 ?zzk2 ?_; (case zzk1 => k_asm); (case zzk2 => first | exact rfl | assumption); k_whole))
  k_with "call ref" => (refine stopAt ?_)
  k_with "call ref" => (k_here; (with_reducible show wpAny _ _ (call (Value.ref 843) [Value.ref _, Value.int _ _]) _ _ _); k_dflt ((with_unfolding_all refine' c_number _ _ _ _ _ ?zzq1 _ _ _ _ _ _ _ _ _ _ _ _ _ _ _ _ _ _ _ _ ?zzB ?zzF ?zzX ?zzN ?zzT ?zzC1 ?zzC2 ?zzC3 ?zzhd ?zzhu ?_); (case zzB | zzF | zzX | zzN | zzT => k_asm); (case zzC1 | zzC2 | zzC3 => assumption); (case zzq1 => omega); (case zzhd => ktr_room); (case zzhu => ktr_units); k_whole; intro t' h' tk' F' N'; (try k_sweep)))
  k_with "call ref" => (k_here; (with_reducible show wpAny _ _ (call (Value.ref 789) [Value.bytes _ _]) _ _ _); k_dflt ((with_unfolding_all refine' c_script _ _ _ _ _ _ _ _ _ _ _ _ _ _ _ _ _ _ _ _ _ _ ?zzB ?zzF ?zzX ?zzN ?zzT ?zzhd ?zzhu ?_); (case zzB | zzF | zzX | zzN | zzT => k_asm); (case zzhd => ktr_room); (case zzhu => ktr_units); k_whole; intro z' dz' t' h' tk' F' N' al' lt'; (try k_sweep)))
  have X0 := X
  revert X0
  k_fill
  intro _
  have hz9 := sizeLine_eq
  have g1 := fmod_lo (((b.toList.getD k.toNat 0).toNat : Int) + 1) (n := 256) (by decide)
  have g2 := fmod_hi (((b.toList.getD k.toNat 0).toNat : Int) + 1) (n := 256) (by decide)
  dsimp only [lawDef, pick3, List.drop, lawEnv, lawTop] at hret ⊢
  refine nExecsCons (nOf ?_)
  k_steps
  · rename Fr _ _ _ _ => FZ
    rename News _ _ _ _ => NZ
    refine hret ?x1A ?x2A ?x3A ?x4A ?x5A ?x6A ?x7A ?x8A ?x9A _ _ _ ?jzA ?jpA ?jqA ?jaA ?jbA ?jdA FZ ?jhA
    case jaA => exact hm1
    case jbA => rfl
    case jdA => rfl
    case jhA => exact cb_drop NZ (by kcj_all)
    case jpA => assumption
    case jqA => assumption
    case jzA => first | exact both_le hb | exact Nat.le_trans hb (by decide)
  · rename Fr _ _ _ _ => FZ
    rename News _ _ _ _ => NZ
    refine hret ?x1B ?x2B ?x3B ?x4B ?x5B ?x6B ?x7B ?x8B ?x9B _ _ _ ?jzB ?jpB ?jqB ?jaB ?jbB ?jdB FZ ?jhB
    case jaB => exact hm1
    case jbB => rfl
    case jdB => rfl
    case jhB => exact cb_drop NZ (by kcj_all)
    case jpB => assumption
    case jqB => assumption
    case jzB => first | exact both_le hb | exact Nat.le_trans hb (by decide)
  · rename Fr _ _ _ _ => FZ
    rename News _ _ _ _ => NZ
    refine hret ?x1C ?x2C ?x3C ?x4C ?x5C ?x6C ?x7C ?x8C ?x9C _ _ _ ?jzC ?jpC ?jqC ?jaC ?jbC ?jdC FZ ?jhC
    case jaC => exact hm1
    case jbC => rfl
    case jdC => rfl
    case jhC => exact cb_drop NZ (by kcj_all)
    case jpC => assumption
    case jqC => assumption
    case jzC => first | exact both_le hb | exact Nat.le_trans hb (by decide)
end Mine
end

section
open PySem PySem.Spec PySem.W PySem.Calls PyProof.Rows
set_option maxRecDepth 100000
set_option maxHeartbeats 4000000
namespace Mine
/-- what the law gives back: the parts of its last `and` -/
noncomputable def lastAnd : List Expr := match lawDef.1.drop 14 with | .Return (some (.BoolOp _ es _)) _ :: _ => es | _ => []
theorem sub2 {p1 p2 : Addr × Obj} {news : List (Addr × Obj)} (m1 : p1 ∈ news) (m2 : p2 ∈ news) : ∀ p ∈ p1 :: p2 :: news, p ∈ news := by
  intro p hp
  cases hp with
  | head => exact m1
  | tail _ h => cases h with
    | head => exact m2
    | tail _ h => exact h
theorem c_sserM {w : World} {mean : ExcName → Option Value} {mg mb : Str → Option Value} {news : List (Addr × Obj)} (z dz : Addr) (u1 u2 : Tok) (b : Array UInt8) (hb1 : b.size < 10000000) (h0 : dz < z)
   (m1 : (z, instObj 789 dz) ∈ news) (m2 : (dz, scrD w b u1 u2) ∈ news)
   (dp un : Nat) (gd : Option (List Code)) (cn : Str) (nms : List (Str × NameKind)) (ig ic : Bool) (mr : List (Str × Const)) (a : Addr) (ccd : Value) (cl : List (Str × Addr)) (outer : List Env) (A₀ : Around) (base h₀ : Heap) (L : Addr) (m : Str → Option Value) (s : Shared) (Q E : Value → Shared → Prop)
   (B : Below A₀ base outer h₀) (F : Fr h₀ L s.heap m) (X : (Mine.hd.heap_39 w.params).In h₀) (N : News h₀ L s.heap news) (T : Top Mine.hd.view_39 LS mean mg mb h₀) 
    (hd : dp + 80 < recursionLimit) (hu : un + 400 < cLine)
    (hret : ∀ t h' tk', Fr h₀ L h' m → News h₀ L h' news → Q (.bytes ((enc b.size).toArray ++ b) t) { s with heap := h', toks := tk' }) :
      wpN (model Challenge.rw_bd0009_01.row.prog w) (ktrTop dp un gd cn ⟨.function, nms, ig, ic, mr⟩ L a ccd cl outer) (call (.ref 656) [.ref z]) Q E s := by
  refine c_sser (news := news) z dz u1 u2 b hb1 h0 dp un gd cn nms ig ic mr a ccd cl outer A₀ base h₀ L m s Q E B F X (cb_drop N (sub2 m1 m2)) T hd hu ?_
  intro t h' tk' F' N'
  exact hret t h' tk' F' (cb_drop N' fun p hp => .tail _ (.tail _ hp))
end Mine
end

section
open PySem PySem.Spec PySem.W PySem.Calls PyProof.Rows
set_option maxRecDepth 100000
set_option maxHeartbeats 4000000
namespace Mine
theorem lawR0 {w : World} {mean : ExcName → Option Value} {mg mb : Str → Option Value} {news : List (Addr × Obj)} {z1 dz1 z2 dz2 : Addr} {u1 v1 u2 v2 tb : Tok} {b c : Array UInt8} (hb : b.size ≤ 5000) (hc : c.size ≤ 20000) (i1 : dz1 < z1) (i2 : dz2 < z2)
   {dp un : Nat} {gd : Option (List Code)} {a : Addr} {ccd : Value} {A₀ : Around} {h₀ : Heap} {L : Addr} {m : Str → Option Value} {s : Shared} {Q : Value → Shared → Prop} {E : Value → Shared → Prop}
   (B : Below A₀ h₀ [] h₀) (F : Fr h₀ L s.heap m) (X : (Mine.hd.heap_39 w.params).In h₀) (N : News h₀ L s.heap ((z2, instObj 789 dz2) :: (dz2, scrD w c u2 v2) :: (z1, instObj 789 dz1) :: (dz1, scrD w b u1 v1) :: news)) (T : Top Mine.hd.view_39 LS mean mg mb h₀) 
   (hd : dp + 200 < recursionLimit) (hu : un + 1000 < cLine)
   (hm1 : m (Str.ofString "octets") = some (.bytes b tb)) (hm2 : m (Str.ofString "made") = some (.ref z1)) (hm3 : m (Str.ofString "other") = some (.ref z2))
   (hret : ∀ h' tk', Fr h₀ L h' m → News h₀ L h' ((z2, instObj 789 dz2) :: (dz2, scrD w c u2 v2) :: (z1, instObj 789 dz1) :: (dz1, scrD w b u1 v1) :: news) → Q (.bool true) { s with heap := h', toks := tk' }) :
   wpN (model Challenge.rw_bd0009_01.row.prog w) (lawTop dp un gd L a ccd) (eval (lastAnd.getD 0 (.Name (Str.ofString "x") ⟨0,0,0,0⟩)) (lawEnv L a ccd)) Q E s := by
  k_with_none
  k_with "call builtin:len" => (k_dflt (refine len_bytes (by omega) ?_))
  k_with "binaryOp Add bytes bytes" => ((try dsimp only); k_dflt (refine KBy.add_bytes (by first | assumption | omega) ?_); intro _ _)
  k_with "eval Name" => (k_here; k_dflt (refine' ld ?zzk1 ?zzk2 ?_; (case zzk1 => k_asm); (case zzk2 => first | exact rfl | assumption); k_whole))
  k_with "call ref" => (refine stopAt ?_)
  k_with "call ref" => (k_here; (with_reducible show wpAny _ _ (call (Value.ref 28) [Value.int _ _]) _ _ _); k_dflt ((with_unfolding_all refine' c_to _ _ ?zzq1 ?zzq2 _ _ _ _ _ _ _ _ _ _ _ _ _ _ _ _ _ _ _ _ (by k_dflt k_asm) (by k_dflt k_asm) (by k_dflt k_asm) (by k_dflt k_asm) (by k_dflt k_asm) (by k_dflt ktr_room) (by k_dflt ktr_units) ?_); (case zzq1 => (first | omega | exact Int.natCast_nonneg _)); (case zzq2 => ((try simp only [List.size_toArray]); omega)); k_whole; intro t' h' tk' F' N'; (try k_sweep)))
  have X0 := X
  revert X0
  k_fill
  intro _
  have hz9 := sizeLine_eq
  have hb1 : b.size < 10000000 := by omega
  have hc1 : c.size < 10000000 := by omega
  have he9 := enc_small (n := b.size) (by omega)
  dsimp only [lastAnd, lawDef, pick3, List.drop, lawEnv, lawTop, List.getD, List.getElem?_cons_zero, List.getElem?_cons_succ, Option.getD]
  refine nCmpV (nCallAttr ?_)
  k_steps
  refine nCallW0 ?_
  refine Kp.of .frame (Looks.of_peek (by k_in) (pk_keepSer _ _)) ?_
  refine' c_sserM z1 dz1 u1 v1 b hb1 i1 ?jm1 ?jm2 _ _ _ _ _ _ _ _ _ _ _ _ _ _ _ _ _ _ _ _ ?jB ?jF ?jX ?jN ?jT ?jd ?ju ?_
  case jB => k_asm
  case jF => k_asm
  case jX => k_asm
  case jN => k_asm
  case jT => k_asm
  case jm1 => k_mem
  case jm2 => k_mem
  case jd => ktr_room
  case ju => ktr_units
  intro t' h' tk' F' N'
  (try k_sweep)
  refine nOf ?_
  k_steps
  refine nOf ?_
  k_steps
  rw [beq_self_eq_true]
  exact hret _ _ (by k_asm) (by first | k_asm | exact cb_drop (by assumption) (by kcj_all))
end Mine
end

section
open PySem PySem.Spec PySem.W PySem.Calls PyProof.Rows
set_option maxRecDepth 100000
set_option maxHeartbeats 4000000
namespace Mine
section
variable {M : Model} {A : Around} {E : Value → Shared → Prop} {s : Shared} {env : Env}
theorem nCallWithN {pos : Pos} {f : Value} {first : List Value} {args : List (Bool × Sem Value)} {keywords : List (Option Str × Sem Value)} {Q : Value → Shared → Prop}
    (h : wpN M A (evalArgs f true args keywords) (fun a s₁ => (∃ k, Looks M s₁.heap (keeperOf f) k) ∧ wpN M A (call f (first ++ a.pos) a.kw) Q E s₁) E s) :
    wpN M A (callWith pos f first args keywords) Q E s := by
  unfold callWith
  refine nBind (nHolding (nMono h (fun a s₁ h₁ => aBind (wpAny_standAt ?_)) fun _ _ y => y))
  obtain ⟨⟨k, L⟩, hc⟩ := h₁
  have tail : ∀ {t : Sem Value}, wpN M A t Q E s₁ → wpN M A (t >>= fun r => holding [r] point >>= fun _ => pure r) Q E s₁ :=
    fun ht => nBind (nMono ht (fun r s₂ hr => aBind (wpAny_holding (wpAny_point (nPure hr)))) fun _ _ y => y)
  refine aBind (L.here ?_)
  have mk : ∀ v, wpN M A (callMarked v f (first ++ a.pos) a.kw) Q E s₁ := fun v => by unfold callMarked; exact nKeep hc
  cases k <;> cases hs : (args.any (·.1) || keywords.any (·.1.isNone)) <;> dsimp only
  all_goals first
    | exact tail (mk _)
    | exact tail hc
    | exact tail (nOperate hc)
    | (split <;> first | exact tail hc | exact tail (mk _))
theorem nArgs1 {f : Value} {x : Sem Value} {Q : Args → Shared → Prop} (h : wpN M A x (fun v s' => Q ⟨[v], []⟩ s') E s) : wpN M A (evalArgs f true [(false, x)] []) Q E s := by
  unfold evalArgs
  show wpN M A (spliced [(false, x)] >>= _) Q E s
  have sp : wpN M A (spliced [(false, x)]) (fun vs s' => Q ⟨vs, []⟩ s') E s := by
    rw [spliced]
    refine nBind (nMono h (fun v s₁ h₁ => ?_) fun _ _ x => x)
    simp only [Bool.false_eq_true, if_false]
    exact nOf (wpAny_bind (wpAny_pure (wpAny_bind (wpAny_holding (spliced_nil (wpAny_pure h₁))))))
  exact nBind (nMono sp (fun vs s' h' => nOf (wpAny_holding (wpAny_bind (wpAny_pure (wpAny_bind (wpAny_pure (wpAny_pure h'))))))) fun _ _ x => x)
theorem nCallW1 {pos : Pos} {f : Value} {first : List Value} {e : Expr} {Q : Value → Shared → Prop}
    (h : wpN M A (eval e env) (fun v s₁ => Kp M s₁.heap f (wpN M A (call f (first ++ [v])) Q E s₁)) E s)
    (he : starEach [e] env = [(false, eval e env)] := by rfl) : wpN M A (callWith pos f first (backTo pos (starEach [e] env)) (backToKw pos (keywordEach [] env))) Q E s := by
  rw [he]
  exact nCallWithN (nArgs1 h)
end
theorem lawR1 {w : World} {mean : ExcName → Option Value} {mg mb : Str → Option Value} {news : List (Addr × Obj)} {z1 dz1 z2 dz2 : Addr} {u1 v1 u2 v2 tb : Tok} {b c : Array UInt8} (hb : b.size ≤ 5000) (hc : c.size ≤ 20000) (i1 : dz1 < z1) (i2 : dz2 < z2)
   {dp un : Nat} {gd : Option (List Code)} {a : Addr} {ccd : Value} {A₀ : Around} {h₀ : Heap} {L : Addr} {m : Str → Option Value} {s : Shared} {Q : Value → Shared → Prop} {E : Value → Shared → Prop}
   (B : Below A₀ h₀ [] h₀) (F : Fr h₀ L s.heap m) (X : (Mine.hd.heap_39 w.params).In h₀) (N : News h₀ L s.heap ((z2, instObj 789 dz2) :: (dz2, scrD w c u2 v2) :: (z1, instObj 789 dz1) :: (dz1, scrD w b u1 v1) :: news)) (T : Top Mine.hd.view_39 LS mean mg mb h₀) 
   (hd : dp + 200 < recursionLimit) (hu : un + 1000 < cLine)
   (hm1 : m (Str.ofString "octets") = some (.bytes b tb)) (hm2 : m (Str.ofString "made") = some (.ref z1)) (hm3 : m (Str.ofString "other") = some (.ref z2))
   (hret : ∀ h' tk', Fr h₀ L h' m → News h₀ L h' ((z2, instObj 789 dz2) :: (dz2, scrD w c u2 v2) :: (z1, instObj 789 dz1) :: (dz1, scrD w b u1 v1) :: news) → Q (.bool true) { s with heap := h', toks := tk' }) :
   wpN (model Challenge.rw_bd0009_01.row.prog w) (lawTop dp un gd L a ccd) (eval (lastAnd.getD 1 (.Name (Str.ofString "x") ⟨0,0,0,0⟩)) (lawEnv L a ccd)) Q E s := by
  k_with_none
  k_with "call builtin:len" => (k_dflt (refine len_bytes (by omega) ?_))
  k_with "binaryOp Add bytes bytes" => ((try dsimp only); k_dflt (refine KBy.add_bytes (by first | assumption | omega) ?_); intro _ _)
  k_with "eval Name" => (k_here; k_dflt (refine' ld ?zzk1 ?zzk2 ?_; (case zzk1 => k_asm); (case zzk2 => first | exact rfl | assumption); k_whole))
  k_with "call ref" => (refine stopAt ?_)
  have X0 := X
  revert X0
  k_fill
  intro _
  have hz9 := sizeLine_eq
  have hb1 : b.size < 10000000 := by omega
  have hc1 : c.size < 10000000 := by omega
  have he9 := enc_small (n := b.size) (by omega)
  dsimp only [lastAnd, lawDef, pick3, List.drop, lawEnv, lawTop, List.getD, List.getElem?_cons_zero, List.getElem?_cons_succ, Option.getD]
  have i1' : @LT.lt Nat _ 0 z1 := by
    have i9 : @LT.lt Nat _ dz1 z1 := i1
    omega
  refine nCmpV (nAttr (nCallAttr ?_))
  k_steps
  refine nCallW1 (nCallAttr ?_)
  k_steps
  refine nCallW0 ?_
  refine Kp.of .frame (Looks.of_peek (by k_in) (pk_keepSer _ _)) ?_
  refine' c_sserM z1 dz1 u1 v1 b hb1 i1 ?jm1 ?jm2 _ _ _ _ _ _ _ _ _ _ _ _ _ _ _ _ _ _ _ _ ?jB ?jF ?jX ?jN ?jT ?jd ?ju ?_
  case jB => k_asm
  case jF => k_asm
  case jX => k_asm
  case jN => k_asm
  case jT => k_asm
  case jm1 => k_mem
  case jm2 => k_mem
  case jd => ktr_room
  case ju => ktr_units
  intro t' h' tk' F' N'
  (try k_sweep)
  refine Kp.of .boundFrame (lk_method (newsAt (by k_asm) (by k_mem)) ((show Frag.In _ _ by k_in) 639 _ rfl) rfl) ?_
  refine nMethod (newsAt (by k_asm) (by k_mem)) ?_
  refine' cs_parse _ b _ hb1 rfl z1 (instObj 789 dz1) ?jq i1' _ _ _ _ _ _ _ _ _ _ _ _ _ _ _ _ _ _ _ _ ?jB ?jF ?jX ?jN ?jT ?jd ?ju ?_
  case jB => k_asm
  case jF => k_asm
  case jX => k_asm
  case jN => k_asm
  case jT => k_asm
  case jq => k_mem
  case jd => ktr_room
  case ju => ktr_units
  intro z dz u9 v9 h' tk' F' N' l7 l8
  (try k_sweep)
  obtain ⟨l7a, l7b⟩ := l7
  replace l7a := ltN l7a
  replace l8 := ltN l8
  k_steps
  refine wpAny_letTemporaryGo ?_
  refine nOf ?_
  k_steps
  refine nOf ?_
  k_steps
  rw [beq_self_eq_true]
  exact hret _ _ (by k_asm) (by first | k_asm | exact cb_drop (by assumption) (by kcj_all))
end Mine
end

section
open PySem PySem.Spec PySem.W PySem.Calls PyProof.Rows
set_option maxRecDepth 100000
set_option maxHeartbeats 4000000
namespace Mine
theorem lawR2 {w : World} {mean : ExcName → Option Value} {mg mb : Str → Option Value} {news : List (Addr × Obj)} {z1 dz1 z2 dz2 : Addr} {u1 v1 u2 v2 tb : Tok} {b c : Array UInt8} (hb : b.size ≤ 5000) (hc : c.size ≤ 20000) (i1 : dz1 < z1) (i2 : dz2 < z2)
   {dp un : Nat} {gd : Option (List Code)} {a : Addr} {ccd : Value} {A₀ : Around} {h₀ : Heap} {L : Addr} {m : Str → Option Value} {s : Shared} {Q : Value → Shared → Prop} {E : Value → Shared → Prop}
   (B : Below A₀ h₀ [] h₀) (F : Fr h₀ L s.heap m) (X : (Mine.hd.heap_39 w.params).In h₀) (N : News h₀ L s.heap ((z2, instObj 789 dz2) :: (dz2, scrD w c u2 v2) :: (z1, instObj 789 dz1) :: (dz1, scrD w b u1 v1) :: news)) (T : Top Mine.hd.view_39 LS mean mg mb h₀) 
   (hd : dp + 200 < recursionLimit) (hu : un + 1000 < cLine)
   (hm1 : m (Str.ofString "octets") = some (.bytes b tb)) (hm2 : m (Str.ofString "made") = some (.ref z1)) (hm3 : m (Str.ofString "other") = some (.ref z2))
   (hret : ∀ h' tk', Fr h₀ L h' m → News h₀ L h' ((z2, instObj 789 dz2) :: (dz2, scrD w c u2 v2) :: (z1, instObj 789 dz1) :: (dz1, scrD w b u1 v1) :: news) → Q (.bool true) { s with heap := h', toks := tk' }) :
   wpN (model Challenge.rw_bd0009_01.row.prog w) (lawTop dp un gd L a ccd) (eval (lastAnd.getD 2 (.Name (Str.ofString "x") ⟨0,0,0,0⟩)) (lawEnv L a ccd)) Q E s := by
  k_with_none
  k_with "call builtin:len" => (k_dflt (refine len_bytes (by omega) ?_))
  k_with "binaryOp Add bytes bytes" => ((try dsimp only); k_dflt (refine KBy.add_bytes (by first | assumption | omega) ?_); intro _ _)
  k_with "compareOp Eq ref ref" => (k_here; (with_reducible show wpAny _ _ (compareOp CmpOp.Eq (Value.ref _) _) _ _ _); (refine cmp_ofEq ?_); k_dflt (refine' cmp_K ?zzk1 ?zzk2 ?zzk3 ?zzk4 ?zzk5 ?zzk6 ?zzk7 ?zzk8 ?_; (case zzk1 => ktr_units); (case zzk2 | zzk3 => k_asm); (case zzk4 => k_inst); (case zzk5 => k_typeOf); (case zzk6 | zzk7 | zzk8 => k_is); k_whole))
  k_with "compareOp NotEq ref ref" => (k_here; (with_reducible show wpAny _ _ (compareOp CmpOp.NotEq (Value.ref _) _) _ _ _); (refine cmp_ofNotEq ?_); k_dflt (refine' cmp_K ?zzk1 ?zzk2 ?zzk3 ?zzk4 ?zzk5 ?zzk6 ?zzk7 ?zzk8 ?_; (case zzk1 => ktr_units); (case zzk2 | zzk3 => k_asm); (case zzk4 => k_inst); (case zzk5 => k_typeOf); (case zzk6 | zzk7 | zzk8 => k_is); k_whole))
  k_with "eval Name" => (k_here; k_dflt (refine' ld ?zzk1 ?zzk2 ?_; (case zzk1 => k_asm); (case zzk2 => first | exact rfl | assumption); k_whole))
  have X0 := X
  revert X0
  k_fill
  intro _
  have hz9 := sizeLine_eq
  have hb1 : b.size < 10000000 := by omega
  have hc1 : c.size < 10000000 := by omega
  have he9 := enc_small (n := b.size) (by omega)
  dsimp only [lastAnd, lawDef, pick3, List.drop, lawEnv, lawTop, List.getD, List.getElem?_cons_zero, List.getElem?_cons_succ, Option.getD]
  refine nOf ?_
  k_steps
  rw [beq_self_eq_true]
  exact hret _ _ (by k_asm) (by first | k_asm | exact cb_drop (by assumption) (by kcj_all))
end Mine
end

section
open PySem PySem.Spec PySem.W PySem.Calls PyProof.Rows
set_option maxRecDepth 100000
set_option maxHeartbeats 4000000
namespace Mine
theorem lawR3 {w : World} {mean : ExcName → Option Value} {mg mb : Str → Option Value} {news : List (Addr × Obj)} {z1 dz1 z2 dz2 : Addr} {u1 v1 u2 v2 tb : Tok} {b c : Array UInt8} (hb : b.size ≤ 5000) (hc : c.size ≤ 20000) (i1 : dz1 < z1) (i2 : dz2 < z2)
   {dp un : Nat} {gd : Option (List Code)} {a : Addr} {ccd : Value} {A₀ : Around} {h₀ : Heap} {L : Addr} {m : Str → Option Value} {s : Shared} {Q : Value → Shared → Prop} {E : Value → Shared → Prop}
   (B : Below A₀ h₀ [] h₀) (F : Fr h₀ L s.heap m) (X : (Mine.hd.heap_39 w.params).In h₀) (N : News h₀ L s.heap ((z2, instObj 789 dz2) :: (dz2, scrD w c u2 v2) :: (z1, instObj 789 dz1) :: (dz1, scrD w b u1 v1) :: news)) (T : Top Mine.hd.view_39 LS mean mg mb h₀) 
   (hd : dp + 200 < recursionLimit) (hu : un + 1000 < cLine)
   (hm1 : m (Str.ofString "octets") = some (.bytes b tb)) (hm2 : m (Str.ofString "made") = some (.ref z1)) (hm3 : m (Str.ofString "other") = some (.ref z2))
   (hret : ∀ h' tk', Fr h₀ L h' m → News h₀ L h' ((z2, instObj 789 dz2) :: (dz2, scrD w c u2 v2) :: (z1, instObj 789 dz1) :: (dz1, scrD w b u1 v1) :: news) → Q (.bool true) { s with heap := h', toks := tk' }) :
   wpN (model Challenge.rw_bd0009_01.row.prog w) (lawTop dp un gd L a ccd) (eval (lastAnd.getD 3 (.Name (Str.ofString "x") ⟨0,0,0,0⟩)) (lawEnv L a ccd)) Q E s := by
  k_with_none
  k_with "call builtin:len" => (k_dflt (refine len_bytes (by omega) ?_))
  k_with "binaryOp Add bytes bytes" => ((try dsimp only); k_dflt (refine KBy.add_bytes (by first | assumption | omega) ?_); intro _ _)
  k_with "compareOp Eq ref ref" => (k_here; (with_reducible show wpAny _ _ (compareOp CmpOp.Eq (Value.ref _) _) _ _ _); (refine cmp_ofEq ?_); k_dflt (refine' cmp_K ?zzk1 ?zzk2 ?zzk3 ?zzk4 ?zzk5 ?zzk6 ?zzk7 ?zzk8 ?_; (case zzk1 => ktr_units); (case zzk2 | zzk3 => k_asm); (case zzk4 => k_inst); (case zzk5 => k_typeOf); (case zzk6 | zzk7 | zzk8 => k_is); k_whole))
  k_with "compareOp NotEq ref ref" => (k_here; (with_reducible show wpAny _ _ (compareOp CmpOp.NotEq (Value.ref _) _) _ _ _); (refine cmp_ofNotEq ?_); k_dflt (refine' cmp_K ?zzk1 ?zzk2 ?zzk3 ?zzk4 ?zzk5 ?zzk6 ?zzk7 ?zzk8 ?_; (case zzk1 => ktr_units); (case zzk2 | zzk3 => k_asm); (case zzk4 => k_inst); (case zzk5 => k_typeOf); (case zzk6 | zzk7 | zzk8 => k_is); k_whole))
  k_with "eval Name" => (k_here; k_dflt (refine' ld ?zzk1 ?zzk2 ?_; (case zzk1 => k_asm); (case zzk2 => first | exact rfl | assumption); k_whole))
  have X0 := X
  revert X0
  k_fill
  intro _
  have hz9 := sizeLine_eq
  have hb1 : b.size < 10000000 := by omega
  have hc1 : c.size < 10000000 := by omega
  have he9 := enc_small (n := b.size) (by omega)
  dsimp only [lastAnd, lawDef, pick3, List.drop, lawEnv, lawTop, List.getD, List.getElem?_cons_zero, List.getElem?_cons_succ, Option.getD]
  refine nOf ?_
  k_steps
  rw [beq_self_eq_true]
  exact hret _ _ (by k_asm) (by first | k_asm | exact cb_drop (by assumption) (by kcj_all))
end Mine
end

section
open PySem PySem.Spec PySem.W PySem.Calls PyProof.Rows
set_option maxRecDepth 100000
set_option maxHeartbeats 4000000
namespace Mine
theorem lawR4 {w : World} {mean : ExcName → Option Value} {mg mb : Str → Option Value} {news : List (Addr × Obj)} {z1 dz1 z2 dz2 : Addr} {u1 v1 u2 v2 tb : Tok} {b c : Array UInt8} (hb : b.size ≤ 5000) (hc : c.size ≤ 20000) (i1 : dz1 < z1) (i2 : dz2 < z2)
   {dp un : Nat} {gd : Option (List Code)} {a : Addr} {ccd : Value} {A₀ : Around} {h₀ : Heap} {L : Addr} {m : Str → Option Value} {s : Shared} {Q : Value → Shared → Prop} {E : Value → Shared → Prop}
   (B : Below A₀ h₀ [] h₀) (F : Fr h₀ L s.heap m) (X : (Mine.hd.heap_39 w.params).In h₀) (N : News h₀ L s.heap ((z2, instObj 789 dz2) :: (dz2, scrD w c u2 v2) :: (z1, instObj 789 dz1) :: (dz1, scrD w b u1 v1) :: news)) (T : Top Mine.hd.view_39 LS mean mg mb h₀) 
   (hd : dp + 200 < recursionLimit) (hu : un + 1000 < cLine)
   (hm1 : m (Str.ofString "octets") = some (.bytes b tb)) (hm2 : m (Str.ofString "made") = some (.ref z1)) (hm3 : m (Str.ofString "other") = some (.ref z2))
   (hret : ∀ h' tk', Fr h₀ L h' m → News h₀ L h' ((z2, instObj 789 dz2) :: (dz2, scrD w c u2 v2) :: (z1, instObj 789 dz1) :: (dz1, scrD w b u1 v1) :: news) → Q (.bool true) { s with heap := h', toks := tk' }) :
   wpN (model Challenge.rw_bd0009_01.row.prog w) (lawTop dp un gd L a ccd) (eval (lastAnd.getD 4 (.Name (Str.ofString "x") ⟨0,0,0,0⟩)) (lawEnv L a ccd)) Q E s := by
  k_with_none
  k_with "call builtin:len" => (k_dflt (refine len_bytes (by omega) ?_))
  k_with "binaryOp Add bytes bytes" => ((try dsimp only); k_dflt (refine KBy.add_bytes (by first | assumption | omega) ?_); intro _ _)
  k_with "compareOp Eq ref ref" => (k_here; (with_reducible show wpAny _ _ (compareOp CmpOp.Eq (Value.ref _) _) _ _ _); (refine cmp_ofEq ?_); k_dflt (refine' cmp_K ?zzk1 ?zzk2 ?zzk3 ?zzk4 ?zzk5 ?zzk6 ?zzk7 ?zzk8 ?_; (case zzk1 => ktr_units); (case zzk2 | zzk3 => k_asm); (case zzk4 => k_inst); (case zzk5 => k_typeOf); (case zzk6 | zzk7 | zzk8 => k_is); k_whole))
  k_with "compareOp NotEq ref ref" => (k_here; (with_reducible show wpAny _ _ (compareOp CmpOp.NotEq (Value.ref _) _) _ _ _); (refine cmp_ofNotEq ?_); k_dflt (refine' cmp_K ?zzk1 ?zzk2 ?zzk3 ?zzk4 ?zzk5 ?zzk6 ?zzk7 ?zzk8 ?_; (case zzk1 => ktr_units); (case zzk2 | zzk3 => k_asm); (case zzk4 => k_inst); (case zzk5 => k_typeOf); (case zzk6 | zzk7 | zzk8 => k_is); k_whole))
  k_with "eval Name" => (k_here; k_dflt (refine' ld ?zzk1 ?zzk2 ?_; (case zzk1 => k_asm); (case zzk2 => first | exact rfl | assumption); k_whole))
  have X0 := X
  revert X0
  k_fill
  intro _
  have hz9 := sizeLine_eq
  have hb1 : b.size < 10000000 := by omega
  have hc1 : c.size < 10000000 := by omega
  have he9 := enc_small (n := b.size) (by omega)
  dsimp only [lastAnd, lawDef, pick3, List.drop, lawEnv, lawTop, List.getD, List.getElem?_cons_zero, List.getElem?_cons_succ, Option.getD]
  refine nOf ?_
  k_steps
  rw [beq_self_eq_true]
  exact hret _ _ (by k_asm) (by first | k_asm | exact cb_drop (by assumption) (by kcj_all))
end Mine
end

section
open PySem PySem.Spec PySem.W PySem.Calls PyProof.Rows
set_option maxRecDepth 100000
set_option maxHeartbeats 4000000
namespace Mine
theorem lawG14 {w : World} {mean : ExcName → Option Value} {mg mb : Str → Option Value} {news : List (Addr × Obj)} {z1 dz1 z2 dz2 : Addr} {u1 v1 u2 v2 tb : Tok} {b c : Array UInt8} (hb : b.size ≤ 5000) (hc : c.size ≤ 20000) (i1 : dz1 < z1) (i2 : dz2 < z2)
   {dp un : Nat} {gd : Option (List Code)} {a : Addr} {ccd : Value} {A₀ : Around} {h₀ : Heap} {L : Addr} {m : Str → Option Value} {s : Shared} {Q : Flow → Shared → Prop} {E : Value → Shared → Prop}
   (B : Below A₀ h₀ [] h₀) (F : Fr h₀ L s.heap m) (X : (Mine.hd.heap_39 w.params).In h₀) (N : News h₀ L s.heap ((z2, instObj 789 dz2) :: (dz2, scrD w c u2 v2) :: (z1, instObj 789 dz1) :: (dz1, scrD w b u1 v1) :: news)) (T : Top Mine.hd.view_39 LS mean mg mb h₀) 
   (hd : dp + 200 < recursionLimit) (hu : un + 1000 < cLine)
   (hm1 : m (Str.ofString "octets") = some (.bytes b tb)) (hm2 : m (Str.ofString "made") = some (.ref z1)) (hm3 : m (Str.ofString "other") = some (.ref z2))
   (hret : ∀ h' tk', Fr h₀ L h' m → News h₀ L h' ((z2, instObj 789 dz2) :: (dz2, scrD w c u2 v2) :: (z1, instObj 789 dz1) :: (dz1, scrD w b u1 v1) :: news) → Q (.ret (.bool true)) { s with heap := h', toks := tk' }) :
   wpN (model Challenge.rw_bd0009_01.row.prog w) (lawTop dp un gd L a ccd) (execs (lawDef.1.drop 14) (lawEnv L a ccd)) Q E s := by
  refine nExecsCons (nReturn (nAnd ?_))
  refine lawR0 hb hc i1 i2 B F X N T hd hu hm1 hm2 hm3 ?_
  intro h0 k0 F0 N0
  refine wpAny_truthy_bool ?_
  rw [if_pos rfl]
  refine nAnd ?_
  refine lawR1 hb hc i1 i2 B F0 X N0 T hd hu hm1 hm2 hm3 ?_
  intro h1 k1 F1 N1
  refine wpAny_truthy_bool ?_
  rw [if_pos rfl]
  refine nAnd ?_
  refine lawR2 hb hc i1 i2 B F1 X N1 T hd hu hm1 hm2 hm3 ?_
  intro h2 k2 F2 N2
  refine wpAny_truthy_bool ?_
  rw [if_pos rfl]
  refine nAnd ?_
  refine lawR3 hb hc i1 i2 B F2 X N2 T hd hu hm1 hm2 hm3 ?_
  intro h3 k3 F3 N3
  refine wpAny_truthy_bool ?_
  rw [if_pos rfl]
  refine nAndOne ?_
  refine lawR4 hb hc i1 i2 B F3 X N3 T hd hu hm1 hm2 hm3 ?_
  intro h4 k4 F4 N4
  exact hret _ _ F4 N4
end Mine
end

section
open PySem PySem.Spec PySem.W PySem.Calls PyProof.Rows
set_option maxRecDepth 100000
set_option maxHeartbeats 4000000
namespace Mine
/-- the law's whole body -/
theorem lawAll {w : World} {mean : ExcName → Option Value} {mg mb : Str → Option Value} (news : List (Addr × Obj)) (l : Addr) (sv : List Value) (ns : List Int) (hIs : IntsAre sv ns) (hNs : ns.length < 2 ^ 62) (hbits : BitsOK ns)
   (dp un : Nat) (gd : Option (List Code)) (a : Addr) (ccd : Value) (A₀ : Around) (h₀ : Heap) (L : Addr) (m : Str → Option Value) (s : Shared) (Q : Flow → Shared → Prop) (E : Value → Shared → Prop)
   (hl : h₀.IsList l sv.toArray)
   (B : Below A₀ h₀ [] h₀) (F : Fr h₀ L s.heap m) (X : (Mine.hd.heap_39 w.params).In h₀) (N : News h₀ L s.heap news) (T : Top Mine.hd.view_39 LS mean mg mb h₀) 
   (hd : dp + 200 < recursionLimit) (hu : un + 1000 < cLine)
   (hm0 : m (Str.ofString "script") = some (.ref l))
   (hret : ∀ m' h' tk' news', Fr h₀ L h' m' → News h₀ L h' news' → Q (.ret (.bool true)) { s with heap := h', toks := tk' }) :
   wpN (model Challenge.rw_bd0009_01.row.prog w) (lawTop dp un gd L a ccd) (execs lawDef.1 (lawEnv L a ccd)) Q E s := by
  refine lawA news l sv ns hIs hNs hbits dp un gd a ccd A₀ h₀ L m s Q E hl B F X N T hd hu hm0 ?_
  intro ln vs nn k m1 h1 tk1 hI hn5 hbig a1 a2 F1 N1
  refine lawB news l ln vs nn k hI hn5 hbig dp un gd a ccd A₀ h₀ L m1 _ Q E B F1 X N1 T hd hu a1 a2 ?_
  intro lt ws m2 h2 tk2 hW a3 a4 a5 F2 N2
  refine lawC news l ln lt sv ns hIs hNs hbits vs ws nn k hI hbig hW dp un gd a ccd A₀ h₀ L m2 _ Q E hl B F2 X N2 T hd hu a3 a4 a5 ?_
  intro m3 h3 tk3 a6 a7 F3 N3
  refine lawD news l ln vs nn k hI hn5 hbig dp un gd a ccd A₀ h₀ L m3 _ Q E B F3 X (cb_drop N3 fun p hp => .tail _ hp) T hd hu a6 a7 ?_
  intro m4 h4 tk4 a8 F4 N4
  refine lawE5 news l sv ns hIs hNs hbits dp un gd a ccd A₀ h₀ L m4 _ Q E hl B F4 X N4 T hd hu a8 ?_
  intro lr lo rws ows m5 h5 tk5 c1 c2 c3 hR hO F5 N5
  refine lawE6 news l lr lo sv rws ows _ _ _ _ ns hIs hNs hbits dp un gd a ccd A₀ h₀ L m5 _ Q E hl hR hO sm_items (sm_items.mono (by decide)) B F5 X N5 T hd hu c1 c2 c3 ?_
  intro lo' ows' n2' cs' m6 h6 tk6 d1 d2 d3 hO' hS' F6 N6
  refine lawE7 news l lr lo' sv rws ows' _ _ _ _ ns hIs hNs hbits dp un gd a ccd A₀ h₀ L m6 _ Q E hl hR hO' sm_items hS' B F6 X N6 T hd hu d1 d2 d3 ?_
  intro lo'' ows'' n2'' cs'' m7 h7 tk7 e1 e2 e3 hO'' hS'' F7 N7
  have hs1 : rws.toArray.size ≤ sizeLine := by
    have h1 := hR.len
    have h2 := (sm_items (ns := ns) (p := 10)).1
    have hz := sizeLine_eq
    rw [List.size_toArray]; omega
  have hs2 : ows''.toArray.size ≤ sizeLine := by
    have h1 := hO''.len
    have h2 := hS''.1
    have hz := sizeLine_eq
    rw [List.size_toArray]; omega
  refine lawF8 news l lr lo'' rws ows'' _ _ hs1 hs2 dp un gd a ccd A₀ h₀ L m7 _ Q E B F7 X N7 T hd hu e1 e2 e3 ?_
  intro z1 dz1 ll1 t1 z2 dz2 ll2 t2 m8 h8 tk8 f1 f2 f3 f4 f5 f6 f7 F8 N8
  refine lawF9 _ l lr lo'' z1 z2 rws (lawItems ns 10) rws.length ?_ hR sm_items dp un gd a ccd A₀ h₀ L m8 _ Q E B F8 X N8 T hd hu f1 f2 f3 f4 f5 ?_
  · k_mem
  intro tl m9 h9 tk9 g1 g2 g3 g4 g5 g6 F9 N9
  refine lawF10 hR hO'' sm_items hS'' f6 f7 (l := l) B F9 X N9 T hd hu g2 g3 g4 g5 g6 ?_
  intro h10 tk10 F10 N10
  refine lawG11 hIs hNs hbits hl B F10 X N10 T hd hu g1 (lr := lr) (rws := rws) (n1 := rws.length) ?_ hR sm_items g2 ?_
  · k_mem
  intro b tb m11 h11 tk11 hb i1 i2 F11 N11
  refine lawG12 hIs hNs hbits hl B F11 X N11 T hd hu i1 hb i2 ?_
  intro k t m12 h12 tk12 hk hk' i3 i4 i5 F12 N12
  refine lawG13 hIs hNs hbits hl B F12 X N12 T hd hu i3 hb hk hk' i4 i5 ?_
  intro y1 dy1 u1 v1 y2 dy2 u2 v2 c m13 h13 tk13 hc j1 j2 j3 j4 j5 F13 N13
  refine lawG14 hb hc j1 j2 B F13 X N13 T hd hu j3 j4 j5 ?_
  intro h14 tk14 F14 N14
  exact hret _ _ _ _ F14 N14
end Mine
end

section
open PySem PySem.Spec PySem.W PySem.Calls PyProof.Rows
set_option maxRecDepth 100000
set_option maxHeartbeats 4000000
namespace Mine
theorem lt_of_bits {a : Int} {N : Nat} (h : Builtin.Int.intBits a ≤ N) : a.natAbs < 2 ^ N := by
  unfold Builtin.Int.intBits at h
  split at h
  · rename_i e
    have : a = 0 := by simpa using e
    subst this
    exact Nat.two_pow_pos N
  · rename_i e
    have ha : a.natAbs ≠ 0 := by
      intro z
      apply e
      simp [Int.natAbs_eq_zero.mp z]
    exact (Nat.log2_lt ha).mp (by omega)
theorem bits_of_lt {a : Int} {N : Nat} (h : a.natAbs < 2 ^ N) : Builtin.Int.intBits a ≤ N := by
  unfold Builtin.Int.intBits
  split
  · exact Nat.zero_le _
  · rename_i e
    have ha : a.natAbs ≠ 0 := by
      intro z
      apply e
      simp [Int.natAbs_eq_zero.mp z]
    exact (Nat.log2_lt ha).mpr h
theorem bits_near {a b : Int} {N : Nat} (h : Builtin.Int.intBits a ≤ N) (hb : b.natAbs < 1024) (hN : 10 ≤ N) : Builtin.Int.intBits (a + b) ≤ N + 1 := by
  have h1 := lt_of_bits h
  have h2 : b.natAbs < 2 ^ N := Nat.lt_of_lt_of_le (show b.natAbs < 2 ^ 10 from hb) (Nat.pow_le_pow_right (by decide) hN)
  refine bits_of_lt ?_
  have h3 := Int.natAbs_add_le a b
  rw [Nat.pow_succ]
  omega
theorem bitsOK {ns : List Int} (h : PyData.layable0 (.list (ns.map .int)) = true) : BitsOK ns := by
  intro k h0 h1
  unfold num
  have key : ∀ x : Int, Builtin.Int.intBits x ≤ 2 ^ 20 → Builtin.Int.intBits (x + 7 * k) ≤ 2000000 := by
    intro x hx
    refine Nat.le_trans (bits_near hx (by omega) (by decide)) (by decide)
  by_cases e : ns = []
  · rw [if_pos e]
    exact key 0 (by decide)
  · rw [if_neg e]
    refine key _ ?_
    have hl : (k % (ns.length : Int)).toNat < ns.length := by
      have : (0 : Int) < ns.length := by
        cases ns with
        | nil => exact absurd rfl e
        | cons x r => simp
      have := Int.emod_lt_of_pos k this
      have := Int.emod_nonneg k (show (ns.length : Int) ≠ 0 by omega)
      omega
    rw [List.getD_eq_getElem?_getD, List.getElem?_eq_getElem hl]
    exact PyData.bits_item_of_ints h (List.getElem_mem hl)
section
variable {prog : Program} {w : World} {A : Around} {R : Result → Shared → Prop} {s : Shared} {name : Str} {params : Arguments} {body : List Stmt} {scope : Scope}
    {dV kV pm cd doc : Value} {a : Addr} {o : Obj} {args : Args} {binds : List (Str × Value)}
theorem call_fullN
    (hroom : A.depth < recursionLimit) (ho : s.heap.get? a = some o) (hdata : o.data = .func { docDef name params body scope pm cd doc with defaults := dV, kwdefaults := kV }) (hlim : s.heap.NoLimit) (hcd : s.heap.CodeRec cd name)
    (hbind : BindsTo s { docDef name params body scope pm cd doc with defaults := dV, kwdefaults := kV } args binds)
    (hloc : ∀ x ∈ binds, scope.names.lookup x.1 = some .local)
    (h : ∀ h₁, Fr s.heap s.heap.objs.size h₁ (fun x => binds.reverse.lookup x) →
      wpN (model prog w) (A.deeper (envOf name scope s.heap.objs.size a cd)) (execs body (envOf name scope s.heap.objs.size a cd))
        (fun f s' => R (.ok (.ret (match f with | .ret v => v | _ => .none))) s')
        (fun e s' => wpAny (model prog w) (A.deeper (envOf name scope s.heap.objs.size a cd)) (leaving (envOf name scope s.heap.objs.size a cd) e)
          (fun _ s'' => R (.error e) s'') (fun e' s'' => R (.error e') s'') s')
        { s with heap := h₁, toks := s.toks + binds.length })
    (hco : scope.isCoroutine = false := by rfl) (hgen : scope.isGenerator = false := by rfl) (hk : scope.kind = .function := by rfl)
    (hcell : ∀ x ∈ scope.names, x.2 ≠ .cell := by decide) :
    codeN (model prog w) A (.call (.ref a) args) R s := by
  refine cCallFunction (body := body) hroom ho hdata hco hgen rfl hcd (hbind _ _ _ _ ?_)
  refine wpAny_newFunctionEnv hcell hloc (fun h₁ hns hsb => ⟨hlim.fresh _ hsb, cFunc ?_⟩) hk
  have hk₁ : ∀ b o, s.heap.get? b = some o → h₁.get? b = some o := fun b o e => hsb.extBut b o (Nat.ne_of_lt (Heap.lt_size e)) (Heap.get?_push_of_some _ e)
  exact h h₁ ⟨hns, hk₁, Nat.le_refl _⟩
end
end Mine
end

section
open PySem PySem.Spec PySem.W PySem.Calls PyProof.Rows
set_option maxRecDepth 100000
set_option maxHeartbeats 8000000
namespace Mine
theorem fin : PySem.Challenge.rw_bd0009_01.Holds := by
  refine Mine.hd ?_
  k_fill
  intro w s₀ s₁ mg mb G Y fa o pm cd doc dV kV ho hd hcd hD hmg hg args vals as hpre hlay hrd hwl hlo
  have KX := kIn_of Y
  have X := (Ground.X G).1
  have V := (Ground.X G).2
  refine Ground.open G ?_
  intro T B D TE TW
  try (refine guard_noD D (by decide +kernel) ?_; clear D)
  obtain ⟨_, _, M⟩ := bmod_of_top T
  have TA := at_of_top T
  try (obtain ⟨_, _, he, B0⟩ := based_of_top T rfl hmg ho hd; have he' : cd = _ := he; subst he'; clear he)
  clear hmg
  wrow_args hpre hlay hrd hwl hlo
  rename IntsAre _ _ => hI
  rename Heap.IsList _ _ _ => hL
  rename PyData.layable0 (PyData.list _) = true => hlayL
  have hbits := bitsOK hlayL
  refine nMono (Q := fun v s' => GoodW _ _ _ _ _ (.ok (.ret v)) s') (E := fun e s' => GoodW _ _ _ _ _ (.error e) s') (nCall ?_) (fun v s' g => GoodW.toG g) (fun e s' g => GoodW.toG g)
  have he := Dflts.none hD rfl
  subst he
  refine call_fullN (by decide) ho hd (Top.nolimit T) hcd (BindsTo.of_eq rfl) (locs rfl) (fun h₁ F => ?_)
  refine lawAll [] _ _ _ hI ?_ hbits _ _ _ _ _ callerA _ _ _ _ _ _ hL (below_caller s₁.heap) F KX (fun _ h => nomatch h) T (by decide) (by decide) rfl ?_
  · omega
  intro m' h' tk' news' F' _
  show GoodW _ _ _ _ _ (.ok (.ret (.bool true))) _
  refine goodW_bool F' hg (raisesW_false ?_) ?_
  · wrow_none_raised
  · wrow_post
end Mine
end

theorem PySem.Challenge.cw_bd0009_01_holds : PySem.Challenge.rw_bd0009_01.Holds :=
  Mine.fin
