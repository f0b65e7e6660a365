import PyProof.Rows.All
import Wide.All
import OpenK.AllK
import Wide.FinOn
import PyProof.FactsAll.range_2
import PySem.Builtin.Sre.Common
import PySem.Builtin.Re_Pattern.W2All
import PyProof.NeKinds
import PyProof.P3Eq
import PyProof.FactsAll.list_2
import PyProof.Conv_int
import KE.KIntText
import PyProof.FactsAll.list_4
import PyProof.Rows.SeqIn
import PyProof.NeData
import Lean
import PySem.Challenge.RW_mq0156_01
section
open PySem PySem.W PyProof.Rows PySem.Calls
open Sem (wp)
set_option Elab.async false
set_option maxRecDepth 100000
set_option maxHeartbeats 4000000
namespace Mine

def HasC (Γ : Ctx) : Prop := (Γ.code :: Γ.below.map (·.1)).any Code.isCaller = true
def BelC (Γ : Ctx) : Prop := (Γ.below.map (·.1)).any Code.isCaller = true
def wpC {α : Type} (M : Model) (A : Around) (t : Sem α) (Q : α → Shared → Prop) (E : Value → Shared → Prop) (s : Shared) : Prop :=
  ∀ Γ p, Γ.In A → HasC Γ → wp M Γ t (fun a _ s' => Q a s') (fun e _ s' => E e s') p s
def codeC (M : Model) (A : Around) (c : Code) (R : Result → Shared → Prop) (s : Shared) : Prop :=
  ∀ Γ p, Γ.code = c → Γ.Below A → BelC Γ → wpCode M Γ R p s

theorem hasC_of_bel {Γ : Ctx} (h : BelC Γ) : HasC Γ := by
  unfold HasC; rw [List.any_cons]; rw [show (Γ.below.map (·.1)).any Code.isCaller = true from h, Bool.or_true]
theorem bel_enter {Γ : Ctx} {c : Code} {h : Option Value} {p : Pos} (hc : HasC Γ) : BelC (Γ.enter c h p) := hc

section
variable {α β : Type} {M : Model} {A : Around} {E : Value → Shared → Prop} {s : Shared}
theorem wpC_any {t : Sem α} {Q : α → Shared → Prop} (h : wpAny M A t Q E s) : wpC M A t Q E s := fun Γ p hΓ _ => h Γ p hΓ
theorem codeC_any {c : Code} {R : Result → Shared → Prop} (h : codeAny M A c R s) : codeC M A c R s := fun Γ p hc hΓ _ => h Γ p hc hΓ
theorem wpC_mono {t : Sem α} {Q Q' : α → Shared → Prop} {E' : Value → Shared → Prop} (h : wpC M A t Q E s)
    (hQ : ∀ a s, Q a s → Q' a s) (hE : ∀ e s, E e s → E' e s) : wpC M A t Q' E' s :=
  fun Γ p hΓ hc => Sem.wp_mono M Γ t (fun a _ s => hQ a s) (fun e _ s => hE e s) p s (h Γ p hΓ hc)
theorem codeC_mono {c : Code} {R R' : Result → Shared → Prop} (h : codeC M A c R s) (hR : ∀ r s, R r s → R' r s) : codeC M A c R' s :=
  fun Γ p hc hΓ hb => wpCode_mono hR (h Γ p hc hΓ hb)
theorem wpC_pure {a : α} {Q : α → Shared → Prop} (h : Q a s) : wpC M A (pure a) Q E s := fun _ _ _ _ => h
theorem wpC_bind {m : Sem α} {f : α → Sem β} {Q : β → Shared → Prop} (h : wpC M A m (fun a s' => wpC M A (f a) Q E s') E s) : wpC M A (m >>= f) Q E s := fun Γ p hΓ hc => by
  rw [Sem.wp_bind']
  exact Sem.wp_mono M Γ m (fun a p' s' h' => h' Γ p' hΓ hc) (fun _ _ _ h' => h') p s (h Γ p hΓ hc)
/-- a plain step first, the path behind it -/
theorem wpC_first {m : Sem α} {f : α → Sem β} {Q : β → Shared → Prop} (h : wpAny M A m (fun a s' => wpC M A (f a) Q E s') E s) : wpC M A (m >>= f) Q E s := wpC_bind (wpC_any h)
theorem wpC_tryCatch {m : Sem α} {k : Value → Sem α} {Q : α → Shared → Prop} (h : wpC M A m Q (fun e s' => wpC M A (k e) Q E s') s) : wpC M A (tryCatch m k) Q E s := fun Γ p hΓ hc => by
  rw [Sem.wp_tryCatch']
  exact Sem.wp_mono M Γ m (fun _ _ _ h' => h') (fun e p' s' h' => h' Γ p' hΓ hc) p s (h Γ p hΓ hc)
theorem wpC_onRaise {m : Sem α} {k : Value → Sem Unit} {Q : α → Shared → Prop} (h : wpC M A m Q (fun e s' => wpC M A (k e) (fun _ s'' => E e s'') E s') s) : wpC M A (m.onRaise k) Q E s := fun Γ p hΓ hc => by
  rw [Sem.wp_onRaise]
  exact Sem.wp_mono M Γ m (fun _ _ _ h' => h') (fun e p' s' h' => h' Γ p' hΓ hc) p s (h Γ p hΓ hc)
theorem wpC_attempt {m : Sem α} {Q : Except Value α → Shared → Prop} (h : wpC M A m (fun a => Q (.ok a)) (fun e => Q (.error e)) s) : wpC M A m.attempt Q E s := fun Γ p hΓ hc => by rw [Sem.wp_attempt]; exact h Γ p hΓ hc
theorem wpC_holding {vs : List Value} {m : Sem α} {Q : α → Shared → Prop} (h : wpC M A m Q E s) : wpC M A (holding vs m) Q E s := fun Γ p hΓ hc => by rw [Sem.wp_holding]; exact h Γ p hΓ hc
theorem wpC_standAt {pos : Pos} {Q : Unit → Shared → Prop} (h : Q () s) : wpC M A (standAt pos) Q E s := fun _ _ _ _ => h
theorem wpC_of_eq {t : Sem α} {a : α} {Q : α → Shared → Prop} (e : t = pure a) (h : Q a s) : wpC M A t Q E s := e ▸ wpC_pure h
theorem wpC_run {c : Code} {h : Option Value} {Q : Flow → Shared → Prop} (hc : codeC M (A.mark h) c (fun r s' => match r with | .ok f => Q f s' | .error e => E e s') s) (hnb : h ≠ some byPass := by intro x; cases x) :
    wpC M A (run c h) Q E s := fun Γ p hΓ hC => by rw [Sem.wp_run]; exact hc _ p rfl (hΓ.enter c h p hnb) hC
theorem wpC_runValue {c : Code} {Q : Value → Shared → Prop} (hc : codeC M A c (fun r s' => match r with | .ok (.ret v) => Q v s' | .ok _ => False | .error e => E e s') s) : wpC M A (runValue c) Q E s :=
  fun Γ p hΓ hC => by rw [Sem.wp_runValue]; exact hc _ p rfl (hΓ.enter c none p (by intro x; cases x)) hC
theorem wpC_call {f : Value} {pos : List Value} {kw : List (Str × Value)} {Q : Value → Shared → Prop} (hc : codeC M A (.call f ⟨pos, kw⟩) (fun r s' => match r with | .ok (.ret v) => Q v s' | .ok _ => False | .error e => E e s') s) :
    wpC M A (call f pos kw) Q E s := wpC_runValue hc
theorem codeC_tree {c : Code} {R : Result → Shared → Prop}
    (h : wpC M (A.under c) (M.den c) (fun fin s' => match fin with | .done f => R (.ok f) s' | .again c' => c'.quiet = true ∧ codeC M A c' R s') (fun e s' => R (.error e) s') s) : codeC M A c R s := fun Γ p hc hΓ hb => by
  rw [wpCode_iff_wp, hc]
  refine Sem.wp_mono M Γ _ (fun fin p' s' h' => ?_) (fun _ _ _ h' => h') p s (h Γ p (hc ▸ hΓ.in) (hasC_of_bel hb))
  cases fin with
  | done f => exact h'
  | again c' => exact ⟨h'.1, h'.2 (Γ.goto c') p' rfl (hΓ.goto c') hb⟩
theorem codeC_loop {c : Code} {R : Result → Shared → Prop} (hq : c.quiet = true) (I : Nat → Shared → Prop)
    (turn : ∀ n s, I n s → wpC M (A.under c) (M.den c)
      (fun fin s' => match fin with
        | .done f => R (.ok f) s'
        | .again c' => (c' = c ∧ ∃ m, m < n ∧ I m s') ∨ (c'.quiet = true ∧ codeC M A c' R s')) (fun e s' => R (.error e) s') s)
    (n : Nat) (h : I n s) : codeC M A c R s := by
  induction n using Nat.strongRecOn generalizing s with
  | ind n ih =>
    refine codeC_tree (wpC_mono (turn n s h) (fun fin s' hf => ?_) fun _ _ h' => h')
    cases fin with
    | done f => exact hf
    | again c' =>
      rcases hf with ⟨rfl, m, hm, hI⟩ | hf
      · exact ⟨hq, ih m hm hI⟩
      · exact hf
theorem wpC_execs {env : Env} {st rest} {Q : Flow → Shared → Prop} (h : wpC M A (exec st env) (fun f s' => match f with | .next => wpC M A (execs rest env) Q E s' | f => Q f s') E s) :
    wpC M A (execs (st :: rest) env) Q E s := by
  rw [execs_cons]
  refine wpC_bind (wpC_mono h (fun f s' h' => ?_) fun _ _ x => x)
  cases f <;> first | exact h' | exact wpC_pure h'
theorem wpC_runOwn {env : Env} {c : Code} {h : Option Value} {Q : Flow → Shared → Prop}
    (hc : codeC M (A.mark h) c (fun r s' => match r with | .ok f => Q f s' | .error e => cameBackBy M A env E e s') s) (hnb : h ≠ some byPass := by intro x; cases x) :
    wpC M A (runOwn c env h) Q E s := by
  unfold runOwn
  exact wpC_onRaise (wpC_mono (wpC_run hc hnb) (fun _ _ x => x) fun _ _ x => wpC_any x)
theorem wpC_noted {env : Env} {m : Sem α} {Q : α → Shared → Prop} (h : wpC M A m Q (notedBy M A env E) s) : wpC M A (m.onRaise fun x => do noteFrame x env; theTreesLotGoes x) Q E s :=
  wpC_onRaise (wpC_mono h (fun _ _ q => q) fun _ _ hx => wpC_any (wpAny_bind (wpAny_mono hx (fun _ _ e => wpAny_theTreesLotGoes e) fun _ _ e => e)))

/-- the one thing that is asked of the caller: no refusal is marked -/
theorem wpC_mark {own : List String} {e : Value} {Q : Unit → Shared → Prop} (h : Q () s) : wpC M A (markTheRefusal own e) Q E s := fun Γ p hΓ hc => by
  have e1 : pythonCodeMadeTheCall own (((Γ.code, p) :: Γ.below).map (·.1)) = false := by
    unfold pythonCodeMadeTheCall
    have : (((Γ.code, p) :: Γ.below).map (·.1)).any Code.isCaller = true := hc
    show ((!(((Γ.code, p) :: Γ.below).map (·.1)).any Code.isCaller) && _ && _) = false
    rw [this]
    rfl
  unfold markTheRefusal
  rw [Sem.wp_bind']
  show wp M Γ (if pythonCodeMadeTheCall own (((Γ.code, p) :: Γ.below).map (·.1)) = true then _ else pure ()) _ _ p s
  rw [e1, if_neg Bool.false_ne_true]
  exact h
end
end Mine
end
section
open PySem PySem.W PyProof.Rows PySem.Calls
open Sem (wp)
set_option Elab.async false
set_option maxRecDepth 100000
set_option maxHeartbeats 8000000
namespace Mine

theorem caller_has : HasC (⟨.builtin "claim.caller" {}, none, none, [], none⟩ : Ctx) := by unfold HasC; decide +kernel
theorem wp_of_wpC_done {M : Model} {A : Around} {Γ : Ctx} {t : Sem PySem.Fin} {R : Result → Shared → Prop} {s : Shared} (hin : Γ.In A) (hc : HasC Γ)
    (h : wpC M A t (fun fin s' => ∃ f, fin = .done f ∧ R (.ok f) s') (fun e s' => R (.error e) s') s) (p : Pos) :
    wp M Γ t (Sem.finPost M Γ R) (fun e _ s' => R (.error e) s') p s := by
  refine Sem.wp_mono M Γ t (fun fin p' s' h' => ?_) (fun _ _ _ h' => h') p s (h Γ p hin hc)
  obtain ⟨f, rfl, hf⟩ := h'
  exact hf
theorem thread_endsC {prog : Program} {w : World} {t : Sem PySem.Fin} {s : Shared} {R : Result → Shared → Prop} (hreg : s.asleep)
    (h : wpC (model prog w) callerA t (fun fin s' => ∃ f, fin = .done f ∧ (R (.ok f) s' ∧ leftWithCleanup s'.gens = false)) (fun e s' => R (.error e) s' ∧ leftWithCleanup s'.gens = false) s) :
    ∃ n r s' s'', runN (denote table) prog w n s ⟨t, .builtin "claim.caller" {}, default, []⟩ = .halted (outcomeOf r) s' ∧
      schedN (denote table) prog w n (.single s ⟨t, .builtin "claim.caller" {}, default, []⟩) = .halted (outcomeOf r) s' ∧ s'.forget = s''.forget ∧ R r s'' := by
  obtain ⟨n, r, s₁, s₂, hs, hn, hfo, hR⟩ := wp_halts_full (M := model prog w) (R := R) hreg (wp_of_wpC_done (R := fun r s' => R r s' ∧ leftWithCleanup s'.gens = false) caller_in caller_has h default)
  exact ⟨n, r, s₂, s₁, hn, hs, hfo, hR⟩

theorem callFromC {c : ClaimW} {tree : List Value → Sem PySem.Fin} {w : World} {s : Shared} {free : Addr → Prop} {gens : Prop} {kept : Heap → Prop} (hz : s.asleep) (hgens : s.gens = #[])
    (hspec : ∀ args, c.pre args = true → WData.layableAll args = true →
      ∀ ord : List DictEntry → List DictEntry, (∀ l, (ord l).Perm l) →
      ∃ vs s₁, layAllW c.records (classAt s.heap) w.params ord args s = some (vs, s₁) ∧
        wpC (model c.prog w) callerA (tree vs) (fun fin s' => ∃ f, fin = .done f ∧ (c.Ends s args vs s₁ (.ok f) s' ∧ s'.os = s.os ∧ AllBare s'.gens ∧ kept s'.heap))
          (fun e s' => c.Ends s args vs s₁ (.error e) s' ∧ s'.os = s.os ∧ AllBare s'.gens ∧ kept s'.heap) s₁) :
    c.CallFrom (fun vs => ⟨tree vs, .builtin "claim.caller" {}, default, []⟩) w free gens kept s := by
  intro args hpre hlay ord hord
  obtain ⟨vs, s₁, hlaid, hcode⟩ := hspec args hpre hlay ord hord
  have hal := layAllW_rest _ _ _ hlaid
  obtain ⟨k, r, s', s'', hrun, hsched, hfo, hcase, hos, hkp⟩ := thread_endsC (prog := c.prog) (w := w) (t := tree vs) (s := s₁)
    (R := fun r s' => c.Ends s args vs s₁ r s' ∧ s'.os = s.os ∧ kept s'.heap)
    (Shared.asleep_of_life hal.2.2.2 hz)
    (wpC_mono hcode (by
      rintro fin s' ⟨f, e, h1, h2, h3, h4⟩
      exact ⟨f, e, ⟨h1, h2, h4⟩, leftWithCleanup_false_of_bare h3⟩) (by
      rintro e s' ⟨h1, h2, h3, h4⟩
      exact ⟨⟨h1, h2, h4⟩, leftWithCleanup_false_of_bare h3⟩))
  obtain ⟨eh, _, _, eo, _⟩ := Shared.forget_eq hfo
  have hcase := hcase.congr eh
  have hkp : kept s'.heap := by first | exact eh ▸ hkp | (rw [eh] at hkp; exact hkp) | (rw [← eh] at hkp; exact hkp)
  rw [← eo] at hos
  have hlife : s'.heap.life = s.heap.life := (runN_life _ _ _ hrun).trans hal.2.2.2
  refine ⟨vs, s₁, hlaid, k, _, s', hsched, ?_, (fun _ i x hx => by rw [hgens] at hx; simp at hx), hkp, by rw [hlife], Shared.rest_eq hos⟩
  rcases hcase with ⟨v, rfl, d1, d2, d3, d4, d5⟩ | ⟨e, ob, cls, rfl, d1, d2, d3, d4, d5⟩
  · exact .inl ⟨v, rfl, d1, d2, d3, fun b o y _ => d4 b o y, d5⟩
  · exact .inr ⟨e, ob, cls, rfl, d1, d2, d3, d4, fun b o y _ => d5 b o y⟩

theorem openC {r : RowW} {tree : List Value → Sem PySem.Fin} {q : Program} {loose defs kps : List Str} {writes : Bool} {Xt : Shared → Bool} {XP : (Str → Option Value) → Heap → Prop} {α : Type} {Yf : Shared → α} {Ya : World → α} {YP : World → Heap → Prop} {N : Nat}
    (left : LeftO r.prog q loose Xt Yf Ya N) (hY : ∀ w s, Yf s = Ya w → YP w s.heap) (hYk : ∀ w h h', YP w h → (∀ b o, h.get? b = some o → h'.get? b = some o) → YP w h') (hX : ∀ s, Xt s = true → XP (s.heap.nsMap mainGlobals) s.heap) (hXk : ∀ mg h h', XP mg h → (∀ b o, h.get? b = some o → h'.get? b = some o) → XP mg h')
    (hRf : ∀ s, Xt s = true → RecFacts r.records s.heap) (hwr : (!writes || r.records.isEmpty) = true) (ok : (chainsOk q && opensWell r.prog && (frees r && r.within.isEmpty)) = true) (hb : r.prog.bare) (hw : r.promised)
    (ht : ∀ vs (w : World) (s : Shared) mg f (Q : PySem.Fin → Shared → Prop) (E : Value → Shared → Prop), s.heap.Ns mainGlobals mg → mg r.name = some f → wpC (model r.prog w) callerA (PySem.call f vs) (fun v s' => Q (.done (.ret v)) s') E s → wpC (model r.prog w) callerA (tree vs) Q E s)
    (pin : ∀ w s, s.heap.isNs mainGlobals = true → Ground q loose [] XP w s (s.heap.nsMap mainGlobals) (s.heap.nsMap builtinsNs) s.heap → ∀ n ∈ defs, isTheDefsW r.prog s.heap n)
    (call : ∀ (w : World) (s₀ s₁ : Shared) (mg mb : Str → Option Value), Ground q loose r.records XP w s₀ mg mb s₁.heap → YP w s₁.heap → ∀ (args : List WData) (vs : List Value) (as : List Addr),
      r.claim.pre args = true → WData.layableAll args = true → Laid r.records w s₀ s₁ args vs as → sysModules < s₀.heap.objs.size → ∃ f, mg r.name = some f ∧
        wpC (model r.prog w) callerA (PySem.call f vs) (fun v s' => GoodWG r.claim (classAt s₀.heap) (ExcName.means s₀.heap) args s₁ (.ok (.ret v)) s')
          (fun e s' => GoodWG r.claim (classAt s₀.heap) (ExcName.means s₀.heap) args s₁ (.error e) s') s₁) : r.claim.HoldsOpenBy (fun vs => ⟨tree vs, .builtin "claim.caller" {}, default, []⟩) defs kps writes := by
  obtain ⟨ok, k5⟩ := Bool.and_eq_true_iff.mp ok
  obtain ⟨hch, o1⟩ := Bool.and_eq_true_iff.mp ok
  obtain ⟨k5, k6⟩ := Bool.and_eq_true_iff.mp k5
  obtain ⟨hsame, hu, ha, hap, hm⟩ := frees_parts k5
  refine ⟨⟨hb, o1, by show r.makers.map _ = []; rw [hm]; rfl⟩, hw.witness, fun w => ⟨(left.behind hX hch w).1, fun s' hs' => ?_⟩⟩
  obtain ⟨s₀, hf, hg0, s, hT, hz, hgens, hg, G00, y⟩ := (left.behind (XP := fun mg h => XP mg h ∧ RecFacts r.records h) (fun s hs => ⟨hX s hs, hRf s hs⟩) hch w).2 s' hs'
  have G0 : Ground q loose [] XP w s (s.heap.nsMap mainGlobals) (s.heap.nsMap builtinsNs) s.heap := ⟨G00.T, G00.B, G00.D, G00.TE, G00.TD, G00.W, G00.X.1, G00.cls, G00.has, G00.apart, G00.once, G00.K⟩
  have RF := G00.X.2
  have hT' := hT
  refine ⟨s₀, hf, hg0, s, hT, pin w s hg G0, RF.1, RF.2.1, ?_⟩
  have hgens : s.gens = #[] := Array.eq_empty_of_size_eq_zero (beq_iff_eq.mp hgens)
  have G : Ground q loose r.records XP w s _ _ s.heap := RF.ground G0
  refine callFromC (c := r.claim) hz hgens fun args hpre hlay ord hord => ?_
  obtain ⟨⟨vs, s₁⟩, hlaid⟩ := Option.isSome_iff_exists.mp (layAllW_isSome (P := w.params) (ord := ord) G.has args r.args s (pre_splitW hpre).1)
  have keeps := layAllW_keeps _ _ _ hlaid
  have hal := layAllW_rest _ _ _ hlaid
  obtain ⟨as, hrd, hin, hold⟩ := reads_layAllW hord _ _ _ hlaid hlay s₁.heap (fun _ _ e => e)
  have L : Laid r.records w s s₁ args vs as := ⟨⟨ord, hord, hlaid⟩, hrd, hin, hold, keeps, hal.1.trans hgens, hal.2.2.1⟩
  have G₁ := G.keeps hXk keeps
  obtain ⟨f, hf, h⟩ := call w s s₁ _ _ G₁ (hYk _ _ _ (hY w s y) keeps) args vs as hpre hlay L G.low
  have hi := ident_freeW hu ha hap
  have hwi : r.claim.within = [] := List.isEmpty_iff.mp k6
  exact ⟨vs, s₁, hlaid, ht vs w s₁ _ f _ _ G₁.T.g hf (wpC_mono h (fun v s' g => ⟨_, rfl, have z := g.laid (c := r.claim) hsame hwi hi L; ⟨z.1, z.2.1, z.2.2, fun q => ⟨namesKept_of hT' hg kps keeps g.2.1.old, noTable hwr q⟩⟩⟩) fun e s' g => have z := g.laid (c := r.claim) hsame hwi hi L; ⟨z.1, z.2.1, z.2.2, fun q => ⟨namesKept_of hT' hg kps keeps g.2.1.old, noTable hwr q⟩⟩)⟩

abbrev WalkC (q : Program) (loose : List Str) (XP : (Str → Option Value) → Heap → Prop) (YP : World → Heap → Prop) (r : RowW) (d : DefRec) (kwd : List (Str × Expr)) : Prop :=
  ∀ (w : World) (s₀ s₁ : Shared) (mg mb : Str → Option Value), Ground q loose r.records XP w s₀ mg mb s₁.heap → YP w s₁.heap → ∀ (a : Addr) (o : Obj) (pm cd doc dV kV : Value), s₁.heap.get? a = some o →
    o.data = .func { docDef d.name d.params d.body d.scope pm cd doc with defaults := dV, kwdefaults := kV } → s₁.heap.CodeRec cd d.name → Dflts mg s₁.heap d.params kwd dV kV → mg d.name = some (.ref a) → s₁.gens = #[] →
    ∀ (args : List WData) (vals : List Value) (as : List Addr), r.claim.pre args = true → WData.layableAll args = true → ReadsAllW r.records (classAt s₀.heap) s₁.heap vals args as → WellAll w.params s₁.heap vals args → (∀ a ∈ as, (a == sysModules) = false) →
      wpC (model r.prog w) callerA (PySem.call (.ref a) vals) (fun v s' => GoodWG r.claim (classAt s₀.heap) (ExcName.means s₀.heap) args s₁ (.ok (.ret v)) s')
        (fun e s' => GoodWG r.claim (classAt s₀.heap) (ExcName.means s₀.heap) args s₁ (.error e) s') s₁

theorem PySem.W.holds_open {r : OpenRow} {q : Program} {loose : List Str} {Xt : Shared → Bool} {XP : (Str → Option Value) → Heap → Prop} {α : Type} {Yf : Shared → α} {Ya : World → α} {YP : World → Heap → Prop} {d : DefRec} {kwd : List (Str × Expr)} {N : Nat}
    (left : LeftO r.prog q loose Xt Yf Ya N) (hY : ∀ w s, Yf s = Ya w → YP w s.heap) (hYk : ∀ w h h', YP w h → (∀ b o, h.get? b = some o → h'.get? b = some o) → YP w h')
    (hX : ∀ s, Xt s = true → XP (s.heap.nsMap mainGlobals) s.heap) (hXk : ∀ mg h h', XP mg h → (∀ b o, h.get? b = some o → h'.get? b = some o) → XP mg h')
    (hdef : defOf q r.name = some (d, kwd)) (hp : r.prog.theDef r.name = some (d.params, d.body, d.scope)) (hk : kwWritten? d.params.kwonlyargs d.params.kw_defaults = some kwd) (hRf : ∀ s, Xt s = true → RecFacts r.records s.heap) (hwr : (!r.writes || r.records.isEmpty) = true)
    (k1 : r.wellSaid = true) (ok : (chainsOk q && opensWell r.prog && (frees r.toRowW && r.within.isEmpty)) = true) (hb : r.prog.bare) (hw : r.toRowW.promised)
    (call : WalkC q loose XP YP r.toRowW d kwd) : r.Holds := by
  refine ⟨k1, hw, openC (r := r.toRowW) (tree := fun vs => do match ← nsGet mainNs r.name with
      | some f => do ret (← PySem.call f vs)
      | none => unsupported "claim.caller:no-such-global") left hY hYk hX hXk hRf hwr ok hb hw
    (fun vs w s mg f Q E hg hf h => wpC_first (wpAny_nsGet hg (by rw [hf]; exact wpC_bind (wpC_mono h (fun _ _ x => wpC_pure x) fun _ _ x => x))))
    (fun w s hg G n hn => ?_) fun w s₀ s₁ mg mb G Y args vs as hpre hlay L low => ?_⟩
  · obtain rfl : n = r.name := by split at hn <;> simp_all
    exact pinned_of_view hg G hdef hp hk
  · obtain ⟨a, o, pm, cd, doc, dV, kV, h1, h2, h3, h4, h5⟩ := G.fn hdef
    exact ⟨.ref a, h1, call w s₀ s₁ mg mb G Y a o pm cd doc dV kV h2 h3 h4 h5 (defOf_name hdef ▸ h1) L.gens args vs as hpre hlay L.reads L.well (L.low low)⟩
open_top hd for PySem.Challenge.rw_mq0156_01
end Mine
end
section
open PySem PySem.W PyProof.Rows PySem.Calls
set_option Elab.async false
set_option maxRecDepth 100000
set_option maxHeartbeats 8000000
namespace Mine

noncomputable abbrev VV := Mine.hd.view_39
noncomputable abbrev LL : List Str := looseW VV [Str.ofString "_twin_re_1", Str.ofString "_ver_stages"]

structure Gd (w : World) (h : Heap) : Prop where
  K : (Mine.hd.heap_39 w.params).In h
  T : ∃ mean mg mb, Top VV LL mean mg mb h
theorem Gd.keeps {w : World} {h h' : Heap} (G : Gd w h) (k : h.StaysIn h') : Gd w h' :=
  ⟨G.K.keeps k, let ⟨a, b, c, t⟩ := G.T; ⟨a, b, c, t.keeps k⟩⟩
abbrev lst (xs : List Value) (n : Nat) : Obj := { cls := .type "list", data := .seq xs.toArray n }

theorem stays_hideAll {b h : Heap} {as : List Addr} (st : b.StaysIn h) (ha : ∀ a ∈ as, b.get? a = none) : b.StaysIn (hideAll h as) :=
  fun c o e => hideAll_get as (st c o e) fun q => by rw [ha c q] at e; cases e

def bmap : List (Str × Value) → Str → Option Value
  | [], _ => none
  | (k, v) :: r, y => if y = k then some v else bmap r y
theorem bmap_eq : ∀ (l : List (Str × Value)) (y : Str), l.lookup y = bmap l y
  | [], _ => rfl
  | (k, v) :: r, y => by
    rw [bmap, List.lookup_cons, ← bmap_eq r y]
    by_cases h : y = k
    · subst h; simp
    · rw [if_neg h, show (y == k) = false from by simpa using h]
theorem Fr.congr {h₀ h : Heap} {L : Addr} {m m' : Str → Option Value} (F : Fr h₀ L h m) (e : ∀ y, m y = m' y) : Fr h₀ L h m' := (funext e : m = m') ▸ F
theorem callF {prog : Program} {w : World} {A : Around} {R : Result → Shared → Prop} {s : Shared} {b : Heap} {as : List Addr}
    {name qual : Str} {params : Arguments} {body : List Stmt} {scope : Scope} {dV kV doc pm cdv ct oc : Value} {an od : Option Addr} {osl : Array (Option Value)} {f : Addr} {args : Args} {binds : List (Str × Value)}
    (G : Gd w b) (st : b.StaysIn s.heap) (ha : ∀ a ∈ as, b.get? a = none)
    (ho : (Mine.hd.heap_39 w.params).lookup f = some ⟨oc, od, .func (fnOf name qual params body scope dV kV doc pm an cdv ct), osl⟩) (hcd : codeIn (Mine.hd.heap_39 w.params) cdv qual = true) (hroom : A.depth < recursionLimit)
    (hbind : BindsTo s (fnOf name qual params body scope dV kV doc pm an cdv ct) args binds) (hloc : ∀ y ∈ binds, scope.names.lookup y.1 = some .local)
    (h : ∀ L h₁, L = s.heap.objs.size → Fr (hideAll s.heap as) L h₁ (bmap binds.reverse) → s.heap.StaysIn h₁ → Gd w (hideAll s.heap as) →
      wpAny (model prog w) (A.deeper (envOf qual scope L f cdv)) (execs body (envOf qual scope L f cdv))
        (fun fl s' => R (.ok (.ret (match fl with | .ret v => v | _ => .none))) s')
        (fun e s' => wpAny (model prog w) (A.deeper (envOf qual scope L f cdv)) (leaving (envOf qual scope L f cdv) e) (fun _ s'' => R (.error e) s'') (fun e' s'' => R (.error e') s'') s')
        { s with heap := h₁, toks := s.toks + binds.length })
    (hcell : ∀ x ∈ scope.names, x.2 ≠ .cell) (hco : scope.isCoroutine = false := by rfl) (hgen : scope.isGenerator = false := by rfl) (hk : scope.kind = .function := by rfl) :
    codeAny (model prog w) A (.call (.ref f) args) R s := by
  have GS := G.keeps st
  obtain ⟨mean, mg, mb, T⟩ := GS.T
  have st' := stays_hideAll st ha
  refine codeAny_call_def (fd := fnOf name qual params body scope dV kV doc pm an cdv ct) (body := body) (binds := binds) hroom (GS.K f _ ho) rfl T.nolimit (codeRec_of GS.K hcd) rfl hbind hcell hloc (fun h₁ hns hk₁ => ?_) hco hgen hk
  exact h _ h₁ rfl (Fr.congr ⟨hns, fun c o e => hk₁ c o (of_hideAll _ e), Nat.le_of_eq (hideAll_size _ _)⟩ (bmap_eq _)) (fun c o e => hk₁ c o e) (G.keeps st')


section
variable {prog : Program} {w : World} {A : Around} {E : Value → Shared → Prop} {s : Shared}
theorem item_at {value slice : PySem.Expr} {l : Addr} {xs : List Value} {i : Int} {u : Tok} {Q : Value → Shared → Prop} (k : Nat) (hl : s.heap.IsList l xs.toArray) (hi : i = (k : Int)) (hk : k < xs.length) (hz : xs.length < 1000) (h : Q (xs.getD k .none) s)
    (hs : subscripted slice false (.ref l) (.int i u) = operate [.ref l, .int i u] (getItem (.ref l) (.int i u)) := by with_unfolding_all rfl) :
    wpAny (model prog w) A (subscriptTail value slice (.ref l) (.int i u)) Q E s :=
  item_litK hl (by omega) (by omega) (by subst hi; rw [Int.toNat_natCast, List.getElem?_eq_getElem hk, ← List.getElem_eq_getD (h := hk) (fallback := Value.none)]) h hs
theorem set_at {h₀ : Heap} {L l : Addr} {m : Str → Option Value} {news news' : List (Addr × Obj)} {xs : List Value} {n : Nat} {i : Int} {u : Tok} {v : Value} {Q : Unit → Shared → Prop} (k : Nat)
    (F : Fr h₀ L s.heap m) (N : News h₀ L s.heap news) (U : Upd l (lst xs n) (lst (xs.set k v) n) news news') (hi : i = (k : Int)) (hk : k < xs.length) (hz : xs.length < 1000)
    (h : ∀ h', Fr h₀ L h' m → News h₀ L h' news' → Q () { s with heap := h' }) : wpAny (model prog w) A (setItem (.ref l) (.int i u) v) Q E s := by
  obtain ⟨pre, post, rfl, rfl, a, b⟩ := U.split
  have z := N (l, lst xs n) (List.mem_append.mpr (.inr (.head _)))
  subst hi
  refine ki_setAt z.1 (by omega) (by omega) (by simp; omega) (h _ (F.change (Heap.SameBut.update ..) z.2.1 z.2.2) (ki_turn _ N a b ?_ ?_))
  · show xs.toArray.setIfInBounds (k : Int).toNat v = (xs.set k v).toArray
    apply Array.toList_inj.mp
    simp
  · simp
end
def LtIn (w : World) (h : Heap) (x y : Value) (b : Bool) : Prop :=
  ∀ (prog : Program) (A : Around) (E : Value → Shared → Prop) (Q : Value → Shared → Prop) (s : Shared), h.StaysIn s.heap → A.units + 100 < cLine → Q (.bool b) s → wpAny (model prog w) A (compareOp .Lt x y) Q E s

theorem fput {h₀ h : Heap} {L : Addr} {m : Str → Option Value} {k : Str} {v : Value} (F : Fr h₀ L h m) (e : m k = some v) : Fr h₀ L h (fun y => if y = k then some v else m y) :=
  Fr.congr F fun y => by by_cases q : y = k <;> simp [q, e]
def bput : List (Str × Value) → (Str → Option Value) → Str → Option Value
  | [], m, y => m y
  | (k, v) :: r, m, y => if y = k then some v else bput r m y
def allE (m : Str → Option Value) : List (Str × Value) → Prop
  | [] => True
  | (k, v) :: r => m k = some v ∧ allE m r
theorem bput_eq {m : Str → Option Value} : ∀ {l : List (Str × Value)}, allE m l → ∀ y, m y = bput l m y
  | [], _, _ => rfl
  | (k, v) :: r, h, y => by
    by_cases q : y = k
    · subst q; rw [bput, if_pos rfl]; exact h.1
    · rw [bput, if_neg q]; exact bput_eq h.2 y
theorem fputs {h₀ h : Heap} {L : Addr} {m : Str → Option Value} (l : List (Str × Value)) (F : Fr h₀ L h m) (e : allE m l) : Fr h₀ L h (bput l m) := Fr.congr F (bput_eq e)
theorem getD_mem {xs : List Value} {k : Nat} (h : k < xs.length) : xs.getD k .none ∈ xs := by
  rw [← List.getElem_eq_getD (h := h)]; exact List.getElem_mem _
def Hold (P : Prop) : Prop := P
theorem mid {M : Model} {A : Around} {E : Value → Shared → Prop} {s : Shared} {env : Env} {st : Stmt} {rest : List Stmt} {Q : Flow → Shared → Prop} (Mid : Shared → Prop)
    (h1 : wpAny M A (exec st env) (fun f s' => match f with | .next => Hold (Mid s') | f => Q f s') E s)
    (h2 : ∀ s', Mid s' → wpAny M A (execs rest env) Q E s') : wpAny M A (execs (st :: rest) env) Q E s :=
  wpAny_execs_cons (wpAny_mono h1 (fun f s' h => by
    cases f <;> first | exact h2 _ h | exact h) fun _ _ e => e)
def WEnd (I : Nat → Shared → Prop) (n : Nat) (s : Shared) : Prop := ∃ m, m < n ∧ I m s
theorem while_inv {prog : Program} {w : World} {A : Around} {R : Result → Shared → Prop} {s : Shared} {test body orelse env} (I : Nat → Shared → Prop) (n : Nat) (h : I n s)
    (turn : ∀ n s, I n s →
      wpAny (model prog w) A (isTrue test env (eval test env)) (fun b s₂ =>
        if b then wpAny (model prog w) A (execs body env) (fun f s₃ => match f with
            | .next => WEnd I n s₃
            | .cont => WEnd I n s₃
            | .brk => R (.ok .next) s₃
            | .ret v => R (.ok (.ret v)) s₃) (notedBy (model prog w) A env fun e s' => R (.error e) s') s₂
        else wpAny (model prog w) A (execs orelse env) (fun f s₃ => R (.ok f) s₃) (notedBy (model prog w) A env fun e s' => R (.error e) s') s₂)
        (notedBy (model prog w) A env fun e s' => R (.error e) s') s) : codeAny (model prog w) A (.whileLoop test body orelse env) R s := by
  refine codeAny_whileLoop I (fun n s hI => wpAny_mono (turn n s hI) (fun b s₂ h₂ => ?_) fun _ _ x => x) n h
  cases b with
  | false => exact h₂
  | true =>
    simp only [if_true] at h₂ ⊢
    refine wpAny_mono h₂ (fun f s₃ h₃ => ?_) fun _ _ x => x
    cases f <;> exact h₃
theorem memH {a : Addr × Obj} {l : List (Addr × Obj)} : a ∈ a :: l := .head _
theorem memT {a b : Addr × Obj} {l : List (Addr × Obj)} (h : a ∈ l) : a ∈ b :: l := .tail _ h
theorem allC {P : Addr × Obj → Prop} {a : Addr × Obj} {l : List (Addr × Obj)} (h : P a) (h2 : ∀ p ∈ l, P p) : ∀ p ∈ a :: l, P p := fun p hp => by
  rcases List.mem_cons.mp hp with rfl | hp
  · exact h
  · exact h2 p hp
theorem allN {P : Addr × Obj → Prop} : ∀ p ∈ ([] : List (Addr × Obj)), P p := fun _ hp => absurd hp List.not_mem_nil
theorem subC {a : Addr × Obj} {l l' : List (Addr × Obj)} (h : a ∈ l') (h2 : ∀ p ∈ l, p ∈ l') : ∀ p ∈ a :: l, p ∈ l' := allC (P := fun p => p ∈ l') h h2
theorem subT {b : Addr × Obj} {l l' : List (Addr × Obj)} (h : ∀ p ∈ l, p ∈ l') : ∀ p ∈ l, p ∈ b :: l' := fun p hp => .tail _ (h p hp)
theorem orI {P : Addr × Obj → Prop} {l l' : List (Addr × Obj)} (h : ∀ p ∈ l, p ∈ l') : ∀ p ∈ l, p ∈ l' ∨ P p := fun p hp => .inl (h p hp)
end Mine
end
section
open PySem PySem.W PyProof.Rows PySem.Calls
set_option Elab.async false
set_option maxRecDepth 100000
set_option maxHeartbeats 8000000
namespace Mine
local macro_rules | `(tactic| walk_at "fmap") => `(tactic| (intro y; (try dsimp only); (repeat' split) <;> first | rfl | (exfalso; subst_vars; first | contradiction | (rename Str.ofString _ = Str.ofString _ => q; exact absurd q (by decide)))))

def sd (lt : Value → Value → Bool) (new : Value) (sp : Nat) : Nat → List Value → Nat → List Value
  | 0, xs, pos => xs.set pos new
  | f + 1, xs, pos => if sp < pos ∧ lt new (xs.getD ((pos - 1) / 2) .none) = true then sd lt new sp f (xs.set pos (xs.getD ((pos - 1) / 2) .none)) ((pos - 1) / 2) else xs.set pos new

theorem sd_fuel (lt : Value → Value → Bool) (new : Value) (sp : Nat) : ∀ (f f' : Nat) (xs : List Value) (pos : Nat), pos ≤ f → pos ≤ f' → sd lt new sp f xs pos = sd lt new sp f' xs pos
  | 0, 0, _, _, _, _ => rfl
  | 0, f' + 1, xs, pos, h, _ => by
    have : pos = 0 := by omega
    subst this; simp [sd]
  | f + 1, 0, xs, pos, _, h => by
    have : pos = 0 := by omega
    subst this; simp [sd]
  | f + 1, f' + 1, xs, pos, h, h' => by
    simp only [sd]
    split
    · exact sd_fuel lt new sp f f' _ _ (by omega) (by omega)
    · rfl
theorem sd_eq (lt : Value → Value → Bool) (new : Value) (sp : Nat) (xs : List Value) (pos : Nat) : sd lt new sp pos xs pos =
    if sp < pos ∧ lt new (xs.getD ((pos - 1) / 2) .none) = true then sd lt new sp ((pos - 1) / 2) (xs.set pos (xs.getD ((pos - 1) / 2) .none)) ((pos - 1) / 2) else xs.set pos new := by
  cases pos with
  | zero => simp [sd]
  | succ p =>
    rw [sd]
    split
    · exact sd_fuel lt new sp _ _ _ _ (by omega) (Nat.le_refl _)
    · rfl

theorem siftdown_spec {prog : Program} {w : World} {A : Around} {R : Result → Shared → Prop} {s : Shared} {b : Heap} {l : Addr} {items : List Value} {ep : Nat} {sp pos : Nat} {u1 u2 : Tok} {lt : Value → Value → Bool}
    (G : Gd w b) (st : b.StaysIn s.heap) (hl0 : b.get? l = none) (hl : s.heap.get? l = some (lst items ep)) (hp : pos < items.length) (hn : items.length < 1000)
    (hlt : ∀ x ∈ items, ∀ y ∈ items, LtIn w b x y (lt x y)) (hu : A.units + 200 < cLine)
    (hroom : A.depth < recursionLimit)
    (h : ∀ h' tk, b.StaysIn h' → h'.get? l = some (lst (sd lt (items.getD pos .none) sp pos items pos) ep) → (hideAll s.heap [l]).StaysIn h' → R (.ok (.ret .none)) { s with heap := h', toks := tk }) :
    codeAny (model prog w) A (.call (.ref 72) ⟨[.ref l, .int (sp : Int) u1, .int (pos : Int) u2], []⟩) R s := by
  refine callF (as := [l]) G st (by simpa using hl0) (by with_unfolding_all rfl) (by with_unfolding_all rfl) hroom (BindsTo.of_eq rfl) (locs rfl) (fun L h₁ eL F hk G' => ?_) (by decide)
  have hL : l ≠ L := by rw [eL]; exact Nat.ne_of_lt (Heap.lt_size hl)
  have N : News (hideAll s.heap [l]) L h₁ [(l, lst items ep)] := by
    intro p hp
    cases hp with
    | head => exact ⟨hk _ _ hl, hL, hideAll_none _ (.head _)⟩
    | tail _ h => cases h
  have st' : b.StaysIn (hideAll s.heap [l]) := stays_hideAll st (by simpa using hl0)
  obtain ⟨mean, mg, mb, T⟩ := G'.T
  have X := G'.K
  generalize hg : hideAll s.heap [l] = g at *
  clear eL hg hk G'
  replace F : Fr g L h₁ (fun y => if y = Str.ofString "pos" then some (Value.int (pos : Int) u2) else if y = Str.ofString "startpos" then some (Value.int (sp : Int) u1) else if y = Str.ofString "heap" then some (Value.ref l) else none) := F
  generalize s.toks + _ = t0
  walk1
  walk1
  walk1
  walk1
  walk1
  refine item_at pos (News.isList N (.head _)) rfl hp hn ?_
  walk1
  rename_i h₂ F N
  walk1
  refine wpAny_While ?_
  refine while_inv (fun n s' => ∃ h' tk xs p u pv ppv, s' = { s with heap := h', toks := tk } ∧
    Fr g L h' (fun y => if y = Str.ofString "parent" then pv else if y = Str.ofString "parentpos" then ppv else if y = Str.ofString "newitem" then some (items.getD pos Value.none) else if y = Str.ofString "pos" then some (Value.int ((p : Nat) : Int) u) else if y = Str.ofString "startpos" then some (Value.int (sp : Int) u1) else if y = Str.ofString "heap" then some (Value.ref l) else none) ∧
    News g L h' [(l, lst xs ep)] ∧ p < xs.length ∧ xs.length = items.length ∧ (∀ x ∈ xs, x ∈ items) ∧ n = p ∧
    sd lt (items.getD pos .none) sp p xs p = sd lt (items.getD pos .none) sp pos items pos) pos ?_ ?_
  · exact ⟨_, _, _, pos, u2, none, none, rfl, Fr.congr F (by walk_at "fmap"), N, hp, rfl, fun _ h => h, rfl, rfl⟩
  · rintro n s' ⟨h', tk, xs, p, u, pv, ppv, rfl, F, N, hp', hlen, hmem, rfl, heq⟩
    walk1
    walk1
    walk1
    walk1
    walk1
    walk1
    · rename_i hc
      replace hc : sp < n := by omega
      walk1
      walk1
      walk1
      walk1
      walk1
      walk1
      walk1
      walk1
      walk1
      have e : ((n : Int) - 1).fdiv (2 ^ Int.toNat 1) = (((n - 1) / 2 : Nat) : Int) := by
        rw [Int.fdiv_eq_ediv_of_nonneg _ (by decide)]; simp; omega
      have hq : (n - 1) / 2 < xs.length := by omega
      rw [e]
      dsimp only
      generalize hpp : (n - 1) / 2 = pp at *
      generalize tk + 1 + 1 + 1 = t1
      repeat walk1
      rename Fr _ _ _ _ => F
      rename News _ _ _ _ => N
      refine item_at pp (News.isList N (.head _)) rfl hq (by omega) ?_
      generalize hpar : xs.getD pp .none = par at *
      repeat walk1
      rename Fr _ _ _ _ => F
      rename News _ _ _ _ => N
      have hpm : par ∈ items := by
        rw [← hpar, ← List.getElem_eq_getD (h := hq)]; exact hmem _ (List.getElem_mem _)
      have hnm : items.getD pos .none ∈ items := by
        rw [← List.getElem_eq_getD (h := hp)]; exact List.getElem_mem _
      refine hlt _ hnm _ hpm _ _ _ _ _ (fun c o e => F.keep c o (st' c o e)) (by simp; omega) ?_
      rw [sd_eq, hpp, hpar] at heq
      generalize hnew : items.getD pos .none = new at *
      refine wpAny_truthy_bool ?_
      cases hb : lt new par with
      | true =>
        repeat walk1
        refine set_at n F N (Upd.head (by simp)) rfl (by omega) (by omega) ?_
        intro h₅ F N
        repeat walk1
        rename Fr _ _ _ _ => F
        rename News _ _ _ _ => N
        rw [if_pos ⟨hc, hb⟩] at heq
        refine ⟨pp, by omega, _, _, xs.set n par, pp, t1, some par, some (Value.int (pp : Int) t1), rfl, Fr.congr F ?_, N, by simp; omega, by simp; omega, ?_, rfl, heq⟩
        · walk_at "fmap"
        · intro x hx
          rcases List.mem_or_eq_of_mem_set hx with h' | h'
          · exact hmem x h'
          · rw [h']; exact hpm
      | false =>
        repeat walk1
        refine set_at n F N (Upd.head (by simp)) rfl (by omega) (by omega) ?_
        intro h₅ F N
        repeat walk1
        refine h _ _ (fun c o e => F.keep c o (st' c o e)) ?_ F.keep
        rw [(N _ (.head _)).1, ← heq, if_neg (fun q => by simp [hb] at q)]
    · rename_i hc
      replace hc : ¬ sp < n := by omega
      repeat walk1
      refine set_at n F N (Upd.head (by simp)) rfl (by omega) (by omega) ?_
      intro h₅ F N
      repeat walk1
      refine h _ _ (fun c o e => F.keep c o (st' c o e)) ?_ F.keep
      rw [(N _ (.head _)).1, ← heq, sd_eq, if_neg (fun q => hc q.1)]
end Mine
end
section
open PySem PySem.W PyProof.Rows PySem.Calls
set_option Elab.async false
set_option maxRecDepth 100000
set_option maxHeartbeats 8000000
namespace Mine
local macro_rules | `(tactic| walk_at "fmap") => `(tactic| (intro y; (try dsimp only); (repeat' split) <;> first | rfl | (exfalso; subst_vars; first | contradiction | (rename Str.ofString _ = Str.ofString _ => q; exact absurd q (by decide)))))

local macro_rules | `(tactic| walk_at "wk") => `(tactic| repeat ((try dsimp only); (fail_if_success (with_reducible show wpAny _ _ (exec (Stmt.While _ _ _ _) _) _ _ _)); (fail_if_success (with_reducible show wpAny _ _ (exec (Stmt.For _ _ _ _ _) _) _ _ _)); walk1))
local macro_rules | `(tactic| walk_at "wi") => `(tactic| repeat ((try dsimp only); (fail_if_success (with_reducible show wpAny _ _ (execs (Stmt.If _ _ _ _ :: _) _) _ _ _)); (fail_if_success (with_reducible show wpAny _ _ (exec (Stmt.While _ _ _ _) _) _ _ _)); (fail_if_success (with_reducible show wpAny _ _ (exec (Stmt.For _ _ _ _ _) _) _ _ _)); walk1))
theorem fillK : PySem.Challenge.rw_mq0156_01 = PySem.Challenge.rw_mq0156_01 ∧ Mine.hd.heap_39 = Mine.hd.heap_39 := by k_fill; exact ⟨rfl, rfl⟩
def suc (lt : Value → Value → Bool) (xs : List Value) (c : Nat) : Nat := if c + 1 < xs.length ∧ lt (xs.getD c .none) (xs.getD (c + 1) .none) = false then c + 1 else c
def su (lt : Value → Value → Bool) : Nat → List Value → Nat → List Value × Nat
  | 0, xs, pos => (xs, pos)
  | f + 1, xs, pos => if 2 * pos + 1 < xs.length then su lt f (xs.set pos (xs.getD (suc lt xs (2 * pos + 1)) .none)) (suc lt xs (2 * pos + 1)) else (xs, pos)
def siftup (lt : Value → Value → Bool) (xs : List Value) (pos : Nat) : List Value :=
  sd lt (xs.getD pos .none) pos (su lt xs.length xs pos).2 ((su lt xs.length xs pos).1.set (su lt xs.length xs pos).2 (xs.getD pos .none)) (su lt xs.length xs pos).2

theorem su_fuel (lt : Value → Value → Bool) : ∀ (f f' : Nat) (xs : List Value) (pos : Nat), xs.length ≤ pos + f → xs.length ≤ pos + f' → su lt f xs pos = su lt f' xs pos
  | 0, 0, _, _, _, _ => rfl
  | 0, f' + 1, xs, pos, h, _ => by rw [su, su, if_neg (by omega)]
  | f + 1, 0, xs, pos, _, h => by rw [su, su, if_neg (by omega)]
  | f + 1, f' + 1, xs, pos, h, h' => by
    rw [su, su]
    split
    · have : 2 * pos + 1 ≤ suc lt xs (2 * pos + 1) := by unfold suc; split <;> omega
      exact su_fuel lt f f' _ _ (by simp; omega) (by simp; omega)
    · rfl
theorem siftup_spec {prog : Program} {w : World} {A : Around} {R : Result → Shared → Prop} {s : Shared} {b : Heap} {l : Addr} {items : List Value} {ep : Nat} {pos : Nat} {u2 : Tok} {lt : Value → Value → Bool}
    (G : Gd w b) (st : b.StaysIn s.heap) (hl0 : b.get? l = none) (hl : s.heap.get? l = some (lst items ep)) (hp : pos < items.length) (hn : items.length < 1000)
    (hlt : ∀ x ∈ items, ∀ y ∈ items, LtIn w b x y (lt x y)) (hu : A.units + 300 < cLine)
    (hroom : A.depth + 1 < recursionLimit)
    (h : ∀ h' tk, b.StaysIn h' → h'.get? l = some (lst (siftup lt items pos) ep) → (hideAll s.heap [l]).StaysIn h' → R (.ok (.ret .none)) { s with heap := h', toks := tk }) :
    codeAny (model prog w) A (.call (.ref 79) ⟨[.ref l, .int (pos : Int) u2], []⟩) R s := by
  refine callF (as := [l]) G st (by simpa using hl0) (by with_unfolding_all rfl) (by with_unfolding_all rfl) (by omega) (BindsTo.of_eq rfl) (locs rfl) (fun L h₁ eL F hk G' => ?_) (by decide)
  have hL : l ≠ L := by rw [eL]; exact Nat.ne_of_lt (Heap.lt_size hl)
  have N : News (hideAll s.heap [l]) L h₁ [(l, lst items ep)] := by
    intro p hp
    cases hp with
    | head => exact ⟨hk _ _ hl, hL, hideAll_none _ (.head _)⟩
    | tail _ h => cases h
  have st' : b.StaysIn (hideAll s.heap [l]) := stays_hideAll st (by simpa using hl0)
  obtain ⟨mean, mg, mb, T⟩ := G'.T
  have X := G'.K
  generalize hg : hideAll s.heap [l] = g at *
  clear eL hg hk G'
  replace F : Fr g L h₁ (fun y => if y = Str.ofString "pos" then some (Value.int (pos : Int) u2) else if y = Str.ofString "heap" then some (Value.ref l) else none) := F
  walk_at "wk"
  refine PyProof.Rows.len_list (News.isList N (.head _)) (by simp; omega) ?_
  rw [List.size_toArray]
  dsimp only
  generalize s.toks + _ = t0
  walk_at "wk"
  rename Fr _ _ _ _ => F
  rename News _ _ _ _ => N
  refine item_at pos (News.isList N (.head _)) rfl hp hn ?_
  generalize hnew : items.getD pos .none = new at *
  walk_at "wk"
  rename Fr _ _ _ _ => F
  rename News _ _ _ _ => N
  refine wpAny_While ?_
  refine while_inv (fun n s' => ∃ h' tk m xs p u uc ue us, s' = { s with heap := h', toks := tk } ∧ Fr g L h' m ∧ News g L h' [(l, lst xs ep)] ∧
    m (Str.ofString "heap") = some (.ref l) ∧ m (Str.ofString "pos") = some (.int ((p : Nat) : Int) u) ∧ m (Str.ofString "childpos") = some (.int (2 * ((p : Nat) : Int) + 1) uc) ∧
    m (Str.ofString "endpos") = some (.int ((items.length : Nat) : Int) ue) ∧ m (Str.ofString "startpos") = some (.int ((pos : Nat) : Int) us) ∧ m (Str.ofString "newitem") = some new ∧
    p < xs.length ∧ xs.length = items.length ∧ (∀ x ∈ xs, x ∈ items) ∧ n = xs.length - p ∧ su lt items.length items pos = su lt n xs p) (items.length - pos) ?_ ?_
  · exact ⟨_, _, _, items, pos, _, _, _, _, rfl, F, N, rfl, rfl, rfl, rfl, rfl, rfl, hp, rfl, fun _ h => h, rfl, su_fuel _ _ _ _ _ (by omega) (by omega)⟩
  · rintro n s' ⟨h', tk, m, xs, p, u, uc, ue, us, rfl, F, N, e1, e2, e3, e4, e5, e6, hp', hlen, hmem, rfl, heq⟩
    replace F := fputs [(Str.ofString "heap", _), (Str.ofString "pos", _), (Str.ofString "childpos", _), (Str.ofString "endpos", _), (Str.ofString "startpos", _), (Str.ofString "newitem", _)] F ⟨e1, e2, e3, e4, e5, e6, trivial⟩
    walk1
    walk1
    walk1
    walk1
    walk1
    walk1
    · rename_i hc
      replace hc : 2 * p + 1 < xs.length := by omega
      walk_at "wi"
      rename Fr _ _ _ _ => F
      rename News _ _ _ _ => N
      refine mid (fun s' => ∃ h' tk m uc u1 u2 u3, s' = { s with heap := h', toks := tk } ∧ Fr g L h' m ∧ News g L h' [(l, lst xs ep)] ∧
        m (Str.ofString "heap") = some (.ref l) ∧ m (Str.ofString "pos") = some (.int ((p : Nat) : Int) u1) ∧ m (Str.ofString "childpos") = some (.int ((suc lt xs (2 * p + 1) : Nat) : Int) uc) ∧
        m (Str.ofString "endpos") = some (.int ((items.length : Nat) : Int) u2) ∧ m (Str.ofString "startpos") = some (.int ((pos : Nat) : Int) u3) ∧ m (Str.ofString "newitem") = some new) ?_ ?_
      · by_cases hc2 : 2 * p + 1 + 1 < xs.length
        · walk_at "wk"
          refine item_at (2 * p + 1) (News.isList N (.head _)) (by omega) hc (by omega) ?_
          walk_at "wk"
          refine item_at (2 * p + 1 + 1) (News.isList N (.head _)) (by omega) hc2 (by omega) ?_
          refine hlt _ (hmem _ (getD_mem hc)) _ (hmem _ (getD_mem hc2)) _ _ _ _ _ (fun c o e => F.keep c o (st' c o e)) (by simp; omega) ?_
          refine wpAny_truthy_bool ?_
          cases hb : lt (xs.getD (2 * p + 1) .none) (xs.getD (2 * p + 1 + 1) .none) with
          | true =>
            walk_at "wk"
            have hs : suc lt xs (2 * p + 1) = 2 * p + 1 := by rw [suc, if_neg (fun q => by rw [hb] at q; exact absurd q.2 (by decide))]
            exact ⟨_, _, _, _, _, _, _, rfl, F, N, rfl, rfl, by rw [hs]; rfl, rfl, rfl, rfl⟩
          | false =>
            walk_at "wk"
            rename Fr _ _ _ _ => F
            rename News _ _ _ _ => N
            have hs : suc lt xs (2 * p + 1) = 2 * p + 1 + 1 := by rw [suc, if_pos ⟨hc2, hb⟩]
            exact ⟨_, _, _, _, _, _, _, rfl, F, N, rfl, rfl, by rw [hs]; rfl, rfl, rfl, rfl⟩
        · walk_at "wk"
          have hs : suc lt xs (2 * p + 1) = 2 * p + 1 := by rw [suc, if_neg (fun q => hc2 q.1)]
          exact ⟨_, _, _, _, _, _, _, rfl, F, N, rfl, rfl, by rw [hs]; rfl, rfl, rfl, rfl⟩
      · clear F N
        rintro s' ⟨h', tk, m, uc, u1, u2, u3, rfl, F, N, e1, e2, e3, e4, e5, e6⟩
        replace F := fputs [(Str.ofString "heap", _), (Str.ofString "pos", _), (Str.ofString "childpos", _), (Str.ofString "endpos", _), (Str.ofString "startpos", _), (Str.ofString "newitem", _)] F ⟨e1, e2, e3, e4, e5, e6, trivial⟩
        have hcl : suc lt xs (2 * p + 1) < xs.length := by unfold suc; split <;> omega
        have hcg : 2 * p + 1 ≤ suc lt xs (2 * p + 1) := by unfold suc; split <;> omega
        generalize hcc : suc lt xs (2 * p + 1) = c at *
        walk_at "wk"
        refine item_at c (News.isList N (.head _)) rfl hcl (by omega) ?_
        walk_at "wk"
        refine set_at p F N (Upd.head (by simp)) rfl (by omega) (by omega) ?_
        intro h₅ F N
        walk_at "wk"
        rename Fr _ _ _ _ => F
        rename News _ _ _ _ => N
        refine ⟨xs.length - c, by omega, _, _, _, xs.set p (xs.getD c .none), c, _, _, _, _, rfl, F, N, rfl, rfl, rfl, rfl, rfl, rfl, by simp; omega, by simp; omega, ?_, by simp, ?_⟩
        · intro x hx
          rcases List.mem_or_eq_of_mem_set hx with h' | h'
          · exact hmem x h'
          · rw [h']; exact hmem _ (getD_mem hcl)
        · rw [heq, show xs.length - p = (xs.length - p - 1) + 1 from by omega, su, if_pos hc, hcc]
          exact su_fuel _ _ _ _ _ (by simp; omega) (by simp; omega)
    · rename_i hc
      replace hc : ¬ 2 * p + 1 < xs.length := by omega
      walk_at "wk"
      refine set_at p F N (Upd.head (by simp)) rfl (by omega) (by omega) ?_
      intro h₅ F N
      walk_at "wk"
      have hs : su lt items.length items pos = (xs, p) := by
        rw [heq, show xs.length - p = (xs.length - p - 1) + 1 from by omega, su, if_neg hc]
      have hx : (xs.set p new).getD p .none = new := by simp [hp']
      have hgl : g.get? l = none := (N _ (.head _)).2.2
      have hml : ∀ x ∈ xs.set p new, x ∈ items := fun x hx => by
        rcases List.mem_or_eq_of_mem_set hx with h' | h'
        · exact hmem x h'
        · rw [h', ← hnew]; exact getD_mem hp
      refine wpAny_call (siftdown_spec (lt := lt) G (fun c o e => F.keep c o (st' c o e)) hl0 (N _ (.head _)).1 (by simp; omega) (by simp; omega) (fun x hx y hy => hlt x (hml x hx) y (hml y hy)) (by simp; omega) (by simp [Around.deeper]; omega) ?_)
      intro h₆ tk₆ k1 k2 k3
      rw [hx] at k2
      refine wpAny_execs_nil (h _ _ k1 ?_ (fun c o e => k3 c o (hideAll_get _ (F.keep c o e) ?_)))
      · rw [k2]; unfold siftup; rw [hs, hnew]
      · intro q
        simp only [List.mem_singleton] at q
        rw [q, hgl] at e; cases e
end Mine
end
section
open PySem PySem.W PyProof.Rows PySem.Calls
set_option Elab.async false
set_option maxRecDepth 100000
set_option maxHeartbeats 8000000
namespace Mine

def FEnd (g : Heap) (L I : Addr) (O : Obj → Prop) (J : (Str → Option Value) → List (Addr × Obj) → Prop) (s s₃ : Shared) : Prop :=
  ∃ h tk m news o, s₃ = { s with heap := h, toks := tk } ∧ O o ∧ Fr g L h m ∧ News g L h ((I, o) :: news) ∧ (∀ p ∈ news, p.1 ≠ I) ∧ J m news

theorem news_ext {g h h' : Heap} {L I : Addr} {o o' : Obj} {news : List (Addr × Obj)} (N : News g L h ((I, o) :: news)) (hne : ∀ p ∈ news, p.1 ≠ I) (k : Heap.ExtBut I h h') (e : h'.get? I = some o') : News g L h' ((I, o') :: news) := by
  intro p hp
  cases hp with
  | head => exact ⟨e, (N _ (.head _)).2⟩
  | tail _ hp => exact ⟨k _ _ (hne p hp) (N _ (.tail _ hp)).1, (N _ (.tail _ hp)).2⟩
theorem news_tail {g h h' : Heap} {L I : Addr} {o : Obj} {news : List (Addr × Obj)} (N : News g L h ((I, o) :: news)) (hne : ∀ p ∈ news, p.1 ≠ I) (k : Heap.ExtBut I h h') : News g L h' news :=
  fun p hp => ⟨k _ _ (hne p hp) (N _ (.tail _ hp)).1, (N _ (.tail _ hp)).2⟩
theorem fr_ext {g h h' : Heap} {L I : Addr} {m : Str → Option Value} (F : Fr g L h m) (hL : L ≠ I) (hg : g.get? I = none) (k : Heap.ExtBut I h h') : Fr g L h' m :=
  ⟨F.ns.at' fun o e => k _ o hL e, fun b o e => k b o (fun q => by rw [q, hg] at e; cases e) (F.keep b o e), F.above⟩

theorem for_gen {prog : Program} {w : World} {A : Around} {R : Result → Shared → Prop} {s : Shared} {g : Heap} {L I : Addr} {n : Nat} {x : Str} {px : Pos} {body : List Stmt} {env : Env} {m : Str → Option Value} {news : List (Addr × Obj)} {o₀ : Obj}
    (O : Nat → Obj → Prop) (P : Nat → Value → Prop) (J : Nat → (Str → Option Value) → List (Addr × Obj) → Prop)
    (F : Fr g L s.heap m) (N : News g L s.heap ((I, o₀) :: news)) (hO : O 0 o₀) (hne : ∀ p ∈ news, p.1 ≠ I) (hJ : J 0 m news)
    (next : ∀ i m news h tk o (E : Value → Shared → Prop) (Q : Option Value → Shared → Prop), i < n → O i o → Fr g L h m → News g L h ((I, o) :: news) → J i m news →
      (∀ v h' tk' o', P i v → O (i + 1) o' → h'.get? I = some o' → Heap.ExtBut I h h' → Q (some v) { s with heap := h', toks := tk' }) → wpAny (model prog w) A (pyNext (.ref I)) Q E { s with heap := h, toks := tk })
    (fin : ∀ m news h tk o (E : Value → Shared → Prop) (Q : Option Value → Shared → Prop), O n o → Fr g L h m → News g L h ((I, o) :: news) → J n m news →
      (∀ h' tk', Heap.ExtBut I h h' → Q none { s with heap := h', toks := tk' }) → wpAny (model prog w) A (pyNext (.ref I)) Q E { s with heap := h, toks := tk })
    (turn : ∀ i v m news h tk o, i < n → P i v → J i m news → O (i + 1) o → (∀ p ∈ news, p.1 ≠ I) → Fr g L h (fun y => if y = x then some v else m y) → News g L h ((I, o) :: news) →
      wpAny (model prog w) A (execs body env) (fun f s₃ => match f with
        | .next => FEnd g L I (O (i + 1)) (J (i + 1)) s s₃
        | .cont => FEnd g L I (O (i + 1)) (J (i + 1)) s s₃
        | .brk => R (.ok .next) s₃
        | .ret v => R (.ok (.ret v)) s₃) (notedBy (model prog w) A env fun e s' => R (.error e) s') { s with heap := h, toks := tk })
    (done : ∀ m news h tk, J n m news → Fr g L h m → News g L h news → R (.ok .next) { s with heap := h, toks := tk })
    (hL : env.locals = L := by rfl) (hx : env.kindOf x = some .local := by rfl) (hp : (env.scope.kind == .class || (env.scope.kind == .module && env.locals != env.globals)) = false := by rfl) :
    codeAny (model prog w) A (.forLoop (.Name x px) (.ref I) body [] env) R s := by
  have hLI : L ≠ I := fun q => (N _ (.head _)).2.1 q.symm
  have hgI : g.get? I = none := (N _ (.head _)).2.2
  subst hL
  refine codeAny_forLoop (fun k s' => ∃ h' tk m' news' i o, s' = { s with heap := h', toks := tk } ∧ O i o ∧ Fr g env.locals h' m' ∧ News g env.locals h' ((I, o) :: news') ∧ (∀ p ∈ news', p.1 ≠ I) ∧ J i m' news' ∧ i ≤ n ∧ k = n + 1 - i) ?_ (n + 1)
    ⟨s.heap, s.toks, m, news, 0, o₀, rfl, hO, F, N, hne, hJ, Nat.zero_le _, rfl⟩
  rintro k s' ⟨h', tk, m', news', i, o, rfl, hO', F', N', hne', hJ', hi, rfl⟩
  by_cases hlt : i < n
  · refine next i m' news' h' tk o _ _ hlt hO' F' N' hJ' fun v h₁ tk₁ o₁ hP hO₁ hI₁ hk₁ => ?_
    have F₁ := fr_ext F' hLI hgI hk₁
    have N₁ := news_ext N' hne' hk₁ hI₁
    refine wpAny_assign_Name (wpAny_storeName_local hx F₁.ns (fun h₂ hn₂ hs₂ => ?_) hp)
    refine wpAny_mono (turn i v m' news' h₂ _ o₁ hlt hP hJ' hO₁ hne' (F₁.set hn₂ hs₂) (N₁.set hs₂)) (fun f s₃ h₃ => ?_) fun _ _ e => e
    cases f with
    | ret v => exact h₃
    | brk => exact h₃
    | cont =>
      obtain ⟨h₄, tk₄, m₄, news₄, o₄, rfl, hO₄, F₄, N₄, hne₄, hJ₄⟩ := h₃
      exact ⟨n + 1 - (i + 1), by omega, h₄, tk₄, m₄, news₄, i + 1, o₄, rfl, hO₄, F₄, N₄, hne₄, hJ₄, hlt, rfl⟩
    | next =>
      obtain ⟨h₄, tk₄, m₄, news₄, o₄, rfl, hO₄, F₄, N₄, hne₄, hJ₄⟩ := h₃
      exact ⟨n + 1 - (i + 1), by omega, h₄, tk₄, m₄, news₄, i + 1, o₄, rfl, hO₄, F₄, N₄, hne₄, hJ₄, hlt, rfl⟩
  · have hin : i = n := by omega
    subst hin
    refine fin m' news' h' tk o _ _ hO' F' N' hJ' fun h₁ tk₁ hk₁ => wpAny_execs_nil ?_
    exact done m' news' h₁ tk₁ hJ' (fr_ext F' hLI hgI hk₁) (news_tail N' hne' hk₁)

theorem fr_after {g h h' : Heap} {L l : Addr} {m : Str → Option Value} {news news' : List (Addr × Obj)} {o o' : Obj} (F : Fr g L h m) (N : News g L h news) (U : Upd l o o' news news')
    (k : (hideAll h [l]).StaysIn h') (e : h'.get? l = some o') : Fr g L h' m ∧ News g L h' news' := by
  obtain ⟨pre, post, rfl, rfl, a, b⟩ := U.split
  have z := N (l, o) (List.mem_append.mpr (.inr (.head _)))
  have k' : Heap.ExtBut l h h' := fun c x hc q => k c x (hideAll_get _ q (by simpa using hc))
  refine ⟨fr_ext F (fun q => z.2.1 q.symm) z.2.2 k', fun p hp => ?_⟩
  rcases List.mem_append.mp hp with q | q
  · have P := N p (List.mem_append_left _ q); exact ⟨k' _ _ (a p q) P.1, P.2⟩
  · rcases List.mem_cons.mp q with rfl | q
    · exact ⟨e, z.2⟩
    · have P := N p (List.mem_append_right _ (.tail _ q)); exact ⟨k' _ _ (b p q) P.1, P.2⟩
theorem stays_hide {g h : Heap} {L l : Addr} {m : Str → Option Value} (F : Fr g L h m) (e : g.get? l = none) : g.StaysIn (hideAll h [l]) :=
  stays_hideAll F.keep (by simpa using e)

abbrev rgIt (x left step : Int) : Obj := { cls := .type "range_iterator", dict := none, data := .fields #[rawInt x, rawInt left, rawInt step], slots := #[] }

theorem for_range {prog : Program} {w : World} {A : Around} {R : Result → Shared → Prop} {s : Shared} {g : Heap} {L I : Addr} {n : Nat} {x : Str} {px : Pos} {body : List Stmt} {env : Env} {m : Str → Option Value} {news : List (Addr × Obj)} (a c : Int)
    (J : Nat → (Str → Option Value) → List (Addr × Obj) → Prop) (hh : A.handled = none)
    (F : Fr g L s.heap m) (N : News g L s.heap ((I, rgIt a n c) :: news)) (hne : ∀ p ∈ news, p.1 ≠ I) (hJ : J 0 m news)
    (turn : ∀ i t m news h tk, i < n → J i m news → (∀ p ∈ news, p.1 ≠ I) → Fr g L h (fun y => if y = x then some (.int (a + (i : Nat) * c) t) else m y) → News g L h ((I, rgIt (a + ((i + 1 : Nat) : Int) * c) ((n : Int) - ((i + 1 : Nat) : Int)) c) :: news) →
      wpAny (model prog w) A (execs body env) (fun f s₃ => match f with
        | .next => FEnd g L I (fun o => o = rgIt (a + ((i + 1 : Nat) : Int) * c) ((n : Int) - ((i + 1 : Nat) : Int)) c) (J (i + 1)) s s₃
        | .cont => FEnd g L I (fun o => o = rgIt (a + ((i + 1 : Nat) : Int) * c) ((n : Int) - ((i + 1 : Nat) : Int)) c) (J (i + 1)) s s₃
        | .brk => R (.ok .next) s₃
        | .ret v => R (.ok (.ret v)) s₃) (notedBy (model prog w) A env fun e s' => R (.error e) s') { s with heap := h, toks := tk })
    (done : ∀ m news h tk, J n m news → Fr g L h m → News g L h news → R (.ok .next) { s with heap := h, toks := tk })
    (hL : env.locals = L := by rfl) (hx : env.kindOf x = some .local := by rfl) (hp : (env.scope.kind == .class || (env.scope.kind == .module && env.locals != env.globals)) = false := by rfl) :
    codeAny (model prog w) A (.forLoop (.Name x px) (.ref I) body [] env) R s := by
  refine for_gen (fun i o => o = rgIt (a + (i : Nat) * c) ((n : Int) - (i : Nat)) c) (fun i v => ∃ t, v = .int (a + (i : Nat) * c) t) J F N (by simp) hne hJ ?_ ?_ ?_ done hL hx hp
  · rintro i m news h tk o E Q hi rfl F N hJ k
    refine wpAny_pyNext_range_item (N _ (.head _)).1 (by omega) fun h' hit' hs' => ?_
    refine k _ h' _ _ ⟨_, rfl⟩ rfl ?_ hs'.extBut
    rw [show a + (((i + 1 : Nat)) : Int) * c = a + (i : Nat) * c + c from by rw [Int.natCast_succ, Int.add_mul]; omega, show (n : Int) - ((i + 1 : Nat) : Int) = (n : Int) - (i : Nat) - 1 from by omega]
    exact hit'
  · rintro m news h tk o E Q rfl F N hJ k
    exact wpAny_pyNext_range_end hh (N _ (.head _)).1 (by omega) fun h' hs' => k h' _ hs'
  · rintro i v m news h tk o hi ⟨t, rfl⟩ hJ rfl hne F N
    exact turn i t m news h tk hi hJ hne F N
end Mine
namespace Mine
def liObj (l : Addr) (i : Nat) (o : Obj) : Prop := o.cls = .type "list_iterator" ∧ o.data = .fields #[.ref l, .int (i : Int) 0]
theorem for_list {prog : Program} {w : World} {A : Around} {R : Result → Shared → Prop} {s : Shared} {g : Heap} {L I l : Addr} {vs : List Value} {x : Str} {px : Pos} {body : List Stmt} {env : Env} {m : Str → Option Value} {news : List (Addr × Obj)} {o₀ : Obj}
    (J : Nat → (Str → Option Value) → List (Addr × Obj) → Prop) (hh : A.handled = none)
    (hl : ∀ i m news h, J i m news → Fr g L h m → News g L h news → h.IsList l vs.toArray) (hlI : l ≠ I)
    (F : Fr g L s.heap m) (N : News g L s.heap ((I, o₀) :: news)) (hO : liObj l 0 o₀) (hne : ∀ p ∈ news, p.1 ≠ I) (hJ : J 0 m news)
    (turn : ∀ i v m news h tk o, vs[i]? = some v → J i m news → liObj l (i + 1) o → (∀ p ∈ news, p.1 ≠ I) → Fr g L h (fun y => if y = x then some v else m y) → News g L h ((I, o) :: news) →
      wpAny (model prog w) A (execs body env) (fun f s₃ => match f with
        | .next => FEnd g L I (liObj l (i + 1)) (J (i + 1)) s s₃
        | .cont => FEnd g L I (liObj l (i + 1)) (J (i + 1)) s s₃
        | .brk => R (.ok .next) s₃
        | .ret v => R (.ok (.ret v)) s₃) (notedBy (model prog w) A env fun e s' => R (.error e) s') { s with heap := h, toks := tk })
    (done : ∀ m news h tk, J vs.length m news → Fr g L h m → News g L h news → R (.ok .next) { s with heap := h, toks := tk })
    (hL : env.locals = L := by rfl) (hx : env.kindOf x = some .local := by rfl) (hp : (env.scope.kind == .class || (env.scope.kind == .module && env.locals != env.globals)) = false := by rfl) :
    codeAny (model prog w) A (.forLoop (.Name x px) (.ref I) body [] env) R s := by
  refine for_gen (n := vs.length) (fun i o => liObj l i o) (fun i v => vs[i]? = some v) J F N hO hne hJ ?_ ?_ ?_ done hL hx hp
  · rintro i m news h tk o E Q hi hO F N hJ k
    have N' : News g L h news := fun p hp => N p (.tail _ hp)
    refine wpAny_pyNext_list_item (x := vs[i]) ⟨_, (N _ (.head _)).1, hO⟩ (hl i m news h hJ F N') (by simp [hi]) fun h' hit' hs' => ?_
    obtain ⟨o', ho', r⟩ := hit'
    exact k _ h' _ o' (by simp [hi]) r ho' hs'.extBut
  · rintro m news h tk o E Q hO F N hJ k
    have N' : News g L h news := fun p hp => N p (.tail _ hp)
    exact wpAny_pyNext_list_end hh ⟨_, (N _ (.head _)).1, hO⟩ (hl _ m news h hJ F N') (by simp) fun h' hs' => k h' _ hs'
  · rintro i v m news h tk o hi hv hJ hO hne F N
    exact turn i v m news h tk o hv hJ hO hne F N
end Mine
end
section
open PySem PySem.W PyProof.Rows PySem.Calls
set_option Elab.async false
set_option maxRecDepth 100000
set_option maxHeartbeats 8000000
namespace Mine
section
variable {prog : Program} {w : World} {A : Around} {E : Value → Shared → Prop} {s : Shared}
theorem sub_rgi_reversed : isSubtype (.type "range_iterator") (.type "reversed") = pure false := by rw [isSubtype_type]; kernel_rfl

theorem call_range_reversed {r : Addr} {t u v : Tok} {Q : Value → Shared → Prop} (hr : IsRange s.heap r 0 4 1 t u v)
    (h : Q (.ref s.heap.objs.size) { s with heap := s.heap.push (rgIt 3 4 (-1)) }) : wpAny (model prog w) A (call (.builtin "range.__reversed__") [.ref r]) Q E s := by
  have hT : s.TypeIs (.ref r) "range" := ⟨_, hr, rfl⟩
  refine wpAny_call_entry F.slot_range_reversed hT F.entry_range_reversed ?_ (F.args_range_reversed_1 _)
  unfold Builtin.«range.__reversed__»
  refine wpAny_bind (wpAny_of_eq (a := Value.ref r) rfl ?_)
  unfold Builtin.Range.rangeFields
  refine wpAny_bind (wpAny_bind (wpAny_field hr rfl (x := .int 0 t) rfl ?_))
  refine wpAny_bind (wpAny_of_eq (a := some 0) rfl ?_)
  refine wpAny_bind (wpAny_field hr rfl (x := .int 4 u) rfl ?_)
  refine wpAny_bind (wpAny_of_eq (a := some 4) rfl ?_)
  refine wpAny_bind (wpAny_field hr rfl (x := .int 1 v) rfl ?_)
  refine wpAny_bind (wpAny_of_eq (a := some 1) rfl ?_)
  refine wpAny_pure ?_
  exact wpAny_bind (wpAny_newObj_type (wpAny_pure ⟨_, rfl, h⟩))

theorem code_reversed_range {r : Addr} {t u v : Tok} {Q₁ : Value → Shared → Prop} (hr : IsRange s.heap r 0 4 1 t u v)
    (h : Q₁ (.ref s.heap.objs.size) { s with heap := s.heap.push (rgIt 3 4 (-1)) }) :
    codeAny (model prog w) A (.call (.builtin "reversed.__new__") ⟨[.type "reversed", .ref r], []⟩) (wants Q₁ E) s := by
  have hT : s.TypeIs (.ref r) "range" := ⟨_, hr, rfl⟩
  refine codeAny_of_tree ?_
  show wpAny _ A.in1 (do checkBuiltinCall "reversed.__new__" ⟨[.type "reversed", .ref r], []⟩; again (.builtin "reversed.__new__" ⟨[.type "reversed", .ref r], []⟩)) _ _ s
  refine wpAny_bind (wpAny_of_eq (F.newCall_reversed_1 _) (wpAny_pure ⟨plainId_quiet F.plain_reversed_new _, codeAny_builtin F.entry_reversed_new ?_⟩))
  rw [Around.under_plainId F.plain_reversed_new _]
  unfold Builtin.«reversed.__new__»
  refine wpAny_bind (wpAny_of_eq (newClass_reversed _) ?_)
  try dsimp only
  refine wpAny_bind (wpAny_of_eq (a := ()) (by first | rfl | kernel_rfl) ?_)
  refine wpAny_bind (wpAny_of_eq (a := ()) (by first | rfl | kernel_rfl) ?_)
  try dsimp only
  refine wpAny_bind (wpAny_specialOf hT F.slot_range_reversed.lookup ?_)
  try dsimp only
  refine wpAny_bind (wpAny_of_eq (F.slot_range_reversed.bind _) ?_)
  try dsimp only
  first
  | rw [if_neg (show ¬ ((Value.builtin "range.__reversed__" == Value.none) = true) from Bool.false_ne_true)]
  | (show wpAny _ _ (if (Value.builtin "range.__reversed__" == Value.none) = true then _ else _) _ _ _; rw [if_neg (show ¬ ((Value.builtin "range.__reversed__" == Value.none) = true) from Bool.false_ne_true)])
  refine wpAny_bind (wpAny_rule ?_)
  refine wpAny_bind (m := runValue (.call (.builtin "range.__reversed__") ⟨[.ref r], []⟩)) (show wpAny _ _ (call (.builtin "range.__reversed__") [.ref r]) _ _ _ from call_range_reversed hr ?_)
  first
  | exact wpAny_pure h
  | exact wpAny_bind (wpAny_pure (wpAny_pure h))

theorem call_reversed_range {r : Addr} {t u v : Tok} {Q : Value → Shared → Prop} (hr : IsRange s.heap r 0 4 1 t u v)
    (h : Q (.ref s.heap.objs.size) { s with heap := s.heap.push (rgIt 3 4 (-1)) }) : wpAny (model prog w) A (call (.type "reversed") [.ref r]) Q E s := by
  refine callType_other (U := "range_iterator") (Q₁ := fun obj s₁ => obj = .ref s.heap.objs.size ∧ s₁ = { s with heap := s.heap.push (rgIt 3 4 (-1)) }) (by decide +kernel) F.create_reversed ⟨_, _, F.mro_reversed⟩ F.made_reversed sub_rgi_reversed (F.typeCall_reversed_1 _) (code_reversed_range hr ⟨rfl, rfl⟩) ?_
  rintro obj s₁ ⟨rfl, rfl⟩
  exact ⟨⟨_, Heap.get?_push_size _ rfl, rfl⟩, h⟩
end
end Mine
end
section
open PySem PySem.W PyProof.Rows PySem.Calls
set_option Elab.async false
set_option maxRecDepth 100000
set_option maxHeartbeats 8000000
namespace Mine
local macro_rules | `(tactic| walk_at "wk") => `(tactic| repeat ((try dsimp only); (fail_if_success (with_reducible show wpAny _ _ (exec (Stmt.While _ _ _ _) _) _ _ _)); (fail_if_success (with_reducible show wpAny _ _ (exec (Stmt.For _ _ _ _ _) _) _ _ _)); walk1))
theorem fillK4 : PySem.Challenge.rw_mq0156_01 = PySem.Challenge.rw_mq0156_01 ∧ Mine.hd.heap_39 = Mine.hd.heap_39 := by k_fill; exact ⟨rfl, rfl⟩
theorem sd_length (lt : Value → Value → Bool) (new : Value) (sp : Nat) : ∀ (f : Nat) (xs : List Value) (pos : Nat), (sd lt new sp f xs pos).length = xs.length
  | 0, _, _ => by simp [sd]
  | f + 1, xs, pos => by
    rw [sd]; split
    · rw [sd_length lt new sp f]; simp
    · simp
theorem sd_mem (lt : Value → Value → Bool) (new : Value) (sp : Nat) {x : Value} : ∀ (f : Nat) (xs : List Value) (pos : Nat), pos < xs.length → x ∈ sd lt new sp f xs pos → x = new ∨ x ∈ xs
  | 0, xs, pos, _, h => (List.mem_or_eq_of_mem_set h).symm
  | f + 1, xs, pos, hp, h => by
    rw [sd] at h; split at h
    · rcases sd_mem lt new sp f _ _ (by simp; omega) h with h' | h'
      · exact .inl h'
      · rcases List.mem_or_eq_of_mem_set h' with h'' | h''
        · exact .inr h''
        · exact .inr (h'' ▸ getD_mem (by omega))
    · exact (List.mem_or_eq_of_mem_set h).symm
theorem suc_lt {lt : Value → Value → Bool} {xs : List Value} {c : Nat} (h : c < xs.length) : suc lt xs c < xs.length := by unfold suc; split <;> omega
theorem su_length (lt : Value → Value → Bool) : ∀ (f : Nat) (xs : List Value) (pos : Nat), (su lt f xs pos).1.length = xs.length
  | 0, _, _ => rfl
  | f + 1, xs, pos => by
    rw [su]; split
    · rw [su_length lt f]; simp
    · rfl
theorem su_pos (lt : Value → Value → Bool) : ∀ (f : Nat) (xs : List Value) (pos : Nat), pos < xs.length → (su lt f xs pos).2 < xs.length
  | 0, _, _, h => h
  | f + 1, xs, pos, h => by
    rw [su]; split
    · rename_i h'
      simpa using su_pos lt f (xs.set pos (xs.getD (suc lt xs (2 * pos + 1)) .none)) (suc lt xs (2 * pos + 1)) (by simpa using suc_lt h')
    · exact h
theorem su_mem (lt : Value → Value → Bool) {x : Value} : ∀ (f : Nat) (xs : List Value) (pos : Nat), pos < xs.length → x ∈ (su lt f xs pos).1 → x ∈ xs
  | 0, _, _, _, h => h
  | f + 1, xs, pos, hp, h => by
    rw [su] at h; split at h
    · rename_i h'
      have := su_mem lt f _ _ (by simpa using suc_lt h') h
      rcases List.mem_or_eq_of_mem_set this with h'' | h''
      · exact h''
      · exact h'' ▸ getD_mem (suc_lt h')
    · exact h
theorem siftup_length (lt : Value → Value → Bool) (xs : List Value) (pos : Nat) : (siftup lt xs pos).length = xs.length := by
  unfold siftup; rw [sd_length]; simp [su_length]
theorem siftup_mem (lt : Value → Value → Bool) {xs : List Value} {pos : Nat} (hp : pos < xs.length) {x : Value} (h : x ∈ siftup lt xs pos) : x ∈ xs := by
  unfold siftup at h
  have hpos := su_pos lt xs.length xs pos hp
  rcases sd_mem lt _ _ _ _ _ (by simpa [su_length] using hpos) h with h' | h'
  · exact h' ▸ getD_mem hp
  · rcases List.mem_or_eq_of_mem_set h' with h'' | h''
    · exact su_mem lt _ _ _ hp h''
    · exact h'' ▸ getD_mem hp
def hfi (lt : Value → Value → Bool) (xs : List Value) : Nat → List Value
  | 0 => xs
  | i + 1 => siftup lt (hfi lt xs i) (3 - i)
theorem hfi_length (lt : Value → Value → Bool) (xs : List Value) : ∀ i, (hfi lt xs i).length = xs.length
  | 0 => rfl
  | i + 1 => by rw [hfi, siftup_length, hfi_length lt xs i]
theorem hfi_mem (lt : Value → Value → Bool) {xs : List Value} (h9 : xs.length = 9) {x : Value} : ∀ i, x ∈ hfi lt xs i → x ∈ xs
  | 0, h => h
  | i + 1, h => hfi_mem lt h9 i (siftup_mem lt (by rw [hfi_length]; omega) h)
def hfy (lt : Value → Value → Bool) (xs : List Value) : List Value := siftup lt (siftup lt (siftup lt (siftup lt xs 3) 2) 1) 0

theorem heapify_spec {prog : Program} {w : World} {A : Around} {R : Result → Shared → Prop} {s : Shared} {b : Heap} {l : Addr} {items : List Value} {ep : Nat} {lt : Value → Value → Bool}
    (G : Gd w b) (st : b.StaysIn s.heap) (hl0 : b.get? l = none) (hl : s.heap.get? l = some (lst items ep)) (hn : items.length = 9)
    (hlt : ∀ x ∈ items, ∀ y ∈ items, LtIn w b x y (lt x y)) (hu : A.units + 400 < cLine)
    (hroom : A.depth + 2 < recursionLimit) (hh : A.handled = none)
    (h : ∀ h' tk, b.StaysIn h' → h'.get? l = some (lst (hfy lt items) ep) → (hideAll s.heap [l]).StaysIn h' → R (.ok (.ret .none)) { s with heap := h', toks := tk }) :
    codeAny (model prog w) A (.call (.ref 65) ⟨[.ref l], []⟩) R s := by
  refine callF (as := [l]) G st (by simpa using hl0) (by with_unfolding_all rfl) (by with_unfolding_all rfl) (by omega) (BindsTo.of_eq rfl) (locs rfl) (fun L h₁ eL F hk G' => ?_) (by decide)
  have hL : l ≠ L := by rw [eL]; exact Nat.ne_of_lt (Heap.lt_size hl)
  have N : News (hideAll s.heap [l]) L h₁ [(l, lst items ep)] := by
    intro p hp
    cases hp with
    | head => exact ⟨hk _ _ hl, hL, hideAll_none _ (.head _)⟩
    | tail _ h => cases h
  have st' : b.StaysIn (hideAll s.heap [l]) := stays_hideAll st (by simpa using hl0)
  obtain ⟨mean, mg, mb, T⟩ := G'.T
  have X := G'.K
  generalize hg : hideAll s.heap [l] = g at *
  clear eL hg hk G'
  replace F : Fr g L h₁ (fun y => if y = Str.ofString "x" then some (Value.ref l) else none) := F
  walk_at "wk"
  refine PyProof.Rows.len_list (News.isList N (.head _)) (by simp; omega) ?_
  rw [List.size_toArray, hn]
  dsimp only
  generalize s.toks + _ = t0
  walk_at "wk"
  refine wpAny_For ?_
  walk1
  walk1
  walk1
  walk1
  walk1
  walk1
  walk1
  walk1
  walk1
  walk1
  walk1
  walk1
  rw [show ((9 : Nat) : Int).fdiv 2 = 4 from by decide]
  walk1
  rename Fr _ _ _ _ => F
  rename News _ _ _ _ => N
  refine range1_rows (by exact F) (by exact N) ?_
  intro h₂ tk₂ t₁ u₁ v₁ hr F N _
  walk1
  refine call_reversed_range hr ?_
  refine wpAny_pyIter_rangeiter (Heap.get?_push_size _ rfl) ?_
  have F' := F.push (rgIt 3 4 (-1))
  have N' := News.push F N (rgIt 3 4 (-1))
  refine for_range (n := 4) 3 (-1) (fun i m news => news = [(l, lst (hfi lt items i) ep)] ∧ m (Str.ofString "x") = some (.ref l)) hh F' N' (by simpa using Nat.ne_of_lt (Heap.lt_size (N _ (.head _)).1)) ⟨rfl, rfl⟩ ?_ ?_
  · rintro i t m news h₄ tk₄ hi ⟨rfl, e1⟩ hne F N
    rw [show (3 : Int) + (i : Nat) * (-1) = ((3 - i : Nat) : Int) from by omega] at F
    replace F := fputs [(Str.ofString "i", _), (Str.ofString "x", _)] F ⟨rfl, e1, trivial⟩
    have hlen : (hfi lt items i).length = 9 := by rw [hfi_length, hn]
    walk_at "wk"
    refine wpAny_call (siftup_spec (lt := lt) (pos := 3 - i) G (fun c o e => F.keep c o (st' c o e)) hl0 (N _ (.tail _ (.head _))).1 (by omega) (by omega) (fun x hx y hy => hlt x (hfi_mem lt hn _ hx) y (hfi_mem lt hn _ hy)) (by simp; omega) (by simp [Around.deeper]; omega) ?_)
    intro h₆ tk₆ k1 k2 k3
    obtain ⟨F, N⟩ := fr_after F N (Upd.tail (Ne.symm (hne _ (.head _))) (Upd.head (by simp))) k3 k2
    walk_at "wk"
    exact ⟨_, _, _, _, _, rfl, rfl, F, N, by simpa using hne, rfl, rfl⟩
  · rintro m news h₄ tk₄ ⟨rfl, e1⟩ F N
    walk_at "wk"
    exact h _ _ (fun c o e => F.keep c o (st' c o e)) (N _ (.head _)).1 F.keep
end Mine
end
section
open PySem PySem.W PyProof.Rows PySem.Calls
set_option Elab.async false
set_option maxRecDepth 100000
set_option maxHeartbeats 8000000
namespace Mine
local macro_rules | `(tactic| walk_at "wk") => `(tactic| repeat ((try dsimp only); (fail_if_success (with_reducible show wpAny _ _ (exec (Stmt.While _ _ _ _) _) _ _ _)); (fail_if_success (with_reducible show wpAny _ _ (exec (Stmt.For _ _ _ _ _) _) _ _ _)); walk1))
theorem fillK5 : PySem.Challenge.rw_mq0156_01 = PySem.Challenge.rw_mq0156_01 ∧ Mine.hd.heap_39 = Mine.hd.heap_39 := by k_fill; exact ⟨rfl, rfl⟩

theorem heapreplace_spec {prog : Program} {w : World} {A : Around} {R : Result → Shared → Prop} {s : Shared} {b : Heap} {l : Addr} {items : List Value} {ep : Nat} {v : Value} {lt : Value → Value → Bool}
    (G : Gd w b) (st : b.StaysIn s.heap) (hl0 : b.get? l = none) (hl : s.heap.get? l = some (lst items ep)) (hp : 0 < items.length) (hn : items.length < 1000)
    (hlt : ∀ x ∈ v :: items, ∀ y ∈ v :: items, LtIn w b x y (lt x y)) (hu : A.units + 400 < cLine)
    (hroom : A.depth + 2 < recursionLimit)
    (h : ∀ h' tk, b.StaysIn h' → h'.get? l = some (lst (siftup lt (items.set 0 v) 0) ep) → (hideAll s.heap [l]).StaysIn h' → R (.ok (.ret (items.getD 0 .none))) { s with heap := h', toks := tk }) :
    codeAny (model prog w) A (.call (.ref 58) ⟨[.ref l, v], []⟩) R s := by
  refine callF (as := [l]) G st (by simpa using hl0) (by with_unfolding_all rfl) (by with_unfolding_all rfl) (by omega) (BindsTo.of_eq rfl) (locs rfl) (fun L h₁ eL F hk G' => ?_) (by decide)
  have hL : l ≠ L := by rw [eL]; exact Nat.ne_of_lt (Heap.lt_size hl)
  have N : News (hideAll s.heap [l]) L h₁ [(l, lst items ep)] := by
    intro p hp
    cases hp with
    | head => exact ⟨hk _ _ hl, hL, hideAll_none _ (.head _)⟩
    | tail _ h => cases h
  have st' : b.StaysIn (hideAll s.heap [l]) := stays_hideAll st (by simpa using hl0)
  obtain ⟨mean, mg, mb, T⟩ := G'.T
  have X := G'.K
  generalize hg : hideAll s.heap [l] = g at *
  clear eL hg hk G'
  replace F : Fr g L h₁ (fun y => if y = Str.ofString "item" then some v else if y = Str.ofString "heap" then some (Value.ref l) else none) := F
  generalize s.toks + _ = t0
  walk_at "wk"
  refine item_at 0 (News.isList N (.head _)) rfl hp hn ?_
  walk_at "wk"
  rename Fr _ _ _ _ => F
  rename News _ _ _ _ => N
  refine set_at 0 F N (Upd.head (by simp)) rfl hp hn ?_
  intro h₅ F N
  have hm : ∀ x ∈ items.set 0 v, x ∈ v :: items := fun x hx => by
    rcases List.mem_or_eq_of_mem_set hx with h' | h'
    · exact .tail _ h'
    · rw [h']; exact .head _
  walk_at "wk"
  refine wpAny_call (siftup_spec (lt := lt) (pos := 0) G (fun c o e => F.keep c o (st' c o e)) hl0 (N _ (.head _)).1 (by simpa using hp) (by simpa using hn) (fun x hx y hy => hlt x (hm x hx) y (hm y hy)) (by simp; omega) (by simp [Around.deeper]; omega) ?_)
  intro h₆ tk₆ k1 k2 k3
  obtain ⟨F, N⟩ := fr_after F N (Upd.head (by simp)) k3 k2
  walk_at "wk"
  exact h _ _ k1 (N _ (.head _)).1 F.keep

theorem heappop_spec {prog : Program} {w : World} {A : Around} {R : Result → Shared → Prop} {s : Shared} {b : Heap} {l : Addr} {items : List Value} {ep : Nat} {last : Value} {lt : Value → Value → Bool}
    (G : Gd w b) (st : b.StaysIn s.heap) (hl0 : b.get? l = none) (hl : s.heap.get? l = some (lst (items ++ [last]) ep)) (hn : items.length < 900)
    (hlt : ∀ x ∈ last :: items, ∀ y ∈ last :: items, LtIn w b x y (lt x y)) (hu : A.units + 400 < cLine)
    (hroom : A.depth + 2 < recursionLimit)
    (h : ∀ h' tk ep', b.StaysIn h' → h'.get? l = some (lst (if items = [] then [] else siftup lt (items.set 0 last) 0) ep') → (hideAll s.heap [l]).StaysIn h' → R (.ok (.ret ((items ++ [last]).getD 0 .none))) { s with heap := h', toks := tk }) :
    codeAny (model prog w) A (.call (.ref 51) ⟨[.ref l], []⟩) R s := by
  refine callF (as := [l]) G st (by simpa using hl0) (by with_unfolding_all rfl) (by with_unfolding_all rfl) (by omega) (BindsTo.of_eq rfl) (locs rfl) (fun L h₁ eL F hk G' => ?_) (by decide)
  have hL : l ≠ L := by rw [eL]; exact Nat.ne_of_lt (Heap.lt_size hl)
  have N : News (hideAll s.heap [l]) L h₁ [(l, lst (items ++ [last]) ep)] := by
    intro p hp
    cases hp with
    | head => exact ⟨hk _ _ hl, hL, hideAll_none _ (.head _)⟩
    | tail _ h => cases h
  have st' : b.StaysIn (hideAll s.heap [l]) := stays_hideAll st (by simpa using hl0)
  obtain ⟨mean, mg, mb, T⟩ := G'.T
  have X := G'.K
  generalize hg : hideAll s.heap [l] = g at *
  clear eL hg hk G'
  replace F : Fr g L h₁ (fun y => if y = Str.ofString "heap" then some (Value.ref l) else none) := F
  generalize s.toks + _ = t0
  walk_at "wk"
  refine kl_pop (by exact F) (by exact N) (kpa_last last items) (Upd.head (by simp)) (by simp [sizeLine]; omega) ?_
  intro h₃ F N
  by_cases hi : items = []
  · subst hi
    walk_at "wk"
    rename Fr _ _ _ _ => F
    rename News _ _ _ _ => N
    exact h _ _ _ (fun c o e => F.keep c o (st' c o e)) (by rw [if_pos rfl]; exact (N _ (.head _)).1) F.keep
  · have hp : 0 < items.length := List.length_pos_iff.mpr hi
    walk_at "wk"
    rename Fr _ _ _ _ => F
    rename News _ _ _ _ => N
    refine item_at 0 (News.isList N (.head _)) rfl hp (by omega) ?_
    walk_at "wk"
    rename Fr _ _ _ _ => F
    rename News _ _ _ _ => N
    refine set_at 0 F N (Upd.head (by simp)) rfl hp (by omega) ?_
    intro h₅ F N
    have hm : ∀ x ∈ items.set 0 last, x ∈ last :: items := fun x hx => by
      rcases List.mem_or_eq_of_mem_set hx with h' | h'
      · exact .tail _ h'
      · rw [h']; exact .head _
    walk_at "wk"
    refine wpAny_call (siftup_spec (lt := lt) (pos := 0) G (fun c o e => F.keep c o (st' c o e)) hl0 (N _ (.head _)).1 (by simpa using hp) (by simp; omega) (fun x hx y hy => hlt x (hm x hx) y (hm y hy)) (by simp; omega) (by simp [Around.deeper]; omega) ?_)
    intro h₆ tk₆ k1 k2 k3
    obtain ⟨F, N⟩ := fr_after F N (Upd.head (by simp)) k3 k2
    walk_at "wk"
    have e0 : items.getD 0 .none = (items ++ [last]).getD 0 .none := by
      cases items with
      | nil => exact absurd rfl hi
      | cons a r => rfl
    rw [e0]
    exact h _ _ _ k1 (by rw [if_neg hi]; exact (N _ (.head _)).1) F.keep
end Mine
end
section
open PySem
set_option Elab.async false
set_option maxRecDepth 100000
set_option maxHeartbeats 4000000
namespace Mine
open PySem.Sre

def cA : Array Nat := #[14, 4, 0, 1, 4294967295, 17, 0, 7, 14, 24, 10, 1, 4294967295, 13, 5, 22, 48, 57, 0, 1, 15, 17, 15, 13, 11, 9, 0, 26624, 2147483648, 0, 0, 0, 0, 0, 0, 15, 2, 0, 17, 1, 1]
def isSep (c : Nat) : Bool := c == 43 || c == 45 || c == 46 || c == 95

theorem rep_succ : ∀ (n : Nat) (m : M), Nat.repeat M.step (n + 1) m = Nat.repeat M.step n (M.step m)
  | 0, _ => rfl
  | n + 1, m => by
    show M.step (Nat.repeat M.step (n + 1) m) = M.step (Nat.repeat M.step n (M.step m))
    rw [rep_succ n m]
theorem runFor_eq : ∀ (n : Nat) (m : M), M.runFor n m = Nat.repeat M.step n m
  | 0, _ => rfl
  | n + 1, m => by
    rw [M.runFor]
    split
    · rename_i h
      have hs : ∀ k, Nat.repeat M.step k m = m := fun k => by
        induction k with
        | zero => rfl
        | succ k ih => rw [Nat.repeat, ih, M.step, if_pos h]
      exact (hs _).symm
    · rw [runFor_eq n]
      exact (rep_succ n m).symm

def bs (T : Array Nat) (s : Nat) (first : Bool) (seen : Sre.Seen) (a b : Option Nat) : M :=
  { code := cA, text := T, lim := T.size, start := s, lastStart := T.size, wholeText := false, mustAdvance := false, pc := 5, pos := s, handed := s, outermost := first, marks := #[a, b], lastmark := -1, lastindex := -1, loops := #[], inner := none,
    frames := [{ wait := .nextStart, pc := 5, pos := s, outermost := first }], weight := 1, answer := none, seen := seen, outcome := none }


def kp0 : Sre.Kept := { lastmark := 0, lastindex := -1, whole := false, marks := #[] }
def b2 (T : Array Nat) (s : Nat) (first : Bool) (seen : Sre.Seen) (b : Option Nat) (ans : Option Bool) : M :=
  { code := cA, text := T, lim := T.size, start := s, lastStart := T.size, wholeText := false, mustAdvance := false, pc := 9, pos := s, handed := s, outermost := first, marks := #[some s, b], lastmark := 0, lastindex := -1, loops := #[], inner := none,
    frames := [{ wait := .nextBranch, pc := 8, pos := s, outermost := first, kept := kp0 }, { wait := .nextStart, pc := 5, pos := s, outermost := first }], weight := 2, answer := ans, seen := seen, outcome := none }
def b3 (T : Array Nat) (s : Nat) (first : Bool) (seen : Sre.Seen) (b : Option Nat) (ans : Option Bool) : M :=
  { code := cA, text := T, lim := T.size, start := s, lastStart := T.size, wholeText := false, mustAdvance := false, pc := 23, pos := s, handed := s, outermost := first, marks := #[some s, b], lastmark := 0, lastindex := -1, loops := #[], inner := none,
    frames := [{ wait := .nextBranch, pc := 22, pos := s, outermost := first, kept := kp0 }, { wait := .nextStart, pc := 5, pos := s, outermost := first }], weight := 2, answer := ans, seen := seen, outcome := none }
def bD (T : Array Nat) (s n : Nat) (first : Bool) (seen : Sre.Seen) (b : Option Nat) : M :=
  { code := cA, text := T, lim := T.size, start := s, lastStart := T.size, wholeText := false, mustAdvance := false, pc := 20, pos := s + n, handed := s + n, outermost := first, marks := #[some s, b], lastmark := 0, lastindex := -1, loops := #[], inner := none,
    frames := [{ wait := .giveBack, pc := 9, pos := s + n, outermost := first, count := n, kept := kp0 }, { wait := .nextBranch, pc := 8, pos := s, outermost := first, kept := kp0 }, { wait := .nextStart, pc := 5, pos := s, outermost := first }], weight := 3, answer := none, seen := seen, outcome := none }
def bS (T : Array Nat) (s : Nat) (first : Bool) (seen : Sre.Seen) (b : Option Nat) : M :=
  { b3 T s first seen b none with pc := 35, pos := s + 1 }

theorem st_0 (T : Array Nat) (s : Nat) (first : Bool) (seen : Sre.Seen) (a b : Option Nat) : Nat.repeat M.step 2 (bs T s first seen a b) = b2 T s first ((seen.add 17).add 7) b none := by rfl
theorem st_2 (T : Array Nat) (s : Nat) (first : Bool) (seen : Sre.Seen) (b : Option Nat) : M.step (b2 T s first seen b none) =
    (if ((1 : Nat) : Int) > (T.size : Int) - (s : Int) then b2 T s first (seen.add 24) b (some false) else
      match run cA T 13 (min 4294967295 ((T.size : Int) - (s : Int)).toNat) s 0 ((seen.add 24).add 13) with
      | .error why => M.stick (b2 T s first (seen.add 24) b none) why
      | .ok (n, seen3) => if n < 1 then b2 T s first seen3 b (some false) else bD T s n first seen3 b) := by rfl
theorem st_2no (T : Array Nat) (s : Nat) (first : Bool) (seen : Sre.Seen) (b : Option Nat) : M.step (b2 T s first seen b (some false)) = b3 T s first seen b none := by rfl
theorem st_3 (T : Array Nat) (s : Nat) (first : Bool) (seen : Sre.Seen) (b : Option Nat) : M.step (b3 T s first seen b none) =
    (if s ≥ T.size then b3 T s first (seen.add 13) b (some false) else
      match accepts cA 23 (T.getD s 0) (seen.add 13) with
      | .error why => M.stick (b3 T s first (seen.add 13) b none) why
      | .ok (false, seen3) => b3 T s first seen3 b (some false)
      | .ok (true, seen3) => bS T s first seen3 b) := by rfl
theorem st_3no (T : Array Nat) (s : Nat) (first : Bool) (seen : Sre.Seen) (b : Option Nat) : Nat.repeat M.step 2 (b3 T s first seen b (some false)) =
    (if s < T.size then bs T (s + 1) false seen (some s) b else { b3 T s first seen b (some false) with frames := [], weight := 0, pc := 5 }) := by
  rfl
end Mine
end
section
open PySem
set_option Elab.async false
set_option maxRecDepth 100000
set_option maxHeartbeats 4000000
namespace Mine
open PySem.Sre

theorem acc13 (c : Nat) (seen : Sre.Seen) : ∃ seen', accepts cA 13 c seen = .ok (Sre.isDigit c, seen') := by
  have h : accepts cA 13 c seen = (if (48 ≤ c && c ≤ 57) = true then .ok (true, seen.add 22) else .ok (false, (seen.add 22).add 0)) := by rfl
  rw [h]
  unfold Sre.isDigit
  cases hc : (decide (48 ≤ c) && decide (c ≤ 57)) with
  | true => exact ⟨_, rfl⟩
  | false => exact ⟨_, rfl⟩
theorem bits_sep : ∀ c, c < 256 → (cA.getD (25 + (1 + c / 32)) 0).testBit (c % 32) = isSep c := by decide +kernel
theorem acc23 (c : Nat) (seen : Sre.Seen) : ∃ seen', accepts cA 23 c seen = .ok (isSep c, seen') := by
  have h : accepts cA 23 c seen = (if (decide (c < 256) && (cA.getD (25 + (1 + c / 32)) 0).testBit (c % 32)) = true then .ok (true, seen.add 9) else .ok (false, (seen.add 9).add 0)) := by rfl
  rw [h]
  by_cases hc : c < 256
  · rw [bits_sep c hc]
    simp only [hc, decide_true, Bool.true_and]
    cases isSep c with
    | true => exact ⟨_, rfl⟩
    | false => exact ⟨_, rfl⟩
  · have : isSep c = false := by unfold isSep; simp; omega
    rw [this]
    simp only [hc, decide_false, Bool.false_and]
    exact ⟨_, rfl⟩

def cnt (T : Array Nat) : Nat → Nat → Nat
  | 0, _ => 0
  | n + 1, p => if Sre.isDigit (T.getD p 0) then cnt T n (p + 1) + 1 else 0
theorem run13 (T : Array Nat) : ∀ (n p f : Nat) (seen : Sre.Seen), ∃ seen', Sre.run cA T 13 n p f seen = .ok (f + cnt T n p, seen')
  | 0, p, f, seen => ⟨seen, rfl⟩
  | n + 1, p, f, seen => by
    obtain ⟨s1, h1⟩ := acc13 (T.getD p 0) seen
    rw [Sre.run, h1, cnt]
    cases hd : Sre.isDigit (T.getD p 0) with
    | true =>
      obtain ⟨s2, h2⟩ := run13 T n (p + 1) (f + 1) s1
      refine ⟨s2, ?_⟩
      show Sre.run cA T 13 n (p + 1) (f + 1) s1 = _
      rw [h2]; simp; omega
    | false => exact ⟨s1, rfl⟩
theorem cnt_le (T : Array Nat) : ∀ n p, cnt T n p ≤ n
  | 0, _ => Nat.le_refl _
  | n + 1, p => by rw [cnt]; split; exact Nat.succ_le_succ (cnt_le T n _); exact Nat.zero_le _

def tokAt (T : Array Nat) (i : Nat) : Bool := Sre.isDigit (T.getD i 0) || isSep (T.getD i 0)
def tokEnd (T : Array Nat) (i : Nat) : Nat := if Sre.isDigit (T.getD i 0) then i + cnt T (min 4294967295 (T.size - i)) i else i + 1

structure Found (m : M) (i e : Nat) : Prop where
  out : m.outcome = some .matched
  start : m.start = i
  handed : m.handed = e
  last : m.lastmark = 1
  m0 : m.marks.getD 0 none = some i
  m1 : m.marks.getD 1 none = some e

theorem rep_add : ∀ (a b : Nat) (m : M), Nat.repeat M.step (a + b) m = Nat.repeat M.step b (Nat.repeat M.step a m)
  | 0, b, m => by rw [Nat.zero_add]; rfl
  | a + 1, b, m => by
    rw [show a + 1 + b = (a + b) + 1 from by omega, rep_succ, rep_succ, rep_add a b]

def Ends (m : M) (k : Nat) (P : M → Prop) : Prop := ∃ n, n ≤ k ∧ P (Nat.repeat M.step n m)
theorem ends_step {m : M} {k : Nat} {P : M → Prop} (a : Nat) (h : Ends (Nat.repeat M.step a m) k P) : Ends m (a + k) P := by
  obtain ⟨n, hn, hp⟩ := h
  exact ⟨a + n, by omega, by rw [rep_add]; exact hp⟩


theorem rep1 (m : M) : Nat.repeat M.step 1 m = M.step m := rfl
def bE (T : Array Nat) (s e pc pos : Nat) (first : Bool) (seen : Sre.Seen) (fr : List Sre.Frame) (wt : Nat) (ans : Option Bool) (out : Option Sre.Outcome) : M :=
  { code := cA, text := T, lim := T.size, start := s, lastStart := T.size, wholeText := false, mustAdvance := false, pc := pc, pos := pos, handed := e, outermost := first, marks := #[some s, some e], lastmark := 1, lastindex := ((cA.getD (38 + 1) 0 / 2 + 1 : Nat) : Int), loops := #[], inner := none,
    frames := fr, weight := wt, answer := ans, seen := seen, outcome := out }
def fG (s n : Nat) (first : Bool) : Sre.Frame := { wait := .giveBack, pc := 9, pos := s + n, outermost := first, count := n, kept := kp0 }
def fB (s pc : Nat) (first : Bool) : Sre.Frame := { wait := .nextBranch, pc := pc, pos := s, outermost := first, kept := kp0 }
def fS (s : Nat) (first : Bool) : Sre.Frame := { wait := .nextStart, pc := 5, pos := s, outermost := first }
theorem d1 (T : Array Nat) (s n : Nat) (first : Bool) (seen : Sre.Seen) (b : Option Nat) : M.step (bD T s n first seen b) = { bD T s n first seen b with pc := 38, seen := seen.add 15 } := by rfl
theorem d2 (T : Array Nat) (s n : Nat) (first : Bool) (seen : Sre.Seen) (b : Option Nat) : M.step { bD T s n first seen b with pc := 38, seen := seen.add 15 } = bE T s (s + n) 40 (s + n) first ((seen.add 15).add 17) [fG s n first, fB s 8 first, fS s first] 3 none none := by rfl
theorem s1 (T : Array Nat) (s : Nat) (first : Bool) (seen : Sre.Seen) (b : Option Nat) : M.step (bS T s first seen b) = { bS T s first seen b with pc := 38, seen := seen.add 15 } := by rfl
theorem s2 (T : Array Nat) (s : Nat) (first : Bool) (seen : Sre.Seen) (b : Option Nat) : M.step { bS T s first seen b with pc := 38, seen := seen.add 15 } = { bE T s (s + 1) 40 (s + 1) first ((seen.add 15).add 17) [fB s 22 first, fS s first] 2 none none with handed := s } := by rfl
theorem e3 (T : Array Nat) (s e : Nat) (first : Bool) (seen : Sre.Seen) (fr : List Sre.Frame) (wt : Nat) : M.step (bE T s e 40 e first seen fr wt none none) = bE T s e 40 e first (seen.add 1) fr wt (some true) none := by cases first <;> rfl
theorem e3s (T : Array Nat) (s e : Nat) (first : Bool) (seen : Sre.Seen) (fr : List Sre.Frame) (wt : Nat) : M.step { bE T s e 40 e first seen fr wt none none with handed := s } = bE T s e 40 e first (seen.add 1) fr wt (some true) none := by cases first <;> rfl
theorem e4 (T : Array Nat) (s e n pc pos : Nat) (first f2 : Bool) (seen : Sre.Seen) (fr : List Sre.Frame) (wt : Nat) : M.step (bE T s e pc pos first seen (fG s n f2 :: fr) (wt + 1) (some true) none) = bE T s e 9 (s + n) f2 seen fr wt (some true) none := by rfl
theorem e5 (T : Array Nat) (s e q pc pos : Nat) (first f2 : Bool) (seen : Sre.Seen) (fr : List Sre.Frame) (wt : Nat) : M.step (bE T s e pc pos first seen (fB s q f2 :: fr) (wt + 1) (some true) none) = bE T s e q s f2 seen fr wt (some true) none := by rfl
theorem e6 (T : Array Nat) (s e pc pos : Nat) (first f2 : Bool) (seen : Sre.Seen) (fr : List Sre.Frame) (wt : Nat) : M.step (bE T s e pc pos first seen (fS s f2 :: fr) (wt + 1) (some true) none) = bE T s e 5 s f2 seen fr wt (some true) none := by rfl
theorem e7 (T : Array Nat) (s e pc pos : Nat) (first : Bool) (seen : Sre.Seen) (wt : Nat) : M.step (bE T s e pc pos first seen [] wt (some true) none) = bE T s e pc pos first seen [] wt (some true) (some .matched) := by rfl

theorem ends_D (T : Array Nat) (s n : Nat) (first : Bool) (seen : Sre.Seen) (b : Option Nat) : Ends (bD T s n first seen b) 7 (fun m => Found m s (s + n)) := by
  refine ⟨7, Nat.le_refl _, ?_⟩
  rw [rep_succ, d1, rep_succ, d2, rep_succ, e3, rep_succ, e4, rep_succ, e5, rep_succ, e6, rep1, e7]
  exact ⟨rfl, rfl, rfl, rfl, rfl, rfl⟩
theorem ends_S (T : Array Nat) (s : Nat) (first : Bool) (seen : Sre.Seen) (b : Option Nat) : Ends (bS T s first seen b) 6 (fun m => Found m s (s + 1)) := by
  refine ⟨6, Nat.le_refl _, ?_⟩
  rw [rep_succ, s1, rep_succ, s2, rep_succ, e3s, rep_succ, e5, rep_succ, e6, rep1, e7]
  exact ⟨rfl, rfl, rfl, rfl, rfl, rfl⟩

theorem at_digit (T : Array Nat) (s : Nat) (first : Bool) (seen : Sre.Seen) (a b : Option Nat) (hs : s < T.size) (hd : Sre.isDigit (T.getD s 0) = true) :
    Ends (bs T s first seen a b) 10 (fun m => Found m s (tokEnd T s)) := by
  refine ends_step (k := 8) 2 ?_
  rw [st_0]
  refine ends_step (k := 7) 1 ?_
  rw [rep1]
  obtain ⟨s3, h3⟩ := run13 T (min 4294967295 ((T.size : Int) - (s : Int)).toNat) s 0 ((((seen.add 17).add 7).add 24).add 13)
  rw [st_2, if_neg (by omega), h3]
  have e : ((T.size : Int) - (s : Int)).toNat = T.size - s := by omega
  rw [e]
  have hc : ∃ q, min 4294967295 (T.size - s) = q + 1 := ⟨min 4294967295 (T.size - s) - 1, by omega⟩
  obtain ⟨q, hq⟩ := hc
  have hn : ¬ (0 + cnt T (min 4294967295 (T.size - s)) s < 1) := by rw [hq, cnt, if_pos hd]; omega
  simp only [if_neg hn]
  rw [Nat.zero_add]
  have := ends_D T s (cnt T (min 4294967295 (T.size - s)) s) first s3 b
  rw [tokEnd, if_pos hd]
  exact this

theorem to_b3 (T : Array Nat) (s : Nat) (first : Bool) (seen : Sre.Seen) (a b : Option Nat) (P : M → Prop) (k : Nat) (hd : s < T.size → Sre.isDigit (T.getD s 0) = false)
    (h : ∀ seen', Ends (b3 T s first seen' b none) k P) : Ends (bs T s first seen a b) (4 + k) P := by
  have e : 4 + k = 2 + (1 + (1 + k)) := by omega
  rw [e]
  refine ends_step 2 ?_
  rw [st_0]
  refine ends_step 1 ?_
  rw [rep1]
  by_cases hs : s < T.size
  · obtain ⟨s3, h3⟩ := run13 T (min 4294967295 ((T.size : Int) - (s : Int)).toNat) s 0 ((((seen.add 17).add 7).add 24).add 13)
    rw [st_2, if_neg (by omega), h3]
    have hz : cnt T (min 4294967295 ((T.size : Int) - (s : Int)).toNat) s = 0 := by
      cases min 4294967295 ((T.size : Int) - (s : Int)).toNat with
      | zero => rfl
      | succ q => rw [cnt, if_neg (by rw [hd hs]; exact Bool.false_ne_true)]
    rw [hz]
    show Ends (b2 T s first s3 b (some false)) _ _
    refine ends_step 1 ?_
    rw [rep1]
    rw [st_2no]; exact h _
  · rw [st_2, if_pos (by omega)]
    refine ends_step 1 ?_
    rw [rep1]
    rw [st_2no]; exact h _

theorem at_sep (T : Array Nat) (s : Nat) (first : Bool) (seen : Sre.Seen) (a b : Option Nat) (hs : s < T.size) (hd : Sre.isDigit (T.getD s 0) = false) (hp : isSep (T.getD s 0) = true) :
    Ends (bs T s first seen a b) 11 (fun m => Found m s (tokEnd T s)) := by
  refine to_b3 T s first seen a b _ 7 (fun _ => hd) fun seen' => ?_
  refine ends_step (k := 6) 1 ?_
  rw [rep1]
  obtain ⟨s3, h3⟩ := acc23 (T.getD s 0) (seen'.add 13)
  rw [st_3, if_neg (by omega), h3, hp]
  have := ends_S T s first s3 b
  rw [tokEnd, if_neg (by rw [hd]; exact Bool.false_ne_true)]
  exact this

theorem at_other (T : Array Nat) (s : Nat) (first : Bool) (seen : Sre.Seen) (a b : Option Nat) (P : M → Prop) (k : Nat) (hs : s < T.size) (hd : tokAt T s = false)
    (h : ∀ seen', Ends (bs T (s + 1) false seen' (some s) b) k P) : Ends (bs T s first seen a b) (7 + k) P := by
  unfold tokAt at hd
  rw [Bool.or_eq_false_iff] at hd
  have e : 7 + k = 4 + (1 + (2 + k)) := by omega
  rw [e]
  refine to_b3 T s first seen a b _ _ (fun _ => hd.1) fun seen' => ?_
  refine ends_step 1 ?_
  rw [rep1]
  obtain ⟨s3, h3⟩ := acc23 (T.getD s 0) (seen'.add 13)
  rw [st_3, if_neg (by omega), h3, hd.2]
  show Ends (b3 T s first s3 b (some false)) _ _
  refine ends_step 2 ?_
  rw [st_3no, if_pos hs]
  exact h _

theorem at_end (T : Array Nat) (s : Nat) (first : Bool) (seen : Sre.Seen) (a b : Option Nat) (hs : T.size ≤ s) : Ends (bs T s first seen a b) 8 (fun m => m.outcome = some .failed) := by
  refine to_b3 T s first seen a b _ 4 (fun h => absurd h (by omega)) fun seen' => ?_
  refine ends_step (k := 3) 1 ?_
  rw [rep1]
  rw [st_3, if_pos hs]
  refine ends_step (k := 1) 2 ?_
  rw [st_3no, if_neg (by omega)]
  exact ⟨1, Nat.le_refl _, rfl⟩

def firstTok (T : Array Nat) : Nat → Nat → Option Nat
  | 0, _ => none
  | f + 1, s => if tokAt T s then some s else firstTok T f (s + 1)

theorem search (T : Array Nat) : ∀ (f s : Nat) (first : Bool) (seen : Sre.Seen) (a b : Option Nat), T.size - s = f → s ≤ T.size →
    Ends (bs T s first seen a b) (12 * (f + 1)) (fun m => match firstTok T f s with | none => m.outcome = some .failed | some i => Found m i (tokEnd T i))
  | 0, s, first, seen, a, b, hf, hs => by
    obtain ⟨n, hn, hp⟩ := at_end T s first seen a b (by omega)
    exact ⟨n, by omega, hp⟩
  | f + 1, s, first, seen, a, b, hf, hs => by
    rw [firstTok]
    by_cases ht : tokAt T s = true
    · rw [if_pos ht]
      by_cases hd : Sre.isDigit (T.getD s 0) = true
      · obtain ⟨n, hn, hp⟩ := at_digit T s first seen a b (by omega) hd
        exact ⟨n, by omega, hp⟩
      · have hd' : Sre.isDigit (T.getD s 0) = false := by simpa using hd
        have hp' : isSep (T.getD s 0) = true := by unfold tokAt at ht; rw [hd', Bool.false_or] at ht; exact ht
        obtain ⟨n, hn, hp⟩ := at_sep T s first seen a b (by omega) hd' hp'
        exact ⟨n, by omega, hp⟩
    · rw [if_neg ht]
      have := at_other T s first seen a b _ (12 * (f + 1)) (by omega) (by simpa using ht) fun seen' => search T f (s + 1) false seen' (some s) b (by omega) (by omega)
      obtain ⟨n, hn, hp⟩ := this
      exact ⟨n, by omega, hp⟩
end Mine
end
section
open PySem
set_option Elab.async false
set_option maxRecDepth 100000
set_option maxHeartbeats 4000000
namespace Mine
open PySem.Sre PySem.Builtin.Re

theorem rep_stable {m : M} (h : m.outcome.isSome = true) : ∀ k, Nat.repeat M.step k m = m
  | 0 => rfl
  | k + 1 => by rw [Nat.repeat, rep_stable h k, M.step, if_pos h]
theorem rep_more {m : M} {n : Nat} (h : (Nat.repeat M.step n m).outcome.isSome = true) (j : Nat) : Nat.repeat M.step (n + j) m = Nat.repeat M.step n m := by
  rw [rep_add, rep_stable h]

section
variable {MM : Model} {A : Around} {E : Value → Shared → Prop} {s : Shared}
theorem drive {Q : M → Shared → Prop} : ∀ (turns : Nat) (m : M) (n : Nat), (Nat.repeat M.step n m).outcome.isSome = true → n < 4 * turns → Q (Nat.repeat M.step n m) s → wpAny MM A (reDrive turns m) Q E s
  | 0, _, _, _, hn, _ => absurd hn (by omega)
  | t + 1, m, n, ho, hn, hq => by
    rw [reDrive]
    have e4 : M.runFor reTurnSteps m = Nat.repeat M.step 4 m := runFor_eq 4 m
    rw [e4]
    by_cases h4 : (Nat.repeat M.step 4 m).outcome.isSome = true
    · have : Nat.repeat M.step 4 m = Nat.repeat M.step n m := by
        rcases Nat.le_total n 4 with h | h
        · have := rep_more ho (4 - n); rw [show n + (4 - n) = 4 from by omega] at this; exact this
        · have := rep_more h4 (n - 4); rw [show 4 + (n - 4) = n from by omega] at this; exact this.symm
      simp only [h4, if_true]
      rw [this]
      exact wpAny_pure hq
    · simp only [h4]
      have h5 : 4 < n := by
        rcases Nat.lt_or_ge 4 n with h | h
        · exact h
        · exfalso; apply h4; have := rep_more ho (4 - n); rw [show n + (4 - n) = 4 from by omega] at this; rw [this]; exact ho
      have er : Nat.repeat M.step n m = Nat.repeat M.step (n - 4) (Nat.repeat M.step 4 m) := by rw [← rep_add, show 4 + (n - 4) = n from by omega]
      rw [er] at ho hq
      exact wpAny_bind (wpAny_rule (drive t _ (n - 4) ho (by omega) hq))

theorem to_end {m : M} {k : Nat} {P : M → Prop} {Q : Option M → Shared → Prop} (he : Ends m k P) (hk : k < 4 * 2 ^ 64) (hP : ∀ m', P m' → (m'.outcome = some .matched ∧ Q (some m') s) ∨ (m'.outcome = some .failed ∧ Q none s)) :
    wpAny MM A (reRunToEnd m) Q E s := by
  obtain ⟨n, hn, hp⟩ := he
  unfold reRunToEnd
  refine wpAny_bind (drive _ m n ?_ (by omega) ?_)
  · rcases hP _ hp with h | h <;> rw [h.1] <;> rfl
  · refine wpAny_bind (wpAny_forIn_list _ (fun _ _ s' => s' = s) _ ?_ ?_ _ _ rfl)
    · rintro x rest b s' rfl
      split
      · exact wpAny_bind (wpAny_rule (wpAny_pure rfl))
      · exact wpAny_pure rfl
    · rintro b s' rfl
      rcases hP _ hp with ⟨h, hq⟩ | ⟨h, hq⟩
      · rw [h]; exact wpAny_pure hq
      · rw [h]; exact wpAny_pure hq

theorem forSearch_in (T : Array Nat) (p : Nat) (hp : p < T.size) : forSearch cA T 1 p T.size false = bs T p true (({} : Sre.Seen).add 14) none none := by
  have e : forSearch cA T 1 p T.size false = (if (decide (p > T.size) || decide (T.size - p < 1)) = true then M.say ({ code := cA, text := T, lim := T.size, start := p, pc := 5, pos := p, handed := p, marks := #[none, none], mustAdvance := false, seen := ({} : Sre.Seen).add 14 }) false
    else bs T p true (({} : Sre.Seen).add 14) none none) := by rfl
  rw [e, if_neg (by simp; omega)]
theorem forSearch_out (T : Array Nat) (p : Nat) (hp : T.size ≤ p) : Ends (forSearch cA T 1 p T.size false) 1 (fun m => m.outcome = some .failed) := by
  have e : forSearch cA T 1 p T.size false = (if (decide (p > T.size) || decide (T.size - p < 1)) = true then M.say ({ code := cA, text := T, lim := T.size, start := p, pc := 5, pos := p, handed := p, marks := #[none, none], mustAdvance := false, seen := ({} : Sre.Seen).add 14 }) false
    else bs T p true (({} : Sre.Seen).add 14) none none) := by rfl
  rw [e, if_pos (by simp; omega)]
  exact ⟨1, Nat.le_refl _, rfl⟩

theorem next_found (t : ReTarget) (T : Array Nat) (p : Nat) {Q : Option M → Shared → Prop} (hc : t.code = cA) (ht : t.text = T) (hg : t.groups = 1) (hl : t.lim = T.size) (hz : T.size < 2 ^ 30) (hp : p ≤ T.size)
    (h : match firstTok T (T.size - p) p with | none => Q none s | some i => ∀ m, Found m i (tokEnd T i) → Q (some m) s) : wpAny MM A (reNextFound t p false) Q E s := by
  unfold reNextFound
  rw [hc, ht, hg, hl]
  rcases Nat.lt_or_ge p T.size with hlt | hge
  · rw [forSearch_in T p hlt]
    refine to_end (search T (T.size - p) p true _ none none rfl hp) (by omega) fun m' hm => ?_
    cases hf : firstTok T (T.size - p) p with
    | none => rw [hf] at hm h; exact .inr ⟨hm, h⟩
    | some i => rw [hf] at hm h; exact .inl ⟨hm.out, h _ hm⟩
  · have e0 : T.size - p = 0 := by omega
    rw [e0] at h
    exact to_end (forSearch_out T p hge) (by omega) fun m' hm => .inr ⟨hm, h⟩
end
end Mine
end
section
open PySem PyProof.Rows
set_option Elab.async false
set_option maxRecDepth 100000
set_option maxHeartbeats 4000000
namespace Mine
open PySem.Builtin.Re

theorem firstTok_some {T : Array Nat} : ∀ {f s i : Nat}, firstTok T f s = some i → s ≤ i ∧ i < s + f ∧ tokAt T i = true
  | 0, _, _, h => by cases h
  | f + 1, s, i, h => by
    rw [firstTok] at h
    split at h
    · rename_i hc; cases h; exact ⟨Nat.le_refl _, by omega, hc⟩
    · have := firstTok_some h; exact ⟨by omega, by omega, this.2.2⟩
theorem tokEnd_le {T : Array Nat} {i : Nat} (hi : i < T.size) (ht : tokAt T i = true) : i < tokEnd T i ∧ tokEnd T i ≤ T.size := by
  by_cases hd : Sre.isDigit (T.getD i 0) = true
  · rw [tokEnd, if_pos hd]
    have h1 := cnt_le T (min 4294967295 (T.size - i)) i
    obtain ⟨q, hq⟩ : ∃ q, min 4294967295 (T.size - i) = q + 1 := ⟨min 4294967295 (T.size - i) - 1, by omega⟩
    have h2 : 0 < cnt T (min 4294967295 (T.size - i)) i := by rw [hq, cnt, if_pos hd]; omega
    omega
  · rw [tokEnd, if_neg hd]; omega

def splF (T : Array Nat) : Nat → Nat → List Str
  | 0, p => [⟨T.extract p T.size⟩]
  | f + 1, p => match firstTok T (T.size - p) p with
    | none => [⟨T.extract p T.size⟩]
    | some i => ⟨T.extract p i⟩ :: ⟨T.extract i (tokEnd T i)⟩ :: splF T f (tokEnd T i)

theorem strsAre_app {vs ws : List Value} {xs ys : List Str} (h : StrsAre vs xs) (k : StrsAre ws ys) : StrsAre (vs ++ ws) (xs ++ ys) := by
  induction h with
  | nil => exact k
  | cons y t _ ih => exact .cons y t ih

abbrev codeT : Obj := { cls := .type "tuple", data := .seq #[Value.int 14 0, Value.int 4 0, Value.int 0 0, Value.int 1 0, Value.int 4294967295 0, Value.int 17 0, Value.int 0 0, Value.int 7 0, Value.int 14 0, Value.int 24 0, Value.int 10 0, Value.int 1 0, Value.int 4294967295 0, Value.int 13 0, Value.int 5 0, Value.int 22 0, Value.int 48 0, Value.int 57 0, Value.int 0 0, Value.int 1 0, Value.int 15 0, Value.int 17 0, Value.int 15 0, Value.int 13 0, Value.int 11 0, Value.int 9 0, Value.int 0 0, Value.int 26624 0, Value.int 2147483648 0, Value.int 0 0, Value.int 0 0, Value.int 0 0, Value.int 0 0, Value.int 0 0, Value.int 0 0, Value.int 15 0, Value.int 2 0, Value.int 0 0, Value.int 17 0, Value.int 1 0, Value.int 1 0] }
abbrev patO (t1 t2 : Tok) : Obj := { cls := .type "re.Pattern", data := .fields #[.str (Str.ofString "([0-9]+|[._+-])") t1, .int 32 t2, .int 1 0, .none, .none, .ref 35, .int 0 0] }

section
variable {prog : Program} {w : World} {A : Around} {E : Value → Shared → Prop} {s : Shared}
theorem slice_ok {T : Array Nat} {a b : Nat} {Q : Value → Shared → Prop} (hz : T.size < 2 ^ 20) (h : Q (.str ⟨T.extract a b⟩ s.toks) { s with toks := s.toks + 1 }) : wpAny (model prog w) A (reSlice T 0 a b) Q E s := by
  unfold reSlice
  have : ¬ ((⟨T.extract a b⟩ : Str).length > sizeLine) := by
    show ¬ ((T.extract a b).size > sizeLine)
    rw [Array.size_extract, sizeLine_eq]; omega
  show wpAny _ _ (mkStr ⟨T.extract a b⟩) _ _ _
  unfold mkStr
  rw [if_neg this]
  exact fun _ _ _ => h

def LI (T : Array Nat) (s : Shared) (rest : List Nat) (b : Array Value × Nat × Nat × Bool × Int × Bool) (s' : Shared) : Prop :=
  ∃ tk zs, s' = { s with toks := tk } ∧ StrsAre b.1.toList zs ∧ b.2.1 = b.2.2.1 ∧ b.2.2.2.1 = false ∧ b.2.1 ≤ T.size ∧ b.1.size ≤ 2 * b.2.1 ∧
    (b.2.2.2.2.2 = false → ∃ f, T.size - b.2.1 < f ∧ zs ++ splF T f b.2.1 = splF T (T.size + 1) 0 ∧ T.size - b.2.1 < rest.length) ∧
    (b.2.2.2.2.2 = true → zs ++ [⟨T.extract b.2.1 T.size⟩] = splF T (T.size + 1) 0)

theorem split_run {x : Str} {t t1 t2 : Tok} {Q : PySem.Fin → Shared → Prop}
    (h36 : s.heap.get? 36 = some (patO t1 t2)) (h35 : s.heap.get? 35 = some codeT) (hx : x.cps.size < 2 ^ 20)
    (h : ∀ vs tk, StrsAre vs (splF x.cps (x.cps.size + 1) 0) → Q (.done (.ret (.ref s.heap.objs.size))) { s with heap := s.heap.push { cls := .type "list", data := .seq vs.toArray }, toks := tk }) :
    wpAny (model prog w) A (Builtin.«re.Pattern.split» ⟨[.ref 36, .str x t], []⟩) Q E s := by
  unfold Builtin.«re.Pattern.split»
  dsimp only
  refine wpAny_bind (wpAny_of_eq (a := [some (.str x t), none]) (by rfl) ?_)
  dsimp only
  refine wpAny_bind (wpAny_pure ?_)
  unfold reWholeTarget
  refine wpAny_bind (wpAny_bind (wpAny_fieldsOf h36 rfl ?_))
  refine wpAny_bind (wpAny_of_eq (a := (x.cps, 0)) (by rfl) ?_)
  dsimp only
  refine wpAny_ite_false rfl (wpAny_ite_false rfl ?_)
  refine wpAny_bind (wpAny_of_eq (a := ()) (by rfl) ?_)
  refine wpAny_bind ?_
  unfold reRawItems
  refine wpAny_bind (wpAny_seqItems h35 rfl ?_)
  refine wpAny_pure (wpAny_pure ?_)
  generalize hcode : Array.map (fun x : Int => x.toNat) (Array.map reRawOf ((some #[Value.int 14 0, Value.int 4 0, Value.int 0 0, Value.int 1 0, Value.int 4294967295 0, Value.int 17 0, Value.int 0 0, Value.int 7 0, Value.int 14 0, Value.int 24 0, Value.int 10 0, Value.int 1 0, Value.int 4294967295 0, Value.int 13 0, Value.int 5 0, Value.int 22 0, Value.int 48 0, Value.int 57 0, Value.int 0 0, Value.int 1 0, Value.int 15 0, Value.int 17 0, Value.int 15 0, Value.int 13 0, Value.int 11 0, Value.int 9 0, Value.int 0 0, Value.int 26624 0, Value.int 2147483648 0, Value.int 0 0, Value.int 0 0, Value.int 0 0, Value.int 0 0, Value.int 0 0, Value.int 0 0, Value.int 15 0, Value.int 2 0, Value.int 0 0, Value.int 17 0, Value.int 1 0, Value.int 1 0]).getD #[])) = code
  have hc : code = cA := by rw [← hcode]; decide +kernel
  subst hc
  refine wpAny_bind (wpAny_forIn_list _ (LI x.cps s) _ ?_ ?_ _ _ ?_)
  · rintro y rest ⟨out, start, last, must, n, over⟩ s' ⟨tk, zs, rfl, hs, h1, h2, h3, h3', h4, h5⟩
    dsimp only at h1 h2 h3 h3' h4 h5 hs ⊢
    subst h1 h2
    cases over with
    | true =>
      rw [if_neg (by decide)]
      exact wpAny_pure ⟨tk, zs, rfl, hs, rfl, rfl, h3, h3', (by intro h; cases h), h5⟩
    | false =>
      obtain ⟨f, hf, ht, hr⟩ := h4 rfl
      rw [if_pos (by decide)]
      refine wpAny_bind ?_
      rw [if_neg (by simp)]
      refine next_found _ x.cps start rfl rfl rfl rfl (by omega) h3 ?_
      obtain ⟨f', rfl⟩ : ∃ f', f = f' + 1 := ⟨f - 1, by omega⟩
      rw [splF] at ht
      cases hft : firstTok x.cps (x.cps.size - start) start with
      | none =>
        rw [hft] at ht
        exact wpAny_pure ⟨tk, zs, rfl, hs, rfl, rfl, h3, h3', (by intro h; cases h), fun _ => ht⟩
      | some i =>
        rw [hft] at ht
        dsimp only at ht
        intro m F
        obtain ⟨i1, i2, i3⟩ := firstTok_some hft
        obtain ⟨e1, e2⟩ := tokEnd_le (T := x.cps) (i := i) (by omega) i3
        generalize tokEnd x.cps i = e at *
        dsimp only
        rw [F.start, F.handed]
        refine wpAny_bind (slice_ok (by omega) ?_)
        dsimp only
        refine wpAny_bind ?_
        show wpAny _ _ (forIn [0] (out.push _) _) _ _ _
        rw [List.forIn_cons]
        refine wpAny_bind (wpAny_bind ?_)
        unfold reMachineGroup
        rw [F.last, F.m0, F.m1]
        rw [if_neg (by decide)]
        dsimp only
        rw [if_neg (by omega)]
        refine slice_ok (by omega) (wpAny_pure ?_)
        dsimp only
        rw [List.forIn_nil]
        refine wpAny_pure (wpAny_pure ?_)
        refine ⟨_, zs ++ [⟨x.cps.extract start i⟩, ⟨x.cps.extract i e⟩], rfl, ?_, rfl, by simp; omega, by dsimp only; omega, by simp; omega, ?_, (by intro h; cases h)⟩
        · simp only [Array.toList_push, List.append_assoc, List.cons_append, List.nil_append]
          exact strsAre_app hs (.cons _ _ (.cons _ _ .nil))
        · intro _
          refine ⟨f', by dsimp only; omega, by simpa using ht, ?_⟩
          dsimp only
          simp only [List.length_cons] at hr
          omega
  · rintro ⟨out, start, last, must, n, over⟩ s' ⟨tk, zs, rfl, hs, h1, h2, h3, h3', h4, h5⟩
    dsimp only at h1 h2 h3 h3' h4 h5 hs ⊢
    subst h1 h2
    cases over with
    | false =>
      obtain ⟨f, hf, ht, hr⟩ := h4 rfl
      simp at hr
    | true =>
      rw [if_neg (by decide)]
      refine wpAny_bind (slice_ok (by omega) ?_)
      refine wpAny_bind (wpAny_newObj_type ?_ ?_)
      · refine wpAny_pure ?_
        refine h _ _ ?_
        rw [← h5 rfl]
        simp only [Array.toList_push]
        exact strsAre_app hs (.cons _ _ .nil)
      · simp [sizeOk]
        rw [sizeLine_eq]
        omega
  · exact ⟨s.toks, [], rfl, .nil, rfl, rfl, Nat.zero_le _, Nat.le_refl _, fun _ => ⟨x.cps.size + 1, by dsimp only; omega, rfl, by simp [reMostMatches]; omega⟩, (by intro h; cases h)⟩
end
end Mine
end
section
open PySem PyProof.Rows PySem.Calls PySem.W
set_option Elab.async false
set_option maxRecDepth 100000
set_option maxHeartbeats 4000000
namespace Mine
theorem owner_pat : Manifest.owners.lookup (String.ofList ['n', 'r', 'e', 't', 't', 'a', 'P', '.', 'e', 'r'].reverse) = some Manifest.sig_re_Pattern := by kernel_rfl
theorem slot_pat_split : Slot "re.Pattern" "split" "re.Pattern.split" :=
  .of (owner := "re.Pattern") (n := "split") (by rw [typeLookup_type, builtinLookup_eq_fast]; kernel_rfl) (by decide +kernel) (by decide +kernel) (by decide +kernel)
    (by first | exact .inl (by decide +kernel) | exact .inr (by decide +kernel)) (by rw [isSubtype_type]; kernel_rfl)
theorem type_pat_split : typeOf (.builtin "re.Pattern.split") = pure (.type "method_descriptor") := by show builtinType _ = _; rw [builtinType_eq_fast]; kernel_rfl
theorem entry_pat_split : entryFor table "re.Pattern.split" = some Builtin.«re.Pattern.split» := entryFor_of_tree (by kernel_rfl)
theorem args_pat_split (a b : Value) : argsOk "re.Pattern.split" ⟨[a, b], []⟩ := by
  unfold argsOk; rw [signature?_of (id := "re.Pattern.split") (n := ['t', 'i', 'l', 'p', 's']) (o := ['n', 'r', 'e', 't', 't', 'a', 'P', '.', 'e', 'r']) (by kernel_rfl) owner_pat]; kernel_rfl
end Mine
namespace Mine
theorem plainAttrs_pat : PlainAttrs "re.Pattern" :=
  ⟨⟨"object.__getattribute__", by rw [typeLookup_type, builtinLookup_eq_fast]; kernel_rfl, by decide +kernel⟩, by rw [typeLookup_type, builtinLookup_eq_fast]; kernel_rfl⟩
section
variable {prog : Program} {w : World} {A : Around} {E : Value → Shared → Prop} {s : Shared}
theorem getMethod_split {M : Model} {t1 t2 : Tok} {pl : Sem Bool} {Q : Value × List Value → Shared → Prop} (h36 : s.heap.get? 36 = some (patO t1 t2)) (h : Q (.builtin "re.Pattern.split", [.ref 36]) s) :
    wpAny M A (getMethod (.ref 36) (Str.ofString "split") pl) Q E s :=
  getMethod_builtin (T := "re.Pattern") ⟨_, h36, rfl⟩ plainAttrs_pat slot_pat_split type_pat_split (fun a e => by cases e; exact ⟨_, h36, rfl⟩) h
theorem call_split {x : Str} {t t1 t2 : Tok} {Q : Value → Shared → Prop}
    (h36 : s.heap.get? 36 = some (patO t1 t2)) (h35 : s.heap.get? 35 = some codeT) (hx : x.cps.size < 2 ^ 20)
    (h : ∀ vs tk, StrsAre vs (splF x.cps (x.cps.size + 1) 0) → Q (.ref s.heap.objs.size) { s with heap := s.heap.push (lst vs 0), toks := tk }) :
    wpAny (model prog w) A (call (.builtin "re.Pattern.split") [.ref 36, .str x t]) Q E s :=
  wpAny_call_entry slot_pat_split (T := "re.Pattern") ⟨_, h36, rfl⟩ entry_pat_split (split_run h36 h35 hx fun vs tk hs => ⟨_, rfl, h vs tk hs⟩) (args_pat_split _ _)
end
end Mine
end
section
open PySem PySem.W PyProof.Rows PySem.Calls PySem.SeqAt
open AutoSeq1 (wpAny_loadPart')
open MeetsSeq MeetsSeq2 MeetsSeq3
set_option Elab.async false
set_option maxRecDepth 100000
set_option maxHeartbeats 8000000
namespace Mine

def RcLtAt (A : Around) (s : Shared) (y x : Value) (b : Bool) : Prop :=
  ∀ (prog : Program) (w : World) (E : Value → Shared → Prop) (Q : Value → Shared → Prop), Q (.bool b) s → wpAny (model prog w) A (richCompare .Lt y x) Q E s

def ltRes (e q : Nat → Bool) (n1 n2 : Nat) : Nat → Nat → Bool
  | 0, _ => decide (n1 < n2)
  | k + 1, i => if e i then ltRes e q n1 n2 k (i + 1) else q i

theorem lt_loopAt (l b : Addr) (items items2 : Array Value) (n n2 : Nat) (dd dd2 : Option Addr) (sl sl2 : Array (Option Value)) (e q : Nat → Bool) (k : Nat) :
    ∀ i : Nat, min items.size items2.size - i = k → (∀ j, j < i → e j = true) → Meets (Builtin.«list.__eq__.loop» ⟨[.ref l, .ref b, rawInt i, rawInt 0], []⟩)
      (fun A R s => s.heap.get? l = some { cls := .type "list", dict := dd, data := .seq items n, slots := sl } ∧ s.heap.get? b = some { cls := .type "list", dict := dd2, data := .seq items2 n2, slots := sl2 } ∧
        (∀ j (h1 : j < items.size) (h2 : j < items2.size), EqAt A.in1 s items[j] items2[j] (e j)) ∧
        (∀ j (h1 : j < items.size) (h2 : j < items2.size), (∀ i, i < j → e i = true) → e j = false → RcLtAt A.in1 s items[j] items2[j] (q j)) ∧
        R (.ok (.ret (.bool (ltRes e q items.size items2.size k i)))) s) := by
  induction k with
  | zero =>
    intro i hk hpre prog w A R s h
    obtain ⟨hp, g, d, tk, os⟩ := s; obtain ⟨hl, hb, he, hq, h⟩ := h
    wp_walk using wpAny_loadPart' hl, wpAny_loadPart' hb
    by_cases h1 : i < items.size
    · have hi1 : items[((i : Nat) : Int).toNat]? = some items[i] := by simp [h1]
      have hi2 : items2[((i : Nat) : Int).toNat]? = none := by simp; omega
      rw [hi1, hi2]
      wp_walk using wpAny_loadPart' hl, wpAny_loadPart' hb
      exact h
    · have hi1 : items[((i : Nat) : Int).toNat]? = none := by simp; omega
      rw [hi1]
      wp_walk using wpAny_loadPart' hl, wpAny_loadPart' hb
      exact h
  | succ k ih =>
    intro i hk hpre prog w A R s h
    obtain ⟨hp, g, d, tk, os⟩ := s; obtain ⟨hl, hb, he, hq, h⟩ := h
    wp_walk using wpAny_loadPart' hl, wpAny_loadPart' hb
    have hlt : i < items.size := by omega
    have hlt2 : i < items2.size := by omega
    have hi1 : items[((i : Nat) : Int).toNat]? = some items[i] := by simp [hlt]
    have hi2 : items2[((i : Nat) : Int).toNat]? = some items2[i] := by simp [hlt2]
    have hc : ((i : Int) + 1) = ((i + 1 : Nat) : Int) := by push_cast; rfl
    rw [hi1, hi2]
    refine wpAny_bind (he i hlt hlt2 prog w _ _ ?_)
    rw [ltRes] at h
    cases hb' : e i with
    | true =>
      rw [hb', if_pos rfl] at h
      wp_walk
      rw [hc]
      exact ⟨plainId_quiet plain_eq_loop _, codeAny_builtin entry_eq_loop (by
        rw [Around.under_plainId plain_eq_loop _]
        exact ih (i + 1) (by omega) (fun j hj => by rcases Nat.lt_or_ge j i with h' | h'; exact hpre j h'; rw [show j = i from by omega]; exact hb') prog w A R _ ⟨hl, hb, he, hq, h⟩)⟩
    | false =>
      rw [hb', if_neg Bool.false_ne_true] at h
      wp_walk using wpAny_loadPart' hl, wpAny_loadPart' hb
      rw [hi1, hi2]
      refine wpAny_bind (hq i hlt hlt2 hpre hb' prog w _ _ ?_)
      wp_walk
      exact h

theorem list_ltAt (l b : Addr) (items items2 : Array Value) (n n2 : Nat) (dd dd2 : Option Addr) (sl sl2 : Array (Option Value)) (e q : Nat → Bool) :
    Meets (Builtin.«list.__lt__» ⟨[.ref l, .ref b], []⟩)
      (fun A R s => s.heap.get? l = some { cls := .type "list", dict := dd, data := .seq items n, slots := sl } ∧ s.heap.get? b = some { cls := .type "list", dict := dd2, data := .seq items2 n2, slots := sl2 } ∧
        (∀ j (h1 : j < items.size) (h2 : j < items2.size), EqAt A.in1 s items[j] items2[j] (e j)) ∧
        (∀ j (h1 : j < items.size) (h2 : j < items2.size), (∀ i, i < j → e i = true) → e j = false → RcLtAt A.in1 s items[j] items2[j] (q j)) ∧
        R (.ok (.ret (.bool (ltRes e q items.size items2.size (min items.size items2.size) 0)))) s) := by
  intro prog w A R s h
  obtain ⟨hp, g, d, tk, os⟩ := s; obtain ⟨hl, hb, he, hq, h⟩ := h
  have f3 := AutoSeq1.sub_list_list
  wp_walk using wpAny_loadPart' hl, wpAny_loadPart' hb
  exact ⟨plainId_quiet plain_eq_loop _, codeAny_builtin entry_eq_loop (by
    rw [Around.under_plainId plain_eq_loop _]
    exact lt_loopAt l b items items2 n n2 dd dd2 sl sl2 e q _ 0 (by simp) (fun j hj => absurd hj (Nat.not_lt_zero _)) prog w A R _ ⟨hl, hb, he, hq, h⟩)⟩

theorem rcLt_lists {A : Around} {s : Shared} {l b : Addr} {items items2 : Array Value} {e q : Nat → Bool} (hl : s.heap.IsList l items) (hb : s.heap.IsList b items2) (hu : A.units < cLine)
    (he : ∀ j (h1 : j < items.size) (h2 : j < items2.size), EqAt A.in1 s items[j] items2[j] (e j))
    (hq : ∀ j (h1 : j < items.size) (h2 : j < items2.size), (∀ i, i < j → e i = true) → e j = false → RcLtAt A.in1 s items[j] items2[j] (q j)) :
    RcLtAt A s (.ref l) (.ref b) (ltRes e q items.size items2.size (min items.size items2.size) 0) := fun prog w E Q h => by
  obtain ⟨⟨cls, dd, data, sl⟩, ho, hc, n, hd⟩ := id hl
  obtain ⟨⟨cls2, dd2, data2, sl2⟩, ho2, hc2, n2, hd2⟩ := id hb
  simp only at hc hd hc2 hd2
  subst hc hd hc2 hd2
  exact richCompare_meets_room (op := .Lt) ⟨_, ho, rfl⟩ ⟨_, ho2, rfl⟩ F.slot_list_lt F.entry_list_lt (F.args_list_lt_2 _ _) (list_ltAt l b items items2 n n2 dd dd2 sl sl2 e q)
    ⟨ho, ho2, he, hq, show Value.bool _ ≠ Value.notImplemented ∧ Q (.bool _) s from ⟨(fun x => nomatch x), h⟩⟩ hu
end Mine
end
section
open PySem PySem.W PyProof.Rows PySem.Calls PySem.SeqAt PySem.Spec
set_option Elab.async false
set_option maxRecDepth 100000
set_option maxHeartbeats 8000000
namespace Mine
mutual
def ltO : PyData → PyData → Option Bool
  | .int a, .int b => some (decide (a < b))
  | .str a, .str b => some (decide (a.cps.toList < b.cps.toList))
  | .list xs, .list ys => ltOs xs ys
  | _, _ => none
def ltOs : List PyData → List PyData → Option Bool
  | [], [] => some false
  | [], _ :: _ => some true
  | _ :: _, [] => some false
  | x :: xs, y :: ys => if PyData.eqv x y = true then ltOs xs ys else ltO x y
end
def pairLt (xs ys : List PyData) (j : Nat) : Bool := (ltO (xs.getD j .none) (ys.getD j .none)).getD false
def pEq (xs ys : List PyData) (j : Nat) : Bool := PyData.eqv (xs.getD j .none) (ys.getD j .none)

theorem ltRes_shift (e q : Nat → Bool) (n1 n2 : Nat) : ∀ k i, ltRes e q (n1 + 1) (n2 + 1) k (i + 1) = ltRes (fun j => e (j + 1)) (fun j => q (j + 1)) n1 n2 k i
  | 0, _ => by simp [ltRes]
  | k + 1, i => by
    rw [ltRes, ltRes, ltRes_shift e q n1 n2 k (i + 1)]
theorem ltOs_res : ∀ (xs ys : List PyData) (r : Bool), ltOs xs ys = some r → ltRes (pEq xs ys) (pairLt xs ys) xs.length ys.length (min xs.length ys.length) 0 = r
  | [], [], r, h => by simpa [ltOs, ltRes] using h
  | [], _ :: _, r, h => by simpa [ltOs, ltRes] using h
  | _ :: _, [], r, h => by simpa [ltOs, ltRes] using h
  | x :: xs, y :: ys, r, h => by
    rw [ltOs] at h
    have hm : min (x :: xs).length (y :: ys).length = min xs.length ys.length + 1 := by simp [Nat.succ_min_succ]
    rw [hm, ltRes]
    have e0 : pEq (x :: xs) (y :: ys) 0 = PyData.eqv x y := rfl
    rw [e0]
    split at h
    · rename_i hc
      rw [if_pos hc]
      show ltRes _ _ (xs.length + 1) (ys.length + 1) _ (0 + 1) = r
      rw [ltRes_shift]
      exact ltOs_res xs ys r h
    · rename_i hc
      rw [if_neg hc]
      show (ltO x y).getD false = r
      rw [h]; rfl
theorem ltOs_cmp : ∀ (xs ys : List PyData) (r : Bool), ltOs xs ys = some r → ∀ j, j < xs.length → j < ys.length → (∀ i, i < j → pEq xs ys i = true) → pEq xs ys j = false →
    ltO (xs.getD j .none) (ys.getD j .none) = some (pairLt xs ys j)
  | [], _, _, _, j, h1, _, _, _ => absurd h1 (Nat.not_lt_zero _)
  | _ :: _, [], _, _, j, _, h2, _, _ => absurd h2 (Nat.not_lt_zero _)
  | x :: xs, y :: ys, r, h, j, h1, h2, hp, hj => by
    rw [ltOs] at h
    cases j with
    | zero =>
      have e0 : PyData.eqv x y = false := hj
      rw [if_neg (by rw [e0]; exact Bool.false_ne_true)] at h
      show ltO x y = some ((ltO x y).getD false)
      rw [h]; rfl
    | succ j =>
      have e0 : PyData.eqv x y = true := hp 0 (Nat.succ_pos _)
      rw [if_pos e0] at h
      exact ltOs_cmp xs ys r h j (Nat.lt_of_succ_lt_succ h1) (Nat.lt_of_succ_lt_succ h2) (fun i hi => hp (i + 1) (Nat.succ_lt_succ hi)) hj

theorem depth_list (xs : List PyData) : (PyData.list xs).depth = PyData.depthAll xs + 1 := by rw [PyData.depth]
theorem readsAll_at {h : Heap} : ∀ {vs : List Value} {xs : List PyData} {as : List Addr}, ReadsAll h vs xs as → ∀ j (h1 : j < vs.length), ∃ bs, Reads h vs[j] (xs.getD j .none) bs
  | _, _, _, .nil, j, h1 => absurd h1 (Nat.not_lt_zero _)
  | _, _, _, .cons r rs, 0, _ => ⟨_, r⟩
  | _, _, _, .cons r rs, j + 1, h1 => readsAll_at rs j (Nat.lt_of_succ_lt_succ h1)
theorem readsAll_len {h : Heap} : ∀ {vs : List Value} {xs : List PyData} {as : List Addr}, ReadsAll h vs xs as → vs.length = xs.length
  | _, _, _, .nil => rfl
  | _, _, _, .cons r rs => by simp [readsAll_len rs]
theorem canLay_at : ∀ {xs : List PyData}, PyData.canLayAll0 xs = true → ∀ j, j < xs.length → (xs.getD j .none).canLay0 = true
  | [], _, j, h => absurd h (Nat.not_lt_zero _)
  | x :: xs, hx, 0, _ => (by simpa [PyData.canLayAll0] using hx : x.canLay0 = true ∧ PyData.canLayAll0 xs = true).1
  | x :: xs, hx, j + 1, h => canLay_at (xs := xs) (by simpa [PyData.canLayAll0] using hx : x.canLay0 = true ∧ PyData.canLayAll0 xs = true).2 j (Nat.lt_of_succ_lt_succ h)
theorem depth_at : ∀ {xs : List PyData} (j : Nat), j < xs.length → (xs.getD j .none).depth ≤ PyData.depthAll xs
  | [], j, h => absurd h (Nat.not_lt_zero _)
  | x :: xs, 0, _ => by rw [PyData.depthAll]; exact Nat.le_max_left _ _
  | x :: xs, j + 1, h => by rw [PyData.depthAll]; exact Nat.le_trans (depth_at (xs := xs) j (Nat.lt_of_succ_lt_succ h)) (Nat.le_max_right _ _)


theorem rcLt_int {A : Around} {s : Shared} {x y : Int} {t u : Tok} : RcLtAt A s (.int x t) (.int y u) (decide (x < y)) := fun _ _ _ _ hq => PyProof.Rows.lt_int hq
theorem rcLt_str {A : Around} {s : Shared} {x y : Str} {t u : Tok} : RcLtAt A s (.str x t) (.str y u) (decide (x.cps.toList < y.cps.toList)) := fun _ _ _ _ hq => PyProof.Rows.lt_str hq

theorem rcLt_list (n : Nat) (ih : ∀ (da db : PyData) (A : Around) (s : Shared) (a b : Value) (as bs : List Addr) (r : Bool), da.depth ≤ n → Reads s.heap a da as → Reads s.heap b db bs → da.canLay0 = true → db.canLay0 = true →
      A.units + da.depth < cLine → ltO da db = some r → RcLtAt A s a b r)
    (xs ys : List PyData) (A : Around) (s : Shared) (a b : Value) (as bs : List Addr) (r : Bool) (hn : (PyData.list xs).depth ≤ n + 1) (ra : Reads s.heap a (.list xs) as) (rb : Reads s.heap b (.list ys) bs)
    (hcx : PyData.canLayAll0 xs = true) (hcy : PyData.canLayAll0 ys = true) (hu : A.units + (PyData.list xs).depth < cLine) (h : ltOs xs ys = some r) : RcLtAt A s a b r := by
  rw [depth_list] at hn hu
  cases ra with
  | list h1 h2 h3 h4 =>
  cases rb with
  | list k1 k2 k3 k4 =>
  rename_i o vs nn as' a' o' vs' nn' bs'
  have n1 := readsAll_len h4
  have n2 := readsAll_len k4
  have e1 : vs.size = xs.length := by simpa using n1
  have e2 : vs'.size = ys.length := by simpa using n2
  have key := rcLt_lists (A := A) (s := s) (items := vs) (items2 := vs') (e := pEq xs ys) (q := pairLt xs ys) ⟨_, h1, h2, _, h3⟩ ⟨_, k1, k2, _, k3⟩ (by omega) (fun j j1 j2 => ?_) (fun j j1 j2 hp hj => ?_)
  · rw [e1, e2, ltOs_res xs ys r h] at key
    exact key
  · obtain ⟨cs, r1⟩ := readsAll_at h4 j (by simpa using j1)
    obtain ⟨ds, r2⟩ := readsAll_at k4 j (by simpa using j2)
    have d1 := depth_at (xs := xs) j (by omega)
    have := eqAt_reads _ _ A.in1 s _ _ _ _ r1 r2 (canLay_at hcx j (by omega)) (canLay_at hcy j (by omega)) (Nat.lt_of_le_of_lt (Nat.add_le_add_left (Nat.min_le_left _ _) _) (by rw [Around.in1_units]; omega))
    exact this
  · obtain ⟨cs, r1⟩ := readsAll_at h4 j (by simpa using j1)
    obtain ⟨ds, r2⟩ := readsAll_at k4 j (by simpa using j2)
    have d1 := depth_at (xs := xs) j (by omega)
    exact ih _ _ A.in1 s _ _ _ _ _ (by omega) r1 r2 (canLay_at hcx j (by omega)) (canLay_at hcy j (by omega)) (by rw [Around.in1_units]; omega) (ltOs_cmp xs ys r h j (by omega) (by omega) hp hj)

theorem ltO_cases {da db : PyData} {r : Bool} (h : ltO da db = some r) : (∃ x y, da = .int x ∧ db = .int y ∧ r = decide (x < y)) ∨ (∃ x y, da = .str x ∧ db = .str y ∧ r = decide (x.cps.toList < y.cps.toList)) ∨
    ∃ xs ys, da = .list xs ∧ db = .list ys ∧ ltOs xs ys = some r := by
  cases da <;> cases db <;> first
    | (simp only [ltO] at h; cases h; done)
    | exact .inl ⟨_, _, rfl, rfl, by rw [ltO] at h; exact (Option.some.inj h).symm⟩
    | exact .inr (.inl ⟨_, _, rfl, rfl, by rw [ltO] at h; exact (Option.some.inj h).symm⟩)
    | exact .inr (.inr ⟨_, _, rfl, rfl, by rw [ltO] at h; exact h⟩)
    | (simp [ltO] at h)
theorem canLayAll_of (xs : List PyData) (h : (PyData.list xs).canLay0 = true) : PyData.canLayAll0 xs = true := by rw [PyData.canLay0] at h; exact h

theorem rcLt_reads (n : Nat) : ∀ (da db : PyData) (A : Around) (s : Shared) (a b : Value) (as bs : List Addr) (r : Bool), da.depth ≤ n → Reads s.heap a da as → Reads s.heap b db bs → da.canLay0 = true → db.canLay0 = true →
    A.units + da.depth < cLine → ltO da db = some r → RcLtAt A s a b r := by
  induction n with
  | zero =>
    intro da db A s a b as bs r hn ra rb ha hb hu h
    rcases ltO_cases h with ⟨x, y, rfl, rfl, rfl⟩ | ⟨x, y, rfl, rfl, rfl⟩ | ⟨xs, ys, rfl, rfl, h'⟩
    · cases ra; cases rb; exact rcLt_int
    · cases ra; cases rb; exact rcLt_str
    · rw [depth_list] at hn; omega
  | succ n ih =>
    intro da db A s a b as bs r hn ra rb ha hb hu h
    rcases ltO_cases h with ⟨x, y, rfl, rfl, rfl⟩ | ⟨x, y, rfl, rfl, rfl⟩ | ⟨xs, ys, rfl, rfl, h'⟩
    · cases ra; cases rb; exact rcLt_int
    · cases ra; cases rb; exact rcLt_str
    · exact rcLt_list n ih xs ys A s a b as bs r hn ra rb (canLayAll_of xs ha) (canLayAll_of ys hb) hu h'

theorem ltIn_reads {w : World} {h : Heap} {a b : Value} {da db : PyData} {as bs : List Addr} {r : Bool} (ra : Reads h a da as) (rb : Reads h b db bs) (ha : da.canLay0 = true) (hb : db.canLay0 = true) (hd : da.depth ≤ 50)
    (hr : ltO da db = some r) : LtIn w h a b r := fun prog A E Q s st hu hq =>
  rcLt_reads _ da db A s a b as bs r (Nat.le_refl _) (Reads.keeps st ra) (Reads.keeps st rb) ha hb (by omega) hr prog w E Q hq
end Mine
end
section
open PySem PySem.W PyProof.Rows PySem.Calls
open Sem (wp)
set_option Elab.async false
set_option maxRecDepth 100000
set_option maxHeartbeats 4000000
namespace Mine

section
variable {prog : Program} {w : World} {A : Around} {E : Value → Shared → Prop} {s : Shared} {R : Result → Shared → Prop}
theorem codeC_func {body env}
    (h : wpC (model prog w) (A.deeper env) (execs body env) (fun f s' => R (.ok (.ret (match f with | .ret v => v | _ => .none))) s')
      (fun e s' => wpAny (model prog w) (A.deeper env) (leaving env e) (fun _ s'' => R (.error e) s'') (fun e' s'' => R (.error e') s'') s') s) :
    codeC (model prog w) A (.func body env) R s := by
  refine codeC_tree ?_
  show wpC _ (A.deeper env) (do point; match ← (execs body env).onRaise (leaving env) with | .ret v => ret v | _ => ret .none) _ _ s
  refine wpC_first (wpAny_point (wpC_bind (wpC_onRaise (wpC_mono h (fun f s' h' => ?_) fun _ _ h' => wpC_any h'))))
  cases f <;> exact wpC_pure h'

theorem codeC_call_function {a : Addr} {args : Args} {o : Obj} {fd : FuncData} {body : List Stmt} (hroom : A.depth < recursionLimit)
    (ho : s.heap.get? a = some o)
    (hd' : o.data = .func fd) (hco : fd.scope.isCoroutine = false) (hgen : fd.scope.isGenerator = false) (hbody : fd.body = .stmts body) (hcd : s.heap.CodeRec fd.code fd.qualname)
    (h : wpAny (model prog w) A.in1 (bindArgs fd args) (fun binds s₁ =>
      wpAny (model prog w) A.in1 (newFunctionEnv fd.scope fd.globals fd.closure binds (fd.qualname ++ ".<locals>.") (some a) fd.code none fd.builtins)
        (fun env s₂ => s₂.heap.NoLimit ∧ codeC (model prog w) A (.func body env) R s₂) (fun e s' => R (.error e) s') s₁) (fun e s' => R (.error e) s') s) :
    codeC (model prog w) A (.call (.ref a) args) R s := by
  refine codeC_tree ?_
  show wpC _ A.in1 (callAny (.ref a) args) _ _ s
  simp only [callAny]
  refine wpC_first (wpAny_load ho ?_)
  obtain ⟨c, oc, vs, tq, hc, hoc, hdc, hq⟩ := hcd
  simp only [hd', callFunction, hco, hgen, hbody, hc]
  rw [hc] at h
  refine wpC_first (m := field (.ref c) 1) (wpAny_field hoc hdc hq (wpC_bind (wpC_pure ?_)))
  exact wpC_first (wpAny_mono h (fun binds s₁ h₁ => wpC_first (wpAny_mono h₁ (fun env s₂ h₂ => wpC_first (wpAny_enterFrame h₂.1 hroom
    (wpC_pure (And.intro rfl h₂.2)))) fun _ _ h' => h')) fun _ _ h' => h')

theorem callFC {b : Heap} {as : List Addr}
    {name qual : Str} {params : Arguments} {body : List Stmt} {scope : Scope} {dV kV doc pm cdv ct oc : Value} {an od : Option Addr} {osl : Array (Option Value)} {f : Addr} {args : Args} {binds : List (Str × Value)}
    (G : Gd w b) (st : b.StaysIn s.heap) (ha : ∀ a ∈ as, b.get? a = none)
    (ho : (Mine.hd.heap_39 w.params).lookup f = some ⟨oc, od, .func (fnOf name qual params body scope dV kV doc pm an cdv ct), osl⟩) (hcd : codeIn (Mine.hd.heap_39 w.params) cdv qual = true) (hroom : A.depth < recursionLimit)
    (hbind : BindsTo s (fnOf name qual params body scope dV kV doc pm an cdv ct) args binds) (hloc : ∀ y ∈ binds, scope.names.lookup y.1 = some .local)
    (h : ∀ L h₁, L = s.heap.objs.size → Fr (hideAll s.heap as) L h₁ (bmap binds.reverse) → s.heap.StaysIn h₁ → Gd w (hideAll s.heap as) →
      wpC (model prog w) (A.deeper (envOf qual scope L f cdv)) (execs body (envOf qual scope L f cdv))
        (fun fl s' => R (.ok (.ret (match fl with | .ret v => v | _ => .none))) s')
        (fun e s' => wpAny (model prog w) (A.deeper (envOf qual scope L f cdv)) (leaving (envOf qual scope L f cdv) e) (fun _ s'' => R (.error e) s'') (fun e' s'' => R (.error e') s'') s')
        { s with heap := h₁, toks := s.toks + binds.length })
    (hcell : ∀ x ∈ scope.names, x.2 ≠ .cell) (hco : scope.isCoroutine = false := by rfl) (hgen : scope.isGenerator = false := by rfl) (hk : scope.kind = .function := by rfl) :
    codeC (model prog w) A (.call (.ref f) args) R s := by
  have GS := G.keeps st
  obtain ⟨mean, mg, mb, T⟩ := GS.T
  have st' := stays_hideAll st ha
  refine codeC_call_function (fd := fnOf name qual params body scope dV kV doc pm an cdv ct) (body := body) hroom (GS.K f _ ho) rfl hco hgen rfl (codeRec_of GS.K hcd) (hbind _ _ _ _ ?_)
  refine wpAny_newFunctionEnv hcell hloc (fun h₁ hns hsb => ⟨T.nolimit.fresh _ hsb, codeC_func (h _ h₁ rfl (Fr.congr ⟨hns, fun c o e => ?_, Nat.le_of_eq (hideAll_size _ _)⟩ (bmap_eq _)) (fun c o e => ?_) (G.keeps st'))⟩) hk
  · exact hsb.extBut c o (Nat.ne_of_lt (Heap.lt_size (of_hideAll _ e))) (Heap.get?_push_of_some _ (of_hideAll _ e))
  · exact hsb.extBut c o (Nat.ne_of_lt (Heap.lt_size e)) (Heap.get?_push_of_some _ e)

theorem wpC_If {env : Env} {test body orelse pos} {Q : Flow → Shared → Prop}
    (h : wpAny (model prog w) A (isTrue test env (eval test env)) (fun b s₂ => if b then wpC (model prog w) A (execs body env) Q E s₂ else wpC (model prog w) A (execs orelse env) Q E s₂) E s) :
    wpC (model prog w) A (exec (.If test body orelse pos) env) Q E s := by
  rw [exec_If]
  refine wpC_bind (wpC_standAt (wpC_first (wpAny_mono h (fun b s₂ h₂ => ?_) fun _ _ x => x)))
  cases b <;> exact h₂

theorem wpC_Try {env : Env} {body orelse : List Stmt} {h₀ : ExceptHandler} {hs : List ExceptHandler} {pos : Pos} {Q : Flow → Shared → Prop}
    (h : wpC (model prog w) A (execs body env) (fun f s₁ => match f with | .next => wpC (model prog w) A (execs orelse env) Q E s₁ | f => Q f s₁)
      (fun e s₁ => wpAny (model prog w) A (noteFrame e env) (fun _ s₂ => wpAny (model prog w) A (setFlight e none) (fun _ s₃ => wpAny (model prog w) A (handleBy e env (h₀ :: hs)) Q E s₃) E s₂) E s₁) s) :
    wpC (model prog w) A (exec (.Try body (h₀ :: hs) orelse [] pos) env) Q E s := by
  rw [arm_exec_Try]
  refine wpC_bind (wpC_standAt ?_)
  show wpC _ _ (tryStmt false (execs body env) (h₀ :: hs) (execs orelse env) [] env) _ _ _
  unfold tryStmt
  refine wpC_bind (wpC_attempt (wpC_mono h (fun f s₁ h₁ => ?_) fun e s₁ h₁ => ?_))
  · cases f with
    | next => exact h₁
    | _ => exact wpC_pure h₁
  · refine wpC_first (wpAny_mono h₁ (fun _ s₂ h₂ => ?_) fun _ _ x => x)
    show wpC _ _ (setFlight e none >>= fun _ => handleBy e env (h₀ :: hs)) _ _ _
    exact wpC_first (wpAny_mono h₂ (fun _ s₃ h₃ => wpC_any h₃) fun _ _ x => x)

theorem wpC_Assign {env : Env} {x pos' value pos} {Q : Flow → Shared → Prop}
    (h : wpC (model prog w) A (eval value env) (fun v s₁ => wpAny (model prog w) A (storeName env x v) (fun _ => Q .next) E s₁) E s)
    (hs : swapsWith value (some (.Name x pos')) pos.line env = pure false := by rfl) :
    wpC (model prog w) A (exec (.Assign [.Name x pos'] value pos) env) Q E s := by
  rw [exec_Assign_Name env x pos' value pos hs]
  exact wpC_bind (wpC_standAt (wpC_bind (wpC_mono h (fun v s₁ h₁ => wpC_bind (wpC_standAt (wpC_first (wpAny_bindName (wpAny_mono h₁ (fun _ _ x => wpC_pure x) fun _ _ x => x))))) fun _ _ x => x)))

theorem wpC_For {env : Env} {target iter body orelse pos} {Q : Flow → Shared → Prop}
    (h : wpAny (model prog w) A (eval iter env) (fun x s₁ => wpAny (model prog w) A (pyIter x) (fun it s₂ =>
      codeC (model prog w) A (.forLoop target it body orelse env) (fun r s' => match r with | .ok f => Q f s' | .error e => cameBackBy (model prog w) A env E e s') s₂) E s₁) E s)
    (hs : ∀ x, foldedSetIterable iter env x = pure x := by intro _; rfl) :
    wpC (model prog w) A (exec (.For target iter body orelse pos) env) Q E s := by
  rw [exec_For]
  exact wpC_bind (wpC_standAt (wpC_first (wpAny_mono h (fun x s₁ h₁ => wpC_bind (wpC_of_eq (hs x) (wpC_bind (wpC_standAt (wpC_first (wpAny_holding
    (wpAny_mono h₁ (fun it s₂ h₂ => wpC_runOwn h₂) fun _ _ h' => h'))))))) fun _ _ h' => h')))

theorem codeC_forLoop {target it body orelse env} (I : Nat → Shared → Prop)
    (turn : ∀ n s, I n s → wpAny (model prog w) A (pyNext it) (fun r s₁ => match r with
      | none => wpAny (model prog w) A (execs orelse env) (fun f s₃ => R (.ok f) s₃) (notedBy (model prog w) A env fun e s' => R (.error e) s') s₁
      | some v => wpAny (model prog w) A (assign target env v) (fun _ s₂ => wpC (model prog w) A (execs body env) (fun f s₃ => match f with
          | .next | .cont => ∃ m, m < n ∧ I m s₃
          | .brk => R (.ok .next) s₃
          | .ret v => R (.ok (.ret v)) s₃) (notedBy (model prog w) A env fun e s' => R (.error e) s') s₂) (notedBy (model prog w) A env fun e s' => R (.error e) s') s₁) (notedBy (model prog w) A env fun e s' => R (.error e) s') s)
    (n : Nat) (h : I n s) (ht : ∀ v, letOwnedTupleGo target it v = pure () := by intro _; rfl) : codeC (model prog w) A (.forLoop target it body orelse env) R s := by
  refine codeC_loop rfl I (fun n s hI => ?_) n h
  show wpC _ _ ((forTurn target it body orelse env).onRaise (fun x => do noteFrame x env; theTreesLotGoes x)) _ _ s
  refine wpC_noted ?_
  simp only [forTurn]
  refine wpC_bind (wpC_standAt (wpC_first (wpAny_onRaise (wpAny_mono (turn n s hI) (fun r s₁ h₁ => ?_) fun _ _ h' => wpAny_standAt h'))))
  cases r with
  | none => exact wpC_pure (.inr ⟨rfl, codeC_any (codeAny_block h₁)⟩)
  | some v =>
    refine wpC_bind (wpC_of_eq (ht v) ?_)
    refine wpC_first (wpAny_mono h₁ (fun _ s₂ h₂ => wpC_bind (wpC_mono h₂ (fun f s₃ h₃ => ?_) fun _ _ h' => h')) fun _ _ h' => h')
    cases f with
    | next => exact wpC_pure (.inl ⟨rfl, h₃⟩)
    | cont => exact wpC_pure (.inl ⟨rfl, h₃⟩)
    | brk => exact wpC_pure h₃
    | ret v => exact wpC_pure h₃
end
end Mine
end
section
open PySem PySem.W PyProof.Rows PySem.Calls
set_option Elab.async false
set_option maxRecDepth 100000
set_option maxHeartbeats 4000000
namespace Mine
theorem for_genC {prog : Program} {w : World} {A : Around} {R : Result → Shared → Prop} {s : Shared} {g : Heap} {L I : Addr} {n : Nat} {x : Str} {px : Pos} {body : List Stmt} {env : Env} {m : Str → Option Value} {news : List (Addr × Obj)} {o₀ : Obj}
    (O : Nat → Obj → Prop) (P : Nat → Value → Prop) (J : Nat → (Str → Option Value) → List (Addr × Obj) → Prop)
    (F : Fr g L s.heap m) (N : News g L s.heap ((I, o₀) :: news)) (hO : O 0 o₀) (hne : ∀ p ∈ news, p.1 ≠ I) (hJ : J 0 m news)
    (next : ∀ i m news h tk o (E : Value → Shared → Prop) (Q : Option Value → Shared → Prop), i < n → O i o → Fr g L h m → News g L h ((I, o) :: news) → J i m news →
      (∀ v h' tk' o', P i v → O (i + 1) o' → h'.get? I = some o' → Heap.ExtBut I h h' → Q (some v) { s with heap := h', toks := tk' }) → wpAny (model prog w) A (pyNext (.ref I)) Q E { s with heap := h, toks := tk })
    (fin : ∀ m news h tk o (E : Value → Shared → Prop) (Q : Option Value → Shared → Prop), O n o → Fr g L h m → News g L h ((I, o) :: news) → J n m news →
      (∀ h' tk', Heap.ExtBut I h h' → Q none { s with heap := h', toks := tk' }) → wpAny (model prog w) A (pyNext (.ref I)) Q E { s with heap := h, toks := tk })
    (turn : ∀ i v m news h tk o, i < n → P i v → J i m news → O (i + 1) o → (∀ p ∈ news, p.1 ≠ I) → Fr g L h (fun y => if y = x then some v else m y) → News g L h ((I, o) :: news) →
      wpC (model prog w) A (execs body env) (fun f s₃ => match f with
        | .next => FEnd g L I (O (i + 1)) (J (i + 1)) s s₃
        | .cont => FEnd g L I (O (i + 1)) (J (i + 1)) s s₃
        | .brk => R (.ok .next) s₃
        | .ret v => R (.ok (.ret v)) s₃) (notedBy (model prog w) A env fun e s' => R (.error e) s') { s with heap := h, toks := tk })
    (done : ∀ m news h tk, J n m news → Fr g L h m → News g L h news → R (.ok .next) { s with heap := h, toks := tk })
    (hL : env.locals = L := by rfl) (hx : env.kindOf x = some .local := by rfl) (hp : (env.scope.kind == .class || (env.scope.kind == .module && env.locals != env.globals)) = false := by rfl) :
    codeC (model prog w) A (.forLoop (.Name x px) (.ref I) body [] env) R s := by
  have hLI : L ≠ I := fun q => (N _ (.head _)).2.1 q.symm
  have hgI : g.get? I = none := (N _ (.head _)).2.2
  subst hL
  refine codeC_forLoop (fun k s' => ∃ h' tk m' news' i o, s' = { s with heap := h', toks := tk } ∧ O i o ∧ Fr g env.locals h' m' ∧ News g env.locals h' ((I, o) :: news') ∧ (∀ p ∈ news', p.1 ≠ I) ∧ J i m' news' ∧ i ≤ n ∧ k = n + 1 - i) ?_ (n + 1)
    ⟨s.heap, s.toks, m, news, 0, o₀, rfl, hO, F, N, hne, hJ, Nat.zero_le _, rfl⟩
  rintro k s' ⟨h', tk, m', news', i, o, rfl, hO', F', N', hne', hJ', hi, rfl⟩
  by_cases hlt : i < n
  · refine next i m' news' h' tk o _ _ hlt hO' F' N' hJ' fun v h₁ tk₁ o₁ hP hO₁ hI₁ hk₁ => ?_
    have F₁ := fr_ext F' hLI hgI hk₁
    have N₁ := news_ext N' hne' hk₁ hI₁
    refine wpAny_assign_Name (wpAny_storeName_local hx F₁.ns (fun h₂ hn₂ hs₂ => ?_) hp)
    refine wpC_mono (turn i v m' news' h₂ _ o₁ hlt hP hJ' hO₁ hne' (F₁.set hn₂ hs₂) (N₁.set hs₂)) (fun f s₃ h₃ => ?_) fun _ _ e => e
    cases f with
    | ret v => exact h₃
    | brk => exact h₃
    | cont =>
      obtain ⟨h₄, tk₄, m₄, news₄, o₄, rfl, hO₄, F₄, N₄, hne₄, hJ₄⟩ := h₃
      exact ⟨n + 1 - (i + 1), by omega, h₄, tk₄, m₄, news₄, i + 1, o₄, rfl, hO₄, F₄, N₄, hne₄, hJ₄, hlt, rfl⟩
    | next =>
      obtain ⟨h₄, tk₄, m₄, news₄, o₄, rfl, hO₄, F₄, N₄, hne₄, hJ₄⟩ := h₃
      exact ⟨n + 1 - (i + 1), by omega, h₄, tk₄, m₄, news₄, i + 1, o₄, rfl, hO₄, F₄, N₄, hne₄, hJ₄, hlt, rfl⟩
  · have hin : i = n := by omega
    subst hin
    refine fin m' news' h' tk o _ _ hO' F' N' hJ' fun h₁ tk₁ hk₁ => wpAny_execs_nil ?_
    exact done m' news' h₁ tk₁ hJ' (fr_ext F' hLI hgI hk₁) (news_tail N' hne' hk₁)

theorem for_listC {prog : Program} {w : World} {A : Around} {R : Result → Shared → Prop} {s : Shared} {g : Heap} {L I l : Addr} {vs : List Value} {x : Str} {px : Pos} {body : List Stmt} {env : Env} {m : Str → Option Value} {news : List (Addr × Obj)} {o₀ : Obj}
    (J : Nat → (Str → Option Value) → List (Addr × Obj) → Prop) (hh : A.handled = none)
    (hl : ∀ i m news h, J i m news → Fr g L h m → News g L h news → h.IsList l vs.toArray) (hlI : l ≠ I)
    (F : Fr g L s.heap m) (N : News g L s.heap ((I, o₀) :: news)) (hO : liObj l 0 o₀) (hne : ∀ p ∈ news, p.1 ≠ I) (hJ : J 0 m news)
    (turn : ∀ i v m news h tk o, vs[i]? = some v → J i m news → liObj l (i + 1) o → (∀ p ∈ news, p.1 ≠ I) → Fr g L h (fun y => if y = x then some v else m y) → News g L h ((I, o) :: news) →
      wpC (model prog w) A (execs body env) (fun f s₃ => match f with
        | .next => FEnd g L I (liObj l (i + 1)) (J (i + 1)) s s₃
        | .cont => FEnd g L I (liObj l (i + 1)) (J (i + 1)) s s₃
        | .brk => R (.ok .next) s₃
        | .ret v => R (.ok (.ret v)) s₃) (notedBy (model prog w) A env fun e s' => R (.error e) s') { s with heap := h, toks := tk })
    (done : ∀ m news h tk, J vs.length m news → Fr g L h m → News g L h news → R (.ok .next) { s with heap := h, toks := tk })
    (hL : env.locals = L := by rfl) (hx : env.kindOf x = some .local := by rfl) (hp : (env.scope.kind == .class || (env.scope.kind == .module && env.locals != env.globals)) = false := by rfl) :
    codeC (model prog w) A (.forLoop (.Name x px) (.ref I) body [] env) R s := by
  refine for_genC (n := vs.length) (fun i o => liObj l i o) (fun i v => vs[i]? = some v) J F N hO hne hJ ?_ ?_ ?_ done hL hx hp
  · rintro i m news h tk o E Q hi hO F N hJ k
    have N' : News g L h news := fun p hp => N p (.tail _ hp)
    refine wpAny_pyNext_list_item (x := vs[i]) ⟨_, (N _ (.head _)).1, hO⟩ (hl i m news h hJ F N') (by simp [hi]) fun h' hit' hs' => ?_
    obtain ⟨o', ho', r⟩ := hit'
    exact k _ h' _ o' (by simp [hi]) r ho' hs'.extBut
  · rintro m news h tk o E Q hO F N hJ k
    have N' : News g L h news := fun p hp => N p (.tail _ hp)
    exact wpAny_pyNext_list_end hh ⟨_, (N _ (.head _)).1, hO⟩ (hl _ m news h hJ F N') (by simp) fun h' hs' => k h' _ hs'
  · rintro i v m news h tk o hi hv hJ hO hne F N
    exact turn i v m news h tk o hv hJ hO hne F N
end Mine
end
section
open PySem PySem.W PyProof.Rows PySem.Calls PySem.NumText
open Sem (wp)
set_option Elab.async false
set_option maxRecDepth 100000
set_option maxHeartbeats 4000000
namespace Mine
theorem idx10 (u : Tok) : Builtin.Int.intIndex "int.__new__" (.int 10 u) = pure 10 := by kernel_rfl
theorem typeInt : isType (.type "int") = pure true := rfl
theorem numText_eq (x : PySem.Str) (t : Tok) : (int_private% "numeralText?") (.str x t) = pure (some (numTextOf x)) := rfl
theorem intNew_eq (x : PySem.Str) (t u : Tok) : Builtin.«int.__new__» ⟨[.type "int", .str x t, .int 10 u], []⟩ = ((int_private% "intFromText") (.str x t) (numTextOf x) 10 >>= fun v => ret v) := by
  have f1 := F.conv_sub_int
  have f2 := F.madeHere_int
  unfold Builtin.«int.__new__»
  have e1 : (Value.type "int" == Value.type "int") = true := by decide
  simp only [f1, f2, pure_bind, typeInt, Bool.not_true, Bool.false_eq_true, if_false, List.isEmpty_nil, List.length_cons, List.length_nil, List.forIn_nil, List.head?_cons, List.getElem?_cons_succ, List.getElem?_cons_zero, e1, if_true, Bool.true_and, Nat.zero_add]
  kernel_rfl
theorem typeCall_int_2 (a b : Value) : checkTypeCall "int" ⟨[a, b], []⟩ = pure () := by kernel_rfl
theorem newCall_int_2 (a b : Value) : checkBuiltinCall "int.__new__" ⟨[.type "int", a, b], []⟩ = pure () := by kernel_rfl
theorem init_int_3 (o a b : Value) : argsOk "object.__init__" ⟨[o, a, b], []⟩ := by
  unfold argsOk; rw [signature?_of (id := "object.__init__") (n := ['_', '_', 't', 'i', 'n', 'i', '_', '_']) (o := ['t', 'c', 'e', 'j', 'b', 'o']) (by kernel_rfl) F.owner_object]; kernel_rfl
theorem typeCall_eq (a b : Value) : ∃ k : Value → Sem PySem.Fin, Builtin.«type.__call__» ⟨[.type "int", a, b], []⟩ = (holding [.builtin "int.__new__"] (call (.builtin "int.__new__") [.type "int", a, b] []) >>= k) ∧
    ∀ (prog : Program) (w : World) (A : Around) (E : Value → Shared → Prop) (Q : PySem.Fin → Shared → Prop) (n : Int) (u : Tok) (s : Shared), Q (.done (.ret (.int n u))) s → wpAny (model prog w) A (k (.int n u)) Q E s := by
  have h1 := F.called_int.notType
  have h2 := F.called_int.canCreate
  have h3 := F.mro_int
  have h4 := F.called_int.made
  refine ⟨?k, ?e, ?h⟩
  case e =>
    unfold Builtin.«type.__call__»
    simp only [h1, h2, h3, h4, typeCall_int_2, pure_bind, Bool.false_eq_true, if_false, List.isEmpty_cons]
    rfl
  intro prog w A E Q n u s h
  have hli := F.called_int.init.lookup
  have hbi := F.called_int.init.bind (.int n u)
  have hsub := F.called_int.sub
  have hT : s.TypeIs (.int n u) "int" := rfl
  obtain ⟨hp, g, d, tk, os⟩ := s
  repeat (any_goals (first | assumption | wp_step))
  refine codeAny_mono (codeAny_call_builtin F.called_int.init.plain F.entry_object_init (F.called_int.init.check _ _ _ _ _ _ _ _ hT (init_int_3 _ _ _) (object_init_meets F.called_int.init.lookup F.called_int.made F.newNe_int prog w A _ _ ⟨hT, (show wants (fun r s₂ => r = .none ∧ Q (.done (.ret (.int n u))) s₂) E _ _ from ⟨rfl, h⟩)⟩))) fun r₂ s₂ hr₂ => ?_
  cases r₂ with
  | error e => exact hr₂
  | ok fl₂ =>
    cases fl₂ with
    | ret r =>
      obtain ⟨rfl, hq⟩ := hr₂
      repeat (any_goals (first | assumption | wp_step))
    | _ => exact hr₂.elim

section
variable {prog : Program} {w : World} {A : Around} {E : Value → Shared → Prop} {s : Shared}
theorem codeC_builtin {id : String} {args : Args} {b : Builtin} {R : Result → Shared → Prop} (hb : entryFor table id = some b)
    (h : wpC (model prog w) (A.under (.builtin id args)) (b args)
      (fun fin s' => match fin with | .done f => R (.ok f) s' | .again c' => c'.quiet = true ∧ codeC (model prog w) A c' R s') (fun e s' => R (.error e) s') s) :
    codeC (model prog w) A (.builtin id args) R s := by
  refine codeC_tree ?_
  show wpC _ _ (match entryFor table id with | some b => b args | none => unsupported ((withoutEnding? id "#data").getD id)) _ _ s
  rw [hb]; exact h
theorem codeC_call_builtin {id : String} {args : Args} {b : Builtin} {R : Result → Shared → Prop} (hq : plainId id = true) (hb : entryFor table id = some b) (hc : checkBuiltinCall id args = pure ())
    (h : wpC (model prog w) A.in1 (b args)
      (fun fin s' => match fin with | .done f => R (.ok f) s' | .again c' => c'.quiet = true ∧ codeC (model prog w) A c' R s') (fun e s' => R (.error e) s') s) :
    codeC (model prog w) A (.call (.builtin id) args) R s := by
  refine codeC_tree ?_
  show wpC _ A.in1 (do checkBuiltinCall id args; again (.builtin id args)) _ _ s
  refine wpC_bind (wpC_of_eq hc (wpC_pure (And.intro (plainId_quiet hq args) (codeC_builtin hb ?_))))
  rw [Around.under_plainId hq args]; exact h
theorem call_int2 {x : PySem.Str} {t u : Tok} {Q : Value → Shared → Prop}
    (h : wpC (model prog w) A.in1.in1 ((int_private% "intFromText") (.str x t) (numTextOf x) 10) (fun v s' => ∃ n u, v = .int n u ∧ Q v s') E s) :
    wpC (model prog w) A (call (.type "int") [.str x t, .int 10 u]) Q E s := by
  refine wpC_call (codeC_tree ?_)
  show wpC _ _ (callAny (.type "int") _) _ _ _
  refine wpC_pure ⟨Code.quiet_builtin _ (by decide +kernel), codeC_builtin F.entry_type_call ?_⟩
  rw [Around.under_plain (weight_type_call_type "int" [.str x t, .int 10 u] []) (units_type_call_type "int" [.str x t, .int 10 u] [])]
  obtain ⟨k, e, hk⟩ := typeCall_eq (.str x t) (.int 10 u)
  rw [e]
  refine wpC_bind (wpC_holding (wpC_call (codeC_call_builtin (by decide +kernel) F.entry_int_new (newCall_int_2 _ _) ?_)))
  rw [intNew_eq]
  refine wpC_bind (wpC_mono h (fun v s' hv => ?_) fun _ _ x => x)
  obtain ⟨n, u', rfl, hQ⟩ := hv
  exact wpC_pure (wpC_any (hk _ _ _ _ _ _ _ _ hQ))
theorem text_bad {x : PySem.Str} {t : Tok} {text : List Nat} {Q : Value → Shared → Prop} (hh : A.handled = none)
    (hs : (text.takeWhile (· != 0)).length ≤ 640) (hr : (int_private% "readNumeral") 0 10 (text.takeWhile (· != 0)) = (int_private% "Numeral.invalid")) (hx : (reprText x).length ≤ sizeLine)
    (h : ∀ h' tk e, Heap.NewExc s.heap h' e "ValueError" → E (.ref e) { s with heap := h', toks := tk }) :
    wpC (model prog w) A ((int_private% "intFromText") (.str x t) text 10) Q E s := by
  show wpC _ _ (@ite (Sem Value) ((text.takeWhile (· != 0)).length ≤ 640) _ _ _) _ _ _
  dsimp only
  have e0 : ∀ b : Bool, ((if (b && (List.take 200 (List.takeWhile (fun x => x != 0) text)).any fun x => decide (x ≥ 128)) = true then (pure () : Sem Unit) else pure ()) = pure ()) := fun b => by split <;> rfl
  have e1 : (int_private% "bytesOf?") (.str x t) = pure none := rfl
  simp only [if_pos hs, pure_bind, hr, e1, Option.isSome_none, Bool.false_and, Bool.false_eq_true, if_false]
  refine wpC_first (wpAny_rule (wpC_first (wpAny_pyRepr_str ?_ hx)))
  refine wpC_first (wpAny_mkStr ?_ ?_)
  · refine wpC_first (wpAny_newExc_plain plainExc_ValueError fun h' e he => ?_)
    exact wpC_bind (wpC_mark (wpC_any (wpAny_raiseNew_none hh (h _ _ _ he.newExc))))
  · have q : (Str.ofString (toString "invalid literal for int() with base " ++ toString 10 ++ toString ": ")).length = 40 := by decide +kernel
    show (_ ++ (⟨(reprText x).cps.extract 0 200⟩ : Str)).length ≤ sizeLine
    have q2 : ((reprText x).cps.extract 0 200).size ≤ 200 := by rw [Array.size_extract]; omega
    have q3 : ∀ a b : Str, (a ++ b).length = a.length + b.length := fun a b => Array.size_append
    rw [q3, q]
    show 40 + ((reprText x).cps.extract 0 200).size ≤ sizeLine
    exact Nat.le_trans (Nat.add_le_add_left q2 40) (by decide)
theorem text_good {x : PySem.Str} {t : Tok} {n : Int} {Q : Value → Shared → Prop} (hl : x.length ≤ 640) (hn : PySem.intText? x = some n) (h : Q (.int n s.toks) { s with toks := s.toks + 1 }) :
    wpC (model prog w) A ((int_private% "intFromText") (.str x t) (numTextOf x) 10) Q E s := by
  have hs : (numSeenOf x).length ≤ 640 := Nat.le_trans (seen_length x) hl
  have hr : (int_private% "readNumeral") 0 10 (numSeenOf x) = (int_private% "Numeral.value") n ∧ ((numSeenOf x).length == (numTextOf x).length) = true := by
    rcases read0 x hs with ⟨m, h1, h2, h3⟩ | ⟨h1, _⟩
    · rw [hn] at h1
      injection h1 with h1
      subst h1
      exact ⟨h3, h2⟩
    · rw [hn] at h1
      cases h1
  exact wpC_any (KIN.wp_text hs hr.1 hr.2 h)
end
end Mine
end
section
open PySem PySem.W PyProof.Rows PySem.Calls
open Sem (wp)
set_option Elab.async false
set_option maxRecDepth 100000
set_option maxHeartbeats 4000000
namespace Mine
section
variable {prog : Program} {w : World} {A : Around} {E : Value → Shared → Prop} {s : Shared}
theorem wpC_CallName {M : Model} {env : Env} {id : Str} {p pos : Pos} {args : List Expr} {Q : Value → Shared → Prop}
    (h : wpAny M A (eval (.Name id p) env) (fun f s₁ => wpC M A (callWith pos f [] (backTo pos (starEach args env)) []) Q E s₁) E s) :
    wpC M A (eval (.Call (.Name id p) args [] pos) env) Q E s := by
  show wpC M A (do callWith pos (← eval (.Name id p) env) [] (backTo pos (starEach args env)) (backToKw pos (keywordEach [] env))) Q E s
  exact wpC_first h
theorem wpC_callWith_type {M : Model} {pos : Pos} {T : String} {first : List Value} {args : List (Bool × Sem Value)} {Q : Value → Shared → Prop}
    (hplain : args.any (·.1) = false)
    (h : wpAny M A (evalArgs (.type T) true args []) (fun a s₁ => wpC M A (call (.type T) (first ++ a.pos) a.kw) Q E s₁) E s) :
    wpC M A (callWith pos (.type T) first args []) Q E s := by
  unfold callWith
  refine wpC_first (wpAny_holding (wpAny_mono h (fun a s₁ h₁ => wpC_bind (wpC_standAt ?_)) fun _ _ x => x))
  simp only [hplain, List.any_nil, Bool.or_false]
  refine wpC_bind (wpC_pure ?_)
  exact wpC_bind (wpC_mono h₁ (fun r s₂ hr => wpC_bind (wpC_holding (wpC_any (wpAny_point (wpC_pure hr))))) fun _ _ x => x)

theorem evalArgs2 {M : Model} {env : Env} {f : Value} {pos : Pos} {e : Expr} {rest : List Expr} {Q : Args → Shared → Prop}
    (h : wpAny M A (spliced (backTo pos (starEach (e :: rest) env))) (fun vs s₁ => Q ⟨vs, []⟩ s₁) E s)
    (he : starEach (e :: rest) env = (false, eval e env) :: starEach rest env := by rfl) :
    wpAny M A (evalArgs f true (backTo pos (starEach (e :: rest) env)) []) Q E s := by
  rw [he] at h ⊢
  exact evalArgs_plain h

theorem caught {M : Model} {base : Heap} {env : Env} {outer : List Env} {L e : Addr} {oe : Obj} {vs : Array Value} {Q : Unit → Shared → Prop}
    (hfr : A.frames = some (env :: outer)) (hl : s.heap.FunFrames base (env :: outer)) (hf : env.frame = some L)
    (he : s.heap.get? e = some oe) (hkb : base.StaysIn s.heap) (hen : base.get? e = none) (hd : oe.data = .fields vs) (h1 : vs[1]? = some .none)
    (h : ∀ h', Heap.Left base (env :: outer) e oe.cls s.heap h' → Q () { s with heap := h' }) :
    wpAny M A (noteFrame (.ref e) env) (fun _ s₂ => wpAny M A (setFlight (.ref e) none) Q E s₂) E s := by
  unfold noteFrame
  simp only [hf]
  refine wpAny_bind (wpAny_field he hd h1 ?_)
  rw [if_neg (by decide)]
  exact wpAny_newEntry hfr hl hf he hkb hen hd (Array.getElem?_eq_some_iff.mp h1).1 h

theorem fr_slots {g h h' : Heap} {L : Addr} {m : Str → Option Value} {oL : Obj} {sl} (F : Fr g L h m) (e : h.get? L = some oL) (e' : h'.get? L = some { oL with slots := sl }) (k : g.StaysIn h') : Fr g L h' m := by
  obtain ⟨⟨o, es, ep, ho, hd, hk, hm⟩, k0, ab⟩ := F
  rw [e] at ho; injection ho with ho; subst ho
  exact ⟨⟨_, es, ep, e', hd, hk, hm⟩, k, ab⟩

/-- the arm of an exception that the suite itself has raised: the frames' slots are filled, nothing else is changed -/
theorem except_arm {g h : Heap} {L L0 e : Addr} {m : Str → Option Value} {pre : List (Addr × Obj)} {o0 : Obj} {env envL : Env} {cls : String} {t : Expr} {b₀ : Stmt} {suite : List Stmt} {pos : Pos} {Q : Flow → Shared → Prop}
    (hfr : A.frames = some [env, envL]) (hf : env.frame = some L) (hf0 : envL.frame = some L0) (hk : env.scope.kind ≠ .module) (hk0 : envL.scope.kind ≠ .module)
    (x : Heap.NewExc h s.heap e cls) (F : Fr g L h m) (N : News g L h (pre ++ [(L0, o0)])) (hp : ∀ p ∈ pre, p.1 ≠ L0) (h0d : ∀ vs, o0.data ≠ .fields vs)
    (hexc : isSubtype (.type cls) (.type "BaseException") = pure true) (hnt : isSubtype (.type ((Manifest.find? cls).elim "type" fun x => x.metatype)) (.type "tuple") = pure false) (hsub : isSubtype (.type cls) (.type cls) = pure true)
    (hev : ∀ h' sl (Q : Value → Shared → Prop) (E : Value → Shared → Prop), Fr g L h' m → News g L h' (pre ++ [(L0, { o0 with slots := sl })]) → (∀ tk, Q (.type cls) { s with heap := h', toks := tk }) →
      wpAny (model prog w) (A.mark (some (.ref e))) (eval t env) Q E { s with heap := h' })
    (hrest : ∀ h' sl tk, Fr g L h' m → News g L h' (pre ++ [(L0, { o0 with slots := sl })]) → wpAny (model prog w) (A.mark (some (.ref e))) (execs (b₀ :: suite) env) Q (notedBy (model prog w) (A.mark (some (.ref e))) env (cameBackBy (model prog w) A env E)) { s with heap := h', toks := tk }) :
    wpAny (model prog w) A (noteFrame (.ref e) env) (fun _ s₂ => wpAny (model prog w) A (setFlight (.ref e) none) (fun _ s₃ => wpAny (model prog w) A (handleBy (.ref e) env [.ExceptHandler (some t) none (b₀ :: suite) pos]) Q E s₃) E s₂) E s := by
  obtain ⟨ob, tp, he, hcls, hd⟩ := x.there
  have z0 := N (L0, o0) (by simp)
  obtain ⟨oL, esL, epL, hoL, hdL, _⟩ := id F.ns
  have hLnf : ∀ vs, oL.data ≠ .fields vs := fun vs q => by rw [hdL] at q; cases q
  have hbk : (hideAll h [L, L0]).StaysIn s.heap := fun c o q => x.keeps c o (of_hideAll _ q)
  have hen : (hideAll h [L, L0]).get? e = none := by
    cases hq : (hideAll h [L, L0]).get? e with
    | none => rfl
    | some o' => have := of_hideAll _ hq; rw [x.new] at this; cases this
  have hff : s.heap.FunFrames (hideAll h [L, L0]) [env, envL] :=
    ⟨hk, ⟨L, oL, hf, hideAll_none _ (.head _), x.keeps _ _ hoL, hLnf⟩, hk0, ⟨L0, o0, hf0, hideAll_none _ (.tail _ (.head _)), x.keeps _ _ z0.1, h0d⟩, trivial⟩
  refine caught hfr hff hf he hbk hen hd rfl fun h₁ hL => ?_
  obtain ⟨k1, _, kT, k3⟩ := hL
  obtain ⟨slL, eL⟩ := k3 L oL (x.keeps _ _ hoL) hLnf
  obtain ⟨sl0, e0⟩ := k3 L0 o0 (x.keeps _ _ z0.1) h0d
  have keep : ∀ c o, c ≠ L → c ≠ L0 → h.get? c = some o → h₁.get? c = some o := fun c o q1 q2 q => k1 c o (hideAll_get _ q (by simp [q1, q2]))
  have gk : g.StaysIn h₁ := fun c o q => keep c o (fun r => by rw [r] at q; exact absurd (Heap.lt_size q) (Nat.not_lt.mpr F.above)) (fun r => by rw [r] at q; rw [z0.2.2] at q; cases q) (F.keep c o q)
  have F₁ : Fr g L h₁ m := fr_slots F hoL eL gk
  have N₁ : News g L h₁ (pre ++ [(L0, { o0 with slots := sl0 })]) := fun p hp' => by
    rcases List.mem_append.mp hp' with q | q
    · have P := N p (List.mem_append_left _ q)
      exact ⟨keep _ _ P.2.1 (hp p q) P.1, P.2⟩
    · obtain rfl := List.mem_singleton.mp q
      exact ⟨e0, z0.2⟩
  obtain ⟨oe, vs, T, oT, ts, he1, hc1, hd1, hv1, hbT, hTe, hT, hdT, ht3⟩ := kT
  refine wpAny_handleBy_builtin hexc hnt hsub (hev h₁ sl0 _ _ F₁ N₁ fun tk => ⟨rfl, ?_, ?_⟩)
  · exact ⟨_, he1, hc1.trans hcls⟩
  · rw [if_pos rfl]
    refine wpAny_setFlight_none he1 hd1 hv1 hT hdT (Array.getElem?_eq_some_iff.mp ht3).1 ?_
    have hTL : T ≠ L := fun q => by rw [q, eL] at hT; injection hT with hT; subst hT; exact hLnf _ hdT
    have hT0 : T ≠ L0 := fun q => by rw [q, e0] at hT; injection hT with hT; subst hT; exact h0d _ hdT
    have other : ∀ c o, c ≠ T → h₁.get? c = some o → (h₁.update T (Obj.mapFields (·.setIfInBounds 3 .none))).get? c = some o := fun c o q e => by
      rw [Heap.get?_update_other _ _ (Ne.symm q)]; exact e
    have hgT : ∀ c o, h.get? c = some o → c ≠ T := fun c o q r => by
      by_cases q1 : c = L
      · exact hTL (r.symm.trans q1)
      · by_cases q2 : c = L0
        · exact hT0 (r.symm.trans q2)
        · rw [← r, hideAll_get _ q (by simp [q1, q2])] at hbT; cases hbT
    refine hrest _ sl0 tk ⟨F₁.ns.at' fun o q => other _ _ (Ne.symm hTL) q, fun c o q => other c o (hgT c o (F.keep c o q)) (gk c o q), F₁.above⟩ fun p hp' => ?_
    have P := N₁ p hp'
    refine ⟨other _ _ ?_ P.1, P.2⟩
    rcases List.mem_append.mp hp' with q | q
    · exact hgT _ _ (N p (List.mem_append_left _ q)).1
    · obtain rfl := List.mem_singleton.mp q
      exact Ne.symm hT0
end
end Mine
end
section
open PySem PySem.W PyProof.Rows PySem.Calls
set_option Elab.async false
set_option maxRecDepth 100000
set_option maxHeartbeats 8000000
namespace Mine
local macro_rules | `(tactic| walk_at "wk") => `(tactic| repeat ((try dsimp only); (fail_if_success (with_reducible show wpAny _ _ (exec (Stmt.While _ _ _ _) _) _ _ _)); (fail_if_success (with_reducible show wpAny _ _ (exec (Stmt.For _ _ _ _ _) _) _ _ _)); walk1))
theorem fillK6 : PySem.Challenge.rw_mq0156_01 = PySem.Challenge.rw_mq0156_01 ∧ Mine.hd.heap_39 = Mine.hd.heap_39 := by k_fill; exact ⟨rfl, rfl⟩

inductive Atoms : List Value → List PyData → Prop
  | nil : Atoms [] []
  | int (i : Int) (t : Tok) {vs ds} : Atoms vs ds → Atoms (.int i t :: vs) (.int i :: ds)
  | str (x : Str) (t : Tok) {vs ds} : Atoms vs ds → Atoms (.str x t :: vs) (.str x :: ds)
theorem Atoms.append {a b : List Value} {c d : List PyData} (h : Atoms a c) (k : Atoms b d) : Atoms (a ++ b) (c ++ d) := by
  induction h with
  | nil => exact k
  | int i t _ ih => exact .int i t ih
  | str x t _ ih => exact .str x t ih

def sepTok (y : Str) : Bool := !(Builtin.Str.occurrences (Str.ofString "._+-") y 0 4 1).isEmpty
def stages : List (String × Int) := [("dev", 10), ("alpha", 20), ("a", 20), ("beta", 30), ("b", 30), ("c", 40), ("RC", 50), ("rc", 50), ("pl", 200), ("p", 200), ("x", 0), ("C", 0)]
/-- the tokens that the law's texts have -/
inductive Tok3 : Str → List PyData → Prop
  | sep (y) : sepTok y = true → Tok3 y []
  | num (y : Str) (n : Int) : sepTok y = false → y.length ≤ 640 → PySem.intText? y = some n → Tok3 y [.int 100, .int n]
  | word (z : String) (n : Int) : (z, n) ∈ stages → Tok3 (Str.ofString z) [.int n, .str (Str.ofString z)]

theorem strsAre_at {vs : List Value} {ts : List Str} (h : StrsAre vs ts) : ∀ {i : Nat} {v : Value}, vs[i]? = some v → ∃ y t, v = .str y t ∧ ts[i]? = some y := by
  induction h with
  | nil => intro i v e; simp at e
  | cons y t _ ih =>
    intro i v e
    cases i with
    | zero => simp at e; exact ⟨y, t, e.symm, rfl⟩
    | succ i => simp at e; obtain ⟨y', t', h1, h2⟩ := ih e; exact ⟨y', t', h1, by simpa using h2⟩
theorem strsAre_len {vs : List Value} {ts : List Str} (h : StrsAre vs ts) : vs.length = ts.length := by
  induction h with
  | nil => rfl
  | cons y t _ ih => simp [ih]

theorem extend_tup {prog : Program} {w : World} {A : Around} {E : Value → Shared → Prop} {s : Shared} {h₀ : Heap} {L : Addr} {m : Str → Option Value} {D b : Addr} {ys : List Value} {n n2 : Nat} {its2 : Array Value} {own rest : List (Addr × Obj)} {Q : Value → Shared → Prop}
    (F : Fr h₀ L s.heap m) (N : News h₀ L s.heap (own ++ (D, lst ys n) :: rest)) (hown : ∀ p ∈ own, p.1 ≠ D) (hap : ∀ p ∈ rest, p.1 ≠ D)
    (hb : s.heap.get? b = some { cls := .type "tuple", data := .seq its2 n2 })
    (h : ∀ h' n', Fr h₀ L h' m → News h₀ L h' (own ++ (D, lst (ys ++ its2.toList) n') :: rest) → Q .none { s with heap := h' })
    (hsz : ys.length + its2.size ≤ sizeLine) :
    wpAny (model prog w) A (call (.builtin "list.extend") [.ref D, .ref b]) Q E s := by
  have hm := N _ (List.mem_append_right own (List.Mem.head rest))
  have hsz' : ys.toArray.size + its2.size ≤ sizeLine := by rw [List.size_toArray]; exact hsz
  refine call_meets PySem.F.slot_list_extend ⟨_, hm.1, rfl⟩ PySem.F.entry_list_extend (PySem.F.args_list_extend_2 _ _) (AutoSeq1.list_extend_list_tuple_0 D ys.toArray n b its2 n2 (extend_door hsz') (Nat.le_trans (Nat.le_add_right _ _) hsz') (Nat.le_succ_of_le hsz')) ⟨hm.1, hb, ?_⟩
  have e : ys.toArray ++ its2 = (ys ++ its2.toList).toArray := by simp
  have ho' : (s.heap.update D (Obj.mapSeq fun x => x ++ its2)).get? D = some (lst (ys ++ its2.toList) (if (ys.toArray ++ its2).size == ys.toArray.size then n else n + 1)) := by
    rw [Heap.get?_update_self _ hm.1 (by rw [mapSeq_app]; rfl), mapSeq_app, e]
  exact h _ _ (F.change (Heap.SameBut.update ..) hm.2.1 hm.2.2) (N.setIn hown hap (Heap.SameBut.update ..) ho')

theorem Atoms.len {a : List Value} {c : List PyData} (h : Atoms a c) : a.length = c.length := by
  induction h with
  | nil => rfl
  | int i t _ ih => simp [ih]
  | str x t _ ih => simp [ih]
theorem word_facts {z : String} {n : Int} (hz : (z, n) ∈ stages) : (Builtin.Str.occurrences (Str.ofString "._+-") (Str.ofString z) 0 (Str.ofString "._+-").length 1).isEmpty = true ∧
    ((PySem.numTextOf (Str.ofString z)).takeWhile (· != 0)).length ≤ 640 ∧ (int_private% "readNumeral") 0 10 ((PySem.numTextOf (Str.ofString z)).takeWhile (· != 0)) = (int_private% "Numeral.invalid") ∧
    (reprText (Str.ofString z)).length ≤ sizeLine ∧ (Spec.lookup (PyData.str (Str.ofString z)) [(PyData.str { cps := #[100, 101, 118] }, PyData.int 10), (PyData.str { cps := #[97, 108, 112, 104, 97] }, PyData.int 20), (PyData.str { cps := #[97] }, PyData.int 20), (PyData.str { cps := #[98, 101, 116, 97] }, PyData.int 30), (PyData.str { cps := #[98] }, PyData.int 30), (PyData.str { cps := #[99] }, PyData.int 40), (PyData.str { cps := #[82, 67] }, PyData.int 50), (PyData.str { cps := #[114, 99] }, PyData.int 50), (PyData.str { cps := #[112, 108] }, PyData.int 200), (PyData.str { cps := #[112] }, PyData.int 200)]).getD (PyData.int 0) = .int n := by
  simp only [stages, List.mem_cons, Prod.mk.injEq, List.not_mem_nil, or_false] at hz
  rcases hz with ⟨rfl, rfl⟩ | ⟨rfl, rfl⟩ | ⟨rfl, rfl⟩ | ⟨rfl, rfl⟩ | ⟨rfl, rfl⟩ | ⟨rfl, rfl⟩ | ⟨rfl, rfl⟩ | ⟨rfl, rfl⟩ | ⟨rfl, rfl⟩ | ⟨rfl, rfl⟩ | ⟨rfl, rfl⟩ | ⟨rfl, rfl⟩ <;> exact ⟨by decide +kernel, by decide +kernel, by kernel_rfl, by decide +kernel, by kernel_rfl⟩

theorem flat_int {v : Value} {n : Int} (h : PyProof.V.Flat v (.int n)) : ∃ t, v = .int n t := by
  cases h default
  exact ⟨_, rfl⟩

theorem cmpver_spec {prog : Program} {w : World} {A : Around} {R : Result → Shared → Prop} {s : Shared} {x : Str} {t : Tok} {b : Heap} {L0 : Addr} {o0 : Obj} {envL : Env} {kt : Str → List PyData}
    (G : Gd w b) (st : b.StaysIn s.heap) (hb0 : b.get? L0 = none) (h0 : s.heap.get? L0 = some o0) (h0d : ∀ vs, o0.data ≠ .fields vs) (hfr : A.frames = some [envL]) (hf0 : envL.frame = some L0) (hk0 : envL.scope.kind ≠ .module)
    (hx : x.cps.size < 2 ^ 20) (hts : ∀ y ∈ splF x.cps (x.cps.size + 1) 0, Tok3 y (kt y)) (hkl : ((splF x.cps (x.cps.size + 1) 0).flatMap kt).length ≤ 1000) (hu : A.units + 400 < cLine)
    (hroom : A.depth + 2 < recursionLimit) (hh : A.handled = none)
    (hR : ∀ h' tk r ep vs sl, b.StaysIn h' → (hideAll s.heap [L0]).StaysIn h' → h'.get? L0 = some { o0 with slots := sl } → s.heap.get? r = none → h'.get? r = some (lst vs ep) → Atoms vs ((splF x.cps (x.cps.size + 1) 0).flatMap kt) →
      R (.ok (.ret (.ref r))) { s with heap := h', toks := tk }) :
    codeC (model prog w) A (.call (.ref 44) ⟨[.str x t], []⟩) R s := by
  refine callFC (as := [L0]) G st (by simpa using hb0) (by with_unfolding_all rfl) (by with_unfolding_all rfl) (by omega) (BindsTo.of_eq rfl) (locs rfl) (fun L h₁ eL F hk G' => ?_) (by decide)
  have hL : L0 ≠ L := by rw [eL]; exact Nat.ne_of_lt (Heap.lt_size h0)
  have N : News (hideAll s.heap [L0]) L h₁ [(L0, o0)] := by
    intro p hp
    cases hp with
    | head => exact ⟨hk _ _ h0, hL, hideAll_none _ (.head _)⟩
    | tail _ h => cases h
  have st' : b.StaysIn (hideAll s.heap [L0]) := stays_hideAll st (by simpa using hb0)
  obtain ⟨mean, mg, mb, T⟩ := G'.T
  have X := G'.K
  generalize hg : hideAll s.heap [L0] = g at *
  replace F : Fr g L h₁ (fun y => if y = Str.ofString "version" then some (Value.str x t) else none) := F
  generalize s.toks + _ = t0
  replace X : (Mine.hd.heap_39 w.params).In g := X
  replace T : Top VV LL mean mg mb g := T
  have hgn : ∀ c, g.get? c = none → c ≠ L0 → s.heap.get? c = none := fun c e hc => by
    cases q : s.heap.get? c with
    | none => rfl
    | some o => have := hideAll_get [L0] q (by simpa using hc); rw [hg, e] at this; cases this
  clear eL hk G' hg
  refine wpC_execs (wpC_any ?_)
  walk_at "wk"
  refine wpC_execs (wpC_any ?_)
  walk_at "wk"
  refine wpC_execs (wpC_For ?_)
  walk_at "wk"
  rename Fr _ _ _ _ => F
  rename News _ _ _ _ => N
  rename_i r _ l1 h₄
  have h36 : g.get? 36 = some (patO 285 329) := X 36 _ (by with_unfolding_all rfl)
  have h35 : g.get? 35 = some codeT := X 35 _ (by with_unfolding_all rfl)
  refine getMethod_split (F.keep _ _ h36) ?_
  walk_at "wk"
  refine call_split (F.keep _ _ h36) (F.keep _ _ h35) hx fun vs tk₃ hvs => ?_
  have hr0 : r < h₄.objs.size := Heap.lt_size (N _ (.head _)).1
  have hL0r : L0 < h₄.objs.size := Heap.lt_size (N _ (.tail _ (.head _))).1
  replace N := News.push F N (lst vs 0)
  replace F := F.push (lst vs 0)
  refine wpAny_pyIter_list (News.isList N (.head _)) ?_
  dsimp only at F N ⊢
  have hs1 : (h₄.push (lst vs 0)).objs.size = h₄.objs.size + 1 := Heap.size_push _ _
  replace N := News.push F N ({ cls := .type "list_iterator", data := .fields #[.ref h₄.objs.size, .int 0 0] } : Obj)
  replace F := F.push ({ cls := .type "list_iterator", data := .fields #[.ref h₄.objs.size, .int 0 0] } : Obj)
  have hr00 : s.heap.get? r = none := hgn _ (N _ (.tail _ (.tail _ (.head _)))).2.2 (Nat.ne_of_gt l1)
  generalize hI : (h₄.push (lst vs 0)).objs.size = I at *
  generalize hlv : h₄.objs.size = lv at *
  generalize hts' : splF x.cps (x.cps.size + 1) 0 = ts at *
  refine for_listC (vs := vs) (l := lv) (fun i m news => ∃ rs ep sl, news = [(lv, lst vs 0), (r, lst rs ep), (L0, { o0 with slots := sl })] ∧ m (Str.ofString "result") = some (.ref r) ∧ Atoms rs ((ts.take i).flatMap kt)) hh ?_ (fun q => by rw [q] at hs1; exact absurd hs1 (Nat.ne_of_lt (Nat.lt_succ_self _))) F N ⟨rfl, rfl⟩ ?_ ⟨[], 0, o0.slots, rfl, rfl, .nil⟩ ?_ ?_
  · rintro i m news h ⟨rs, ep, sl, rfl, _, _⟩ F N
    exact News.isList N (.head _)
  · intro p hp
    simp only [List.mem_cons, List.not_mem_nil, or_false] at hp
    rcases hp with rfl | rfl | rfl
    · exact fun q => by rw [hs1] at q; exact absurd q (Nat.ne_of_lt (Nat.lt_succ_self _))
    · exact fun q => by rw [hs1] at q; exact absurd q (Nat.ne_of_lt (Nat.lt_succ_of_lt hr0))
    · exact fun q => by rw [hs1] at q; exact absurd q (Nat.ne_of_lt (Nat.lt_succ_of_lt hL0r))
  · rintro i v m news h₅ tk₅ o hv ⟨rs, ep, sl, rfl, e1, hat⟩ hO hne F N
    obtain ⟨y, ty, rfl, hy⟩ := strsAre_at hvs hv
    have hyt : Tok3 y (kt y) := hts y (List.mem_of_getElem? hy)
    have htk : (ts.take (i + 1)).flatMap kt = (ts.take i).flatMap kt ++ kt y := by
      rw [List.take_add_one, hy]; simp
    replace F := fputs [(Str.ofString "v", .str y ty), (Str.ofString "result", .ref r)] F ⟨rfl, e1, trivial⟩
    simp only [bput] at F
    generalize hkt : kt y = ky at *
    have hfr2 : ∀ L f c sc q, (A.deeper (envOf q sc L f c)).frames = some [envOf q sc L f c, envL] := fun L f c sc q => Around.frames_deeper hfr
    have hL0p : ∀ p ∈ [(I, o), (lv, lst vs 0), (r, lst rs ep)], p.1 ≠ L0 := by
      intro p hp
      simp only [List.mem_cons, List.not_mem_nil, or_false] at hp
      rcases hp with rfl | rfl | rfl
      · exact fun q => by rw [hs1] at q; exact absurd q.symm (Nat.ne_of_lt (Nat.lt_succ_of_lt hL0r))
      · exact fun q => absurd q.symm (Nat.ne_of_lt hL0r)
      · exact fun q => absurd q.symm (Nat.ne_of_lt l1)
    have hrs : rs.length ≤ 1000 := by
      rw [hat.len]
      refine Nat.le_trans ?_ hkl
      conv => rhs; rw [← List.take_append_drop i ts, List.flatMap_append, List.length_append]
      exact Nat.le_add_right _ _
    have hne' : ∀ rs' ep' sl', ∀ p ∈ [(lv, lst vs 0), (r, lst rs' ep'), (L0, ({ o0 with slots := sl' } : Obj))], p.1 ≠ I := by
      intro rs' ep' sl' p hp
      simp only [List.mem_cons, List.not_mem_nil, or_false] at hp
      rcases hp with rfl | rfl | rfl
      · exact fun q => by rw [hs1] at q; exact absurd q (Nat.ne_of_lt (Nat.lt_succ_self _))
      · exact fun q => by rw [hs1] at q; exact absurd q (Nat.ne_of_lt (Nat.lt_succ_of_lt hr0))
      · exact fun q => by rw [hs1] at q; exact absurd q (Nat.ne_of_lt (Nat.lt_succ_of_lt hL0r))
    have hapL : ∀ sl', ∀ p ∈ [(L0, ({ o0 with slots := sl' } : Obj))], p.1 ≠ r := by
      intro sl' p hp
      obtain rfl := List.mem_singleton.mp hp
      exact Nat.ne_of_lt l1
    have hend : ∀ (D : Addr) (vv : Array Value) h' sl', News g L h' ([(D, ({ cls := .type "tuple", data := .seq vv 0 } : Obj)), (I, o), (lv, lst vs 0)] ++ (r, lst rs ep) :: [(L0, ({ o0 with slots := sl' } : Obj))]) → ∀ p ∈ [(D, ({ cls := .type "tuple", data := .seq vv 0 } : Obj)), (I, o), (lv, lst vs 0)], p.1 ≠ r := by
      intro D vv h' sl' N p hp
      simp only [List.mem_cons, List.not_mem_nil, or_false] at hp
      rcases hp with rfl | rfl | rfl
      · intro q
        have a1 := (N _ (.head _)).1
        have a2 := (N (r, lst rs ep) (by simp)).1
        dsimp only at a1 a2 q
        rw [q, a2] at a1
        injection a1 with a1
        injection a1 with a1
        exact absurd a1 (by decide)
      · exact fun q => by rw [hs1] at q; exact absurd q.symm (Nat.ne_of_lt (Nat.lt_succ_of_lt hr0))
      · exact fun q => absurd q.symm (Nat.ne_of_lt hr0)
    cases hyt with
    | sep _ hsep =>
      refine wpC_execs (wpC_If ?_)
      walk_at "wk"
      · rename_i q; replace hsep : (!(Builtin.Str.occurrences (Str.ofString "._+-") y 0 (Str.ofString "._+-").length 1).isEmpty) = _ := hsep; rw [q] at hsep; cases hsep
      · refine wpC_any (wpAny_execs_nil (wpC_any (wpAny_execs_nil ?_)))
        exact ⟨_, _, _, _, o, rfl, hO, F, N, hne, _, _, _, rfl, rfl, by rw [htk, List.append_nil]; exact hat⟩
    | num _ n hsep hlen hn =>
      refine wpC_execs (wpC_If ?_)
      walk_at "wk"
      rotate_left
      · rename_i q; replace hsep : (!(Builtin.Str.occurrences (Str.ofString "._+-") y 0 (Str.ofString "._+-").length 1).isEmpty) = _ := hsep; rw [q] at hsep; cases hsep
      refine wpC_execs (wpC_Try (wpC_execs (wpC_Assign (wpC_CallName ?_))))
      walk_at "wk"
      refine wpC_callWith_type rfl (evalArgs2 ?_)
      walk_at "wk"
      refine call_int2 (text_good hlen hn ⟨_, _, rfl, ?_⟩)
      walk_at "wk"
      refine wpC_any ?_
      walk_at "wk"
      refine wpC_any (wpAny_execs_nil ?_)
      refine wpC_any ?_
      walk_at "wk"
      rename Fr _ _ _ _ => F
      rename News _ _ _ _ => N
      refine extend_tup (rest := [_]) (own := [_, _, _]) (by exact F) (by exact N) (hend _ _ _ _ N) (hapL _) (N _ (.head _)).1 ?_ (by simp; exact Nat.le_trans (Nat.add_le_add_right hrs 2) (by decide))
      intro h₈ n₈ F N
      walk_at "wk"
      refine wpC_any (wpAny_execs_nil ?_)
      exact ⟨_, _, _, _, o, rfl, hO, F, fun p hp => N p (.tail _ hp), hne' _ _ _, _, _, _, rfl, rfl, by rw [htk]; exact hat.append (.int _ _ (.int _ _ .nil))⟩
    | word z n hz =>
      refine wpC_execs (wpC_If ?_)
      walk_at "wk"
      rotate_left
      · rename_i q; exfalso; rw [(word_facts hz).1] at q; cases q
      refine wpC_execs (wpC_Try (wpC_execs (wpC_Assign (wpC_CallName ?_))))
      walk_at "wk"
      refine wpC_callWith_type rfl (evalArgs2 ?_)
      walk_at "wk"
      rename Fr _ _ _ _ => F
      rename News _ _ _ _ => N
      refine call_int2 (text_bad (by exact hh) (word_facts hz).2.1 (word_facts hz).2.2.1 (word_facts hz).2.2.2.1 fun h₆ tk₆ e he => ?_)
      refine except_arm (pre := [(I, o), (lv, lst vs 0), (r, lst rs ep)]) (hfr2 ..) rfl hf0 (by intro q; cases q) hk0 he F N hL0p h0d (by rw [isSubtype_type]; kernel_rfl) (by rw [isSubtype_type]; kernel_rfl) (by rw [isSubtype_type]; kernel_rfl) ?_ ?_
      · intro h' sl' Q E F N hQ
        dsimp only
        walk_at "wk"
        exact hQ _
      · intro h' sl' tk F N
        replace N : News g L h' [(I, o), (lv, lst vs 0), (r, lst rs ep), (L0, { o0 with slots := sl' })] := N
        dsimp only
        walk_at "wk"
        rename PyProof.V.Flat _ _ => hv'
        rw [(word_facts hz).2.2.2.2] at hv'
        obtain ⟨t9, rfl⟩ := flat_int hv'
        clear hv'
        refine wpC_any ?_
        walk_at "wk"
        rename Fr _ _ _ _ => F
        rename News _ _ _ _ => N
        refine extend_tup (rest := [_]) (own := [_, _, _]) (by exact F) (by exact N) (hend _ _ _ _ N) (hapL _) (N _ (.head _)).1 ?_ (by simp; exact Nat.le_trans (Nat.add_le_add_right hrs 2) (by decide))
        intro h₈ n₈ F N
        walk_at "wk"
        refine wpC_any (wpAny_execs_nil ?_)
        exact ⟨_, _, _, _, o, rfl, hO, F, fun p hp => N p (.tail _ hp), hne' _ _ _, _, _, _, rfl, rfl, by rw [htk]; exact hat.append (.int _ _ (.str _ _ .nil))⟩
  · rintro m news h₅ tk₅ ⟨rs, ep, sl, rfl, e1, hat⟩ F N
    replace F := fputs [(Str.ofString "result", .ref r)] F ⟨e1, trivial⟩
    simp only [bput] at F
    refine wpC_any ?_
    walk_at "wk"
    rename Fr _ _ _ _ => F
    rename News _ _ _ _ => N
    rw [strsAre_len hvs, List.take_length] at hat
    exact hR _ _ _ _ _ _ (fun c o e => F.keep c o (st' c o e)) F.keep (N _ (.tail _ (.tail _ (.head _)))).1 hr00 (N _ (.tail _ (.head _))).1 hat
end Mine
end
section
open PySem PySem.W PyProof.Rows PySem.Calls
open Sem (wp)
set_option Elab.async false
set_option maxRecDepth 100000
set_option maxHeartbeats 4000000
namespace Mine
section
variable {M : Model} {A : Around} {E : Value → Shared → Prop} {s : Shared} {env : Env}
theorem wpC_standIf {α : Type} {c : Prop} [Decidable c] {pos : Pos} {k : PUnit → Sem α} {Q : α → Shared → Prop} (h : wpC M A (k ()) Q E s) :
    wpC M A (if c then (standAt pos >>= k) else k ()) Q E s := by
  split
  · exact wpC_bind (wpC_standAt h)
  · exact h
theorem wpC_comprehension {e : Expr} {scope : Scope} {pos : Pos} {newAcc first : Sem Value} {g : Comprehension} {gs : List Comprehension} {cl : List (Str × Addr)} {use : Option (Value → Sem Unit)}
    {Q : Value → Shared → Prop}
    (hcl : clausesOf e = g :: gs) (hs : ∀ x, foldedSetIterable g.iter env x = pure x) (hclos : closureFor scope env = pure cl)
    (hkind : scope.kind = .function) (hnames : ∀ x ∈ scope.names, x.2 = .local → scope.names.lookup x.1 = some .local)
    (h : wpAny M A first (fun x s₁ => wpAny M A (pyIter x) (fun it s₂ => wpAny M A newAcc (fun acc s₃ =>
      wpAny M A (newFunctionEnv scope env.globals cl [] env.qual none .none (some env)) (fun cenv s₄ =>
        codeC M A (.compStart e 0 it acc { cenv with scope := relabel scope env }) (compPost M A E use Q acc cenv.locals) s₄) E s₃) E s₂) E s₁) E s) :
    wpC M A (comprehension e scope env pos newAcc false first use) Q E s := by
  unfold comprehension
  rw [hclos, hcl]
  refine wpC_first (wpAny_mono h (fun x s₁ h₁ => wpC_bind (wpC_standAt (wpC_bind (wpC_of_eq (hs x) (wpC_first (wpAny_holding (wpAny_mono h₁ (fun it s₂ h₂ =>
    wpC_standIf (wpC_first (wpAny_mono h₂ (fun acc s₃ h₃ => wpC_bind (wpC_pure (wpC_first (wpAny_mono h₃ (fun cenv s₄ h₄ => ?_) fun _ _ h' => h')))) fun _ _ h' => h')))
      fun _ _ h' => h'))))))) fun _ _ h' => h')
  dsimp only
  have hv : ∀ x ∈ (scope.names.filter fun x => (x.2 == .local || x.2 == .cell) && x.1 != (".0" : Str)).reverse, x.2 = .local →
      Env.kindOf { cenv with scope := relabel scope env } x.1 = some .local := fun x hx hl => lookup_relabel_local (hnames x (List.mem_filter.mp (List.mem_reverse.mp hx)).1 hl)
  have hv' : ∀ x ∈ (scope.names.filter fun x => (x.2 == .local || x.2 == .cell) && x.1 != (".0" : Str)).reverse.drop 1 ++ (scope.names.filter fun x => (x.2 == .local || x.2 == .cell) && x.1 != (".0" : Str)).reverse.take 1,
      x.2 = .local → Env.kindOf { cenv with scope := relabel scope env } x.1 = some .local := fun x hx hl => by
    rcases List.mem_append.mp hx with h1 | h1
    · exact hv x (List.mem_of_mem_drop h1) hl
    · exact hv x (List.mem_of_mem_take h1) hl
  refine wpC_holding (wpC_bind (wpC_attempt (wpC_holding (wpC_run (codeC_mono h₄ fun r s' hr => ?_)))))
  cases r with
  | ok f =>
    cases use with
    | none =>
      obtain ⟨m, hn, hr⟩ := hr
      exact wpC_any (wpAny_bind (wpAny_holding (wpAny_comp_letGo (cenv := { cenv with scope := relabel scope env }) hkind _ s' m hv hn fun h' m' _ hs' => wpAny_pure (hr h' hs'))))
    | some u =>
      refine wpC_any (wpAny_bind (wpAny_rule (wpAny_bind (wpAny_holding (wpAny_mono hr (fun _ s'' hr' => ?_) fun _ _ h' => h')))))
      obtain ⟨m, hn, hr'⟩ := hr'
      exact wpAny_bind (wpAny_comp_letGo (cenv := { cenv with scope := relabel scope env }) hkind _ s'' m hv' hn fun h' m' _ hs' => wpAny_pure (hr' h' hs'))
  | error x =>
    have hr' : ∃ m, s'.heap.Ns cenv.locals m ∧ ∀ h', Heap.SameBut cenv.locals s'.heap h' → ∀ cenv' : Env, cenv'.locals = cenv.locals → wpAny M A (passOn "comprehension.variables-let-go" x cenv' : Sem Value) (fun _ _ => False) E { s' with heap := h' } := by cases use <;> exact hr
    obtain ⟨m, hn, hr⟩ := hr'
    exact wpC_any (wpAny_bind (wpAny_holding (wpAny_comp_letGo (cenv := { cenv with scope := relabel scope env }) hkind _ s' m hv hn fun h' m' _ hs' => wpAny_mono (hr h' hs' _ rfl) (fun _ _ f => f.elim) fun _ _ y => y)))
end
section
variable {prog : Program} {w : World} {A : Around} {E : Value → Shared → Prop} {s : Shared} {R : Result → Shared → Prop}
theorem wpC_notedAt {α : Type} {M : Model} {env : Env} {m : Sem α} {pos : Pos} {Q : α → Shared → Prop} (h : wpC M A m Q (notedBy M A env E) s) :
    wpC M A (m.onRaise fun x => do noteFrame x env; standAt pos) Q E s :=
  wpC_onRaise (wpC_mono h (fun _ _ q => q) fun _ _ hx => wpC_any (wpAny_bind (wpAny_mono hx (fun _ _ e => wpAny_standAt e) fun _ _ e => e)))
theorem wpC_ite {α : Type} {M : Model} {c : Prop} [Decidable c] {t e : Sem α} {Q : α → Shared → Prop} (h : if c then wpC M A t Q E s else wpC M A e Q E s) : wpC M A (if c then t else e) Q E s := by
  by_cases hc : c
  · rw [if_pos hc] at h ⊢; exact h
  · rw [if_neg hc] at h ⊢; exact h
theorem codeC_compStart_list {elt target iter ifs rest scope pos it acc env}
    (h0 : codeC (model prog w) A (.compLoop (.ListComp elt (⟨target, iter, ifs, 0⟩ :: rest) scope pos) 0 it acc env) R s)
    (h : wpAny (model prog w) A (pyIter it) (fun it' s' => codeC (model prog w) A (.compLoop (.ListComp elt (⟨target, iter, ifs, 0⟩ :: rest) scope pos) 0 it' acc env) R s')
      (notedBy (model prog w) A env fun x s' => R (.error x) s') s) :
    codeC (model prog w) A (.compStart (.ListComp elt (⟨target, iter, ifs, 0⟩ :: rest) scope pos) 0 it acc env) R s := by
  refine codeC_tree ?_
  show wpC _ _ ((compStart (.ListComp elt (⟨target, iter, ifs, 0⟩ :: rest) scope pos) 0 it acc env).onRaise (fun x => do noteFrame x env; standAt theWindowsPlace)) _ _ s
  refine wpC_notedAt ?_
  unfold compStart
  show wpC _ _ (ask >>= _) _ _ s
  refine wpC_first (wpAny_askSetting (wpC_ite ?_))
  split
  · first
      | exact wpC_bind (wpC_pure (wpC_pure (And.intro rfl h0)))
      | exact wpC_pure (And.intro rfl h0)
  · first
      | exact wpC_first (wpAny_rule (wpC_bind (wpC_standAt (wpC_first (wpAny_mono h (fun it' s' h' => wpC_pure (And.intro rfl h')) fun _ _ x => x)))))
      | (refine wpC_first (wpAny_rule ?_); show wpC _ _ (standAt iter.pos >>= _) _ _ s; exact wpC_bind (wpC_standAt (wpC_first (wpAny_mono h (fun it' s' h' => wpC_pure (And.intro rfl h')) fun _ _ x => x))))
theorem codeC_compLoop_list {elt target iter : Expr} {scope : Scope} {pos : Pos} {it acc : Value} {env : Env} (I : Nat → Shared → Prop)
    (turn : ∀ n s, I n s → wpAny (model prog w) A (pyNext it) (fun r s₁ => match r with
      | none => R (.ok .next) s₁
      | some v => wpAny (model prog w) A (assign target env v) (fun _ s₂ => wpC (model prog w) A (eval elt env) (fun x s₃ =>
          wpAny (model prog w) A (call (.builtin "list.append") [acc, x]) (fun _ s₄ => ∃ m, m < n ∧ I m s₄) (notedBy (model prog w) A env fun e s' => R (.error e) s') s₃)
          (notedBy (model prog w) A env fun e s' => R (.error e) s') s₂) (notedBy (model prog w) A env fun e s' => R (.error e) s') s₁) (notedBy (model prog w) A env fun e s' => R (.error e) s') s)
    (n : Nat) (h : I n s) (ht : ∀ v, letOwnedTupleGo target it v = pure () := by intro _; rfl) :
    codeC (model prog w) A (.compLoop (.ListComp elt [⟨target, iter, [], 0⟩] scope pos) 0 it acc env) R s := by
  refine codeC_loop rfl I (fun n s hI => ?_) n h
  show wpC _ _ ((compTurn (.ListComp elt [⟨target, iter, [], 0⟩] scope pos) 0 it acc env).onRaise (fun x => do noteFrame x env; theTreesLotGoes x)) _ _ s
  refine wpC_noted ?_
  rw [compTurn_list1]
  refine wpC_bind (wpC_standAt (wpC_first (wpAny_mono (turn n s hI) (fun r s₁ h₁ => ?_) fun _ _ h' => h')))
  cases r with
  | none => exact wpC_pure h₁
  | some v =>
    refine wpC_bind (wpC_of_eq (ht v) ?_)
    exact wpC_first (wpAny_mono h₁ (fun _ s₂ h₂ => wpC_bind (wpC_bind (wpC_mono h₂ (fun x s₃ h₃ => wpC_first (wpAny_mono h₃
      (fun _ s₄ h₄ => wpC_pure (wpC_pure (.inl ⟨rfl, h₄⟩))) fun _ _ h' => h')) fun _ _ h' => h'))) fun _ _ h' => h')
end
end Mine
end
section
open PySem PySem.W PyProof.Rows PySem.Calls
open Sem (wp)
set_option Elab.async false
set_option maxRecDepth 100000
set_option maxHeartbeats 4000000
namespace Mine
section
variable {prog : Program} {w : World} {A : Around} {E : Value → Shared → Prop} {s : Shared} {R : Result → Shared → Prop}
theorem wpC_AssignComp {env : Env} {t : Str} {p pos' pos : Pos} {elt : Expr} {gens : List Comprehension} {scope : Scope} {Q : Flow → Shared → Prop}
    (hs : swapsWithSole [.Name t p] (.ListComp elt gens scope pos') pos.line env = pure true)
    (h : wpC (model prog w) A (comprehension (.ListComp elt gens scope pos') scope env (firstIterPos gens pos') (newList []) (firstAsync gens) (firstIter gens env) (some fun v => assignAll v ((assignEach [.Name t p] env).map (·.2)))) (fun _ => Q .next) E s) :
    wpC (model prog w) A (exec (.Assign [.Name t p] (.ListComp elt gens scope pos') pos) env) Q E s := by
  rw [arm_exec_Assign]
  refine wpC_bind (wpC_standAt (wpC_bind (wpC_of_eq hs ?_)))
  refine wpC_ite ?_
  split
  · unfold evalThenUse
    exact wpC_bind (wpC_bind (wpC_mono h (fun _ _ q => wpC_pure (wpC_pure q)) fun _ _ x => x))
  · rename_i q; exact absurd rfl q
end
end Mine
end
section
open PySem PySem.W PyProof.Rows PySem.Calls
set_option Elab.async false
set_option maxRecDepth 100000
set_option maxHeartbeats 8000000
namespace Mine
theorem enterCellsC {prog : Program} {w : World} {A : Around} {R : Result → Shared → Prop} {s : Shared} {name : Str} {params : Arguments} {body : List Stmt} {scope : Scope}
    {pm cd doc : Value} {a : Addr} {o : Obj} {args : List Value} {binds : List (Str × Value)}
    (hroom : A.depth < recursionLimit) (ho : s.heap.get? a = some o) (hdata : o.data = .func (Calls.docDef name params body scope pm cd doc)) (hlim : s.heap.NoLimit) (hcd : s.heap.CodeRec cd name)
    (hbind : bindArgs (Calls.docDef name params body scope pm cd doc) ⟨args, []⟩ = pure binds)
    (hkind : ∀ x ∈ binds, scope.names.lookup x.1 = some .local ∨ (scope.names.lookup x.1 = some .cell ∧ ((cellsFrom (s.heap.objs.size + 1) scope.names []).lookup x.1).isSome = true))
    (hnd : ((cellsFrom 0 scope.names []).map (·.1)).Nodup)
    (h : ∀ h₁ tk cells, Fr s.heap s.heap.objs.size h₁ (bindL (envOfC name scope s.heap.objs.size a cd).kindOf binds fun _ => none) → News s.heap s.heap.objs.size h₁ cells →
      CellsAre (bindC (envOfC name scope s.heap.objs.size a cd).kindOf binds fun _ => none) (cellsFrom (s.heap.objs.size + 1) scope.names []) cells →
      wpC (model prog w) (A.deeper (envOfC name scope s.heap.objs.size a cd)) (execs body (envOfC name scope s.heap.objs.size a cd))
        (fun f s' => R (.ok (.ret (match f with | .ret v => v | _ => .none))) s')
        (fun e s' => wpAny (model prog w) (A.deeper (envOfC name scope s.heap.objs.size a cd)) (leaving (envOfC name scope s.heap.objs.size a cd) e)
          (fun _ s'' => R (.error e) s'') (fun e' s'' => R (.error e') s'') s')
        { s with heap := h₁, toks := tk })
    (hco : scope.isCoroutine = false := by rfl) (hgen : scope.isGenerator = false := by rfl) (hk : scope.kind = .function := by rfl) :
    codeC (model prog w) A (.call (.ref a) ⟨args, []⟩) R s := by
  refine codeC_call_function (fd := Calls.docDef name params body scope pm cd doc) hroom ho hdata hco hgen rfl hcd ?_
  rw [hbind]
  refine wpAny_pure (wpAny_newFunctionEnv_cells hk hkind fun env he s' X => ?_)
  subst he
  refine ⟨hlim.keeps X.toInCall.keep, codeC_func ?_⟩
  obtain ⟨h₁, tk, rfl, _⟩ := X.done
  obtain ⟨cells, N, Y⟩ := Cl.news (h₀ := s.heap) (Nat.le_refl _) fun n c hm => ⟨X.cell n c (lookup_of_mem_nodup (cellsFrom_names scope.names 0 (s.heap.objs.size + 1) [] [] rfl ▸ hnd) hm), X.above n c hm⟩
  exact h h₁ tk cells ⟨X.toInCall.ns, X.toInCall.keep, X.toInCall.fresh⟩ N Y
end Mine
end
section
open PySem PySem.W PyProof.Rows PySem.Calls
open Sem (wp)
open LCg (NsObj)
set_option Elab.async false
set_option maxRecDepth 100000
set_option maxHeartbeats 4000000
namespace Mine
section
variable {prog : Program} {w : World} {A : Around} {E : Value → Shared → Prop} {s : Shared} {R : Result → Shared → Prop} {env : Env}
theorem wpC_keep {α : Type} {M : Model} {vs : List Value} {m : Sem α} {Q : α → Shared → Prop} (h : wpC M A m Q E s) : wpC M A (m.keep vs) Q E s :=
  fun Γ p hΓ hc => by rw [Sem.wp_keep]; exact h Γ p hΓ hc
theorem wpC_callWith_fn {M : Model} {pos : Pos} {a : Addr} {e : Expr} {rest : List Expr} {Q : Value → Shared → Prop}
    (h : wpAny M A (spliced (backTo pos (starEach (e :: rest) env))) (fun vs s₁ => Hold ((∃ o fd, s₁.heap.get? a = some o ∧ o.data = .func fd) ∧ wpC M A (call (.ref a) vs) Q E s₁)) E s)
    (he : starEach (e :: rest) env = (false, eval e env) :: starEach rest env := by rfl) (hplain : (backTo pos (starEach rest env)).any (·.1) = false := by rfl) :
    wpC M A (callWith pos (.ref a) [] (backTo pos (starEach (e :: rest) env)) []) Q E s := by
  have h2 : wpAny M A (evalArgs (.ref a) true (backTo pos (starEach (e :: rest) env)) []) (fun x s₁ => (∃ o fd, s₁.heap.get? a = some o ∧ o.data = .func fd) ∧ wpC M A (call (.ref a) ([] ++ x.pos) x.kw) Q E s₁) E s := by
    rw [he] at h ⊢
    exact evalArgs_plain h
  have hp : (backTo pos (starEach (e :: rest) env)).any (·.1) = false := by
    rw [he]; show (false || (backTo pos (starEach rest env)).any (·.1)) = false
    rw [hplain]; rfl
  unfold callWith
  refine wpC_first (wpAny_holding (wpAny_mono h2 (fun x s₁ h₁ => wpC_bind (wpC_standAt ?_)) fun _ _ x => x))
  have tail : ∀ {t : Sem Value}, wpC M A t Q E s₁ → wpC M A (t >>= fun r => holding [r] point >>= fun _ => pure r) Q E s₁ :=
    fun ht => wpC_bind (wpC_mono ht (fun r s₂ hr => wpC_bind (wpC_holding (wpC_any (wpAny_point (wpC_pure hr))))) fun _ _ x => x)
  simp only [hp, List.any_nil, Bool.or_false]
  refine wpC_bind (m := keeperOf (.ref a)) ?_
  unfold keeperOf
  obtain ⟨⟨o, fd, ho, hd⟩, h₁⟩ := h₁
  refine wpC_first (wpAny_load ho ?_)
  rw [hd]
  refine wpC_pure ?_
  dsimp only
  split
  · exact tail h₁
  · exact tail (by unfold callMarked; exact wpC_keep h₁)

theorem codeC_compLoop_tests {elt target iter : Expr} {ifs : List Expr} {scope : Scope} {pos : Pos} {it acc : Value} (I : Nat → Shared → Prop)
    (turn : ∀ n s, I n s → wpAny (model prog w) A (pyNext it) (fun r s₁ => match r with
      | none => R (.ok .next) s₁
      | some v => wpAny (model prog w) A (assign target env v) (fun _ s₂ =>
          wpAny (model prog w) A (forIn ifs true fun c r => if r = true then do let ok ← isTrue c env (eval c env); pure (ForInStep.yield ok) else pure (ForInStep.yield r)) (fun ok s₃ =>
            if ok = true then wpC (model prog w) A (eval elt env) (fun x s₄ =>
              wpAny (model prog w) A (call (.builtin "list.append") [acc, x]) (fun _ s₅ => ∃ m, m < n ∧ I m s₅) (notedBy (model prog w) A env fun e s' => R (.error e) s') s₄) (notedBy (model prog w) A env fun e s' => R (.error e) s') s₃
            else ∃ m, m < n ∧ I m s₃) (notedBy (model prog w) A env fun e s' => R (.error e) s') s₂) (notedBy (model prog w) A env fun e s' => R (.error e) s') s₁) (notedBy (model prog w) A env fun e s' => R (.error e) s') s)
    (n : Nat) (h : I n s) (ht : ∀ v, letOwnedTupleGo target it v = pure () := by intro _; rfl) :
    codeC (model prog w) A (.compLoop (.ListComp elt [⟨target, iter, ifs, 0⟩] scope pos) 0 it acc env) R s := by
  refine codeC_loop rfl I (fun n s hI => ?_) n h
  show wpC _ _ ((compTurn (.ListComp elt [⟨target, iter, ifs, 0⟩] scope pos) 0 it acc env).onRaise (fun x => do noteFrame x env; theTreesLotGoes x)) _ _ s
  refine wpC_noted ?_
  rw [compTurn_list]
  refine wpC_bind (wpC_standAt (wpC_first (wpAny_mono (turn n s hI) (fun r s₁ h₁ => ?_) fun _ _ h' => h')))
  cases r with
  | none => exact wpC_pure h₁
  | some v =>
    refine wpC_bind (wpC_of_eq (ht v) ?_)
    refine wpC_first (wpAny_mono h₁ (fun _ s₂ h₂ => wpC_first (wpAny_mono h₂ (fun ok s₃ h₃ => ?_) fun _ _ h' => h')) fun _ _ h' => h')
    cases ok with
    | false => exact wpC_pure (.inl ⟨rfl, h₃⟩)
    | true =>
      exact wpC_bind (wpC_bind (wpC_mono h₃ (fun x s₄ h₄ => wpC_first (wpAny_mono h₄ (fun _ s₅ h₅ => wpC_pure (wpC_pure (.inl ⟨rfl, h₅⟩))) fun _ _ h' => h')) fun _ _ h' => h'))

def Off3 (I C D : Addr) (news : List (Addr × Obj)) : Prop := ∀ p ∈ news, p.1 ≠ I ∧ p.1 ≠ C ∧ p.1 ≠ D
/-- the end of one turn of a comprehension -/
def CEnd (g : Heap) (L : Addr) (m : Str → Option Value) (I C D : Addr) (oI oC oD : Obj) (J : List (Addr × Obj) → Prop) (s s₃ : Shared) : Prop :=
  ∃ h tk news, s₃ = { s with heap := h, toks := tk } ∧ Fr g L h m ∧ News g L h ((I, oI) :: (C, oC) :: (D, oD) :: news) ∧ Off3 I C D news ∧ J news

theorem comp_blockC {elt iter : Expr} {x : Str} {px : Pos} {ifs : List Expr} {scope : Scope} {cl : List (Str × Addr)} {pos : Pos} {I : Addr} {fp : List Addr} {n : Nat} {P : Nat → Value → Prop} {St : Nat → Heap → Prop} {S : List (Addr × Obj) → Prop}
    {g : Heap} {L : Addr} {m : Str → Option Value} {news : List (Addr × Obj)} {RR : Value → Addr → Result → Shared → Prop} (J : Nat → List Value → List (Addr × Obj) → Prop)
    (W : Walks prog w A I fp [I] n P St) (hsz : n ≤ sizeLine) (hIo : ∀ i h, St i h → ∃ o, h.get? I = some o)
    (hSt : ∀ i h h' o nw, St i h → h.get? I = some o → h'.get? I = some o → (∀ b o, g.get? b = some o → h'.get? b = some o) → News g L h' nw → S nw → St i h') (hJS : ∀ i ys nw, J i ys nw → S nw)
    (hcell : ∀ y ∈ scope.names, y.2 ≠ .cell) (hkind : scope.kind = .function) (hx : scope.names.lookup x = some .local) (hst : St 0 s.heap) (hfp : ∀ b ∈ fp, b < s.heap.objs.size)
    (F : Fr g L s.heap m) (N : News g L s.heap news) (hIL : L ≠ I) (hI₀ : g.get? I = none) (off : ∀ p ∈ news, p.1 ≠ I) (hJ : J 0 [] news)
    (turn : ∀ i v ys nD oI C oC D m₂ news h tk (E' : Value → Shared → Prop), i < n → P i v → J i ys news → NsObj oC m₂ → m₂ x = some v → Fr g L h m → News g L h ((I, oI) :: (C, oC) :: (D, lst ys nD) :: news) → Off3 I C D news → I ≠ C → I ≠ D → C ≠ D →
      wpAny (model prog w) A (forIn ifs true fun c r => if r = true then do let ok ← isTrue c (compEnvC scope cl C env) (eval c (compEnvC scope cl C env)); pure (ForInStep.yield ok) else pure (ForInStep.yield r)) (fun ok s₃ =>
        if ok = true then wpC (model prog w) A (eval elt (compEnvC scope cl C env)) (fun y => CEnd g L m I C D oI oC (lst ys nD) (J (i + 1) (ys ++ [y])) { s with heap := h, toks := tk }) E' s₃
        else CEnd g L m I C D oI oC (lst ys nD) (J (i + 1) ys) { s with heap := h, toks := tk } s₃) E' { s with heap := h, toks := tk })
    (done : ∀ D C oC m' ys nD h tk news, J n ys news → NsObj oC m' → Fr g L h m → News g L h ((C, oC) :: (D, lst ys nD) :: news) → (∀ p ∈ news, p.1 ≠ C ∧ p.1 ≠ D) → C ≠ D → RR (.ref D) C (.ok .next) { s with heap := h, toks := tk }) :
    wpAny (model prog w) A (newList []) (fun acc s₃ => wpAny (model prog w) A (newFunctionEnv scope env.globals cl [] env.qual none .none (some env)) (fun cenv s₄ =>
      codeC (model prog w) A (.compStart (.ListComp elt [⟨.Name x px, iter, ifs, 0⟩] scope pos) 0 (.ref I) acc { cenv with scope := relabel scope env }) (RR acc cenv.locals) s₄) E s₃) E s := by
  refine wpAny_newObj_type (wpAny_newFunctionEnv hcell (by intro y hy; simp at hy) (fun h₁ hns₁ hsb₁ => ?_) hkind)
  dsimp only at hns₁ hsb₁ ⊢
  generalize hH : s.heap.push { cls := .type "list", dict := none, data := .seq ([] : List Value).toArray } = H at hns₁ hsb₁ ⊢
  generalize hDd : s.heap.objs.size = D at *
  generalize hCc : H.objs.size = C at *
  have hC : C = D + 1 := by rw [← hCc, ← hH, Heap.size_push, hDd]
  have hCD : C ≠ D := by rw [hC]; exact Nat.succ_ne_self _
  have below : ∀ b, b < D → b ≠ C ∧ b ≠ D := fun b hb => ⟨by rw [hC]; exact Nat.ne_of_lt (Nat.lt_succ_of_lt hb), Nat.ne_of_lt hb⟩
  have inH : ∀ b o, s.heap.get? b = some o → H.get? b = some o := fun b o e => by rw [← hH]; exact Heap.get?_push_of_some _ e
  have lts : ∀ {b o}, s.heap.get? b = some o → b < D := fun e => hDd ▸ Heap.lt_size e
  have old : ∀ b o, s.heap.get? b = some o → h₁.get? b = some o := fun b o e =>
    hsb₁.extBut b o (below b (lts e)).1 (Heap.get?_push_of_some _ (inH b o e))
  have fresh₀ : ∀ a, D ≤ a → g.get? a = none := fun a ha => by
    cases e : g.get? a with
    | none => rfl
    | some o' => exact absurd (lts (F.keep a o' e)) (Nat.not_lt.mpr ha)
  have hD₀ : g.get? D = none := fresh₀ _ (Nat.le_refl _)
  have hC₀ : g.get? C = none := fresh₀ _ (by rw [hC]; exact Nat.le_succ _)
  have hLlt : L < D := hDd ▸ F.ns.lt
  have hIlt : I < D := hfp I (W.sub I (List.mem_singleton.mpr rfl))
  have hDf : D ∉ fp := fun hm => Nat.lt_irrefl _ (hfp _ hm)
  have hCf : C ∉ fp := fun hm => by have := hfp _ hm; rw [hC] at this; exact Nat.lt_irrefl _ (Nat.lt_of_succ_lt this)
  have hacc : h₁.get? D = some (lst [] 0) := hsb₁.extBut _ _ (Ne.symm hCD) (Heap.get?_push_of_some _ (by rw [← hH, ← hDd]; exact Heap.get?_push_size _ rfl))
  have hst₁ : St 0 h₁ := W.frame _ _ _ hst fun b _ o e => old b o e
  have offN : Off3 I C D news := fun p hp => ⟨off p hp, below _ (lts (N p hp).1)⟩
  have loop : ∀ s₃ : Shared, s₃ = { s with heap := h₁, toks := s.toks + ([] : List (Str × Value)).length } →
      codeC (model prog w) A (.compLoop (.ListComp elt [⟨.Name x px, iter, ifs, 0⟩] scope pos) 0 (.ref I) (.ref D) (compEnvC scope cl C env)) (RR (.ref D) C) s₃ := by
    rintro s₃ rfl
    refine codeC_compLoop_tests
      (fun k s' => ∃ h' tk i ys nD oC m' news', s' = { s with heap := h', toks := tk } ∧ i ≤ n ∧ k = n + 1 - i ∧ ys.length ≤ i ∧ St i h' ∧ NsObj oC m' ∧ Fr g L h' m ∧
        News g L h' ((C, oC) :: (D, lst ys nD) :: news') ∧ Off3 I C D news' ∧ J i ys news') ?_ (n + 1) ?_
    · rintro k s' ⟨h', tk, i, ys, nD, oC, m', news', rfl, hi, rfl, hyl, hst', hn', F', N', off', hJ'⟩
      have zC := N' (C, oC) (.head _)
      have zD := N' (D, lst ys nD) (.tail _ (.head _))
      have N0 : News g L h' news' := fun p hp => N' p (.tail _ (.tail _ hp))
      by_cases hlt : i < n
      · refine W.item i _ _ _ hlt hst' fun v h₂ tk₂ hPv hst₂ hk₂ => ?_
        have hk : ∀ b o, b ≠ I → h'.get? b = some o → h₂.get? b = some o := fun b o q e => hk₂ b o (by simpa using q) e
        have hnC : h₂.Ns C m' := (hn'.ns zC.1).at' fun o e => hk C o (Ne.symm (below I hIlt).1) e
        refine wpAny_assign_Name (wpAny_storeName_local (env := compEnvC scope cl C env) (lookup_relabel_local hx) hnC (fun h₃ hn₃ hs₃ => ?_) (by simp [compEnvC, relabel, hkind]))
        have hst₃ : St (i + 1) h₃ := W.frame _ _ _ hst₂ fun b hb o e => hs₃.extBut b o (fun q => hCf (by have q' : b = C := q; rw [← q']; exact hb)) e
        obtain ⟨oI, heI⟩ := hIo _ _ hst₃
        obtain ⟨oC₃, heC, hoC⟩ := LCg.ns_obj hn₃
        have F₃ : Fr g L h₃ m := by
          refine Fr.change (L := L) ⟨F'.ns.at' fun o e => hk L o hIL e, fun b o e => hk b o (fun q => by rw [q, hI₀] at e; cases e) (F'.keep b o e), F'.above⟩ hs₃ ?_ hC₀
          exact (Ne.symm (below L hLlt).1)
        have up : ∀ b o, b ≠ I → b ≠ C → h'.get? b = some o → h₃.get? b = some o := fun b o q q2 e => hs₃.extBut b o q2 (hk b o q e)
        have N₃ : News g L h₃ ((I, oI) :: (C, oC₃) :: (D, lst ys nD) :: news') := by
          intro p hp
          rcases List.mem_cons.mp hp with rfl | hp
          · exact ⟨heI, Ne.symm hIL, hI₀⟩
          · rcases List.mem_cons.mp hp with rfl | hp
            · exact ⟨heC, zC.2⟩
            · rcases List.mem_cons.mp hp with rfl | hp
              · exact ⟨up _ _ (Ne.symm (below I hIlt).2) (Ne.symm hCD) zD.1, zD.2⟩
              · exact ⟨up _ _ (off' p hp).1 (off' p hp).2.1 (N0 p hp).1, (N0 p hp).2⟩
        refine wpAny_mono (turn i v ys nD oI C oC₃ D _ news' h₃ _ _ hlt hPv hJ' hoC (by simp) F₃ N₃ off' (below I hIlt).1 (below I hIlt).2 hCD) (fun ok s₄ h₄ => ?_) fun _ _ e => e
        have fin : ∀ (h₄ : Heap) (news₄ : List (Addr × Obj)), Fr g L h₄ m → News g L h₄ ((I, oI) :: (C, oC₃) :: (D, lst ys nD) :: news₄) → S news₄ → St (i + 1) h₄ := fun h₄ news₄ F₄ N₄ hS₄ =>
          hSt _ _ _ _ _ hst₃ heI (N₄ (I, oI) (.head _)).1 F₄.keep (fun p hp => N₄ p (.tail _ (.tail _ (.tail _ hp)))) hS₄
        split at h₄
        · rename_i hok
          rw [if_pos hok]
          refine wpC_mono h₄ (fun y s₅ h₅ => ?_) fun _ _ e => e
          obtain ⟨h₄, tk₄, news₄, rfl, F₄, N₄, off₄, hJ₄⟩ := h₅
          have hst₄ := fin h₄ news₄ F₄ N₄ (hJS _ _ _ hJ₄)
          have wD := N₄ (D, lst ys nD) (.tail _ (.tail _ (.head _)))
          refine append_at (hsz := by show ys.toArray.size ≤ sizeLine; rw [List.size_toArray]; exact Nat.le_trans hyl (Nat.le_trans hi hsz)) wD.1 fun h₅ hs₅ hD₅ => ?_
          refine ⟨n + 1 - (i + 1), by omega, h₅, tk₄, i + 1, ys ++ [y], nD + 1, oC₃, _, news₄, rfl, hlt, rfl, by rw [List.length_append, List.length_singleton]; exact Nat.succ_le_succ hyl,
            W.frame _ _ _ hst₄ fun b hb o e => hs₅.extBut b o (fun q => hDf (q ▸ hb)) e, hoC, F₄.change hs₅ wD.2.1 wD.2.2, ?_, off₄, hJ₄⟩
          intro p hp
          rcases List.mem_cons.mp hp with rfl | hp
          · have z := N₄ (C, oC₃) (.tail _ (.head _)); exact ⟨hs₅.extBut _ _ hCD z.1, z.2⟩
          · rcases List.mem_cons.mp hp with rfl | hp
            · exact ⟨by rw [hD₅]; simp [lst], wD.2⟩
            · have z := N₄ p (.tail _ (.tail _ (.tail _ hp))); exact ⟨hs₅.extBut _ _ (off₄ p hp).2.2 z.1, z.2⟩
        · rename_i hok
          rw [if_neg hok]
          obtain ⟨h₄, tk₄, news₄, rfl, F₄, N₄, off₄, hJ₄⟩ := h₄
          exact ⟨n + 1 - (i + 1), by omega, h₄, tk₄, i + 1, ys, nD, oC₃, _, news₄, rfl, hlt, rfl, Nat.le_succ_of_le hyl, fin h₄ news₄ F₄ N₄ (hJS _ _ _ hJ₄), hoC, F₄, fun p hp => N₄ p (.tail _ hp), off₄, hJ₄⟩
      · obtain rfl : i = n := Nat.le_antisymm hi (Nat.not_lt.mp hlt)
        refine W.done _ _ _ hst' fun h₂ tk₂ hk₂ => ?_
        have hk : ∀ b o, b ≠ I → h'.get? b = some o → h₂.get? b = some o := fun b o q e => hk₂ b o (by simpa using q) e
        refine done D C oC m' ys nD h₂ tk₂ news' hJ' hn' ⟨F'.ns.at' fun o e => hk L o hIL e, fun b o e => hk b o (fun q => by rw [q, hI₀] at e; cases e) (F'.keep b o e), F'.above⟩ ?_ (fun p hp => (off' p hp).2) hCD
        intro p hp
        refine ⟨hk _ _ ?_ (N' p hp).1, (N' p hp).2⟩
        rcases List.mem_cons.mp hp with rfl | hp
        · exact Ne.symm (below I hIlt).1
        · rcases List.mem_cons.mp hp with rfl | hp
          · exact Ne.symm (below I hIlt).2
          · exact (off' p hp).1
    · obtain ⟨oC, heC, hoC⟩ := LCg.ns_obj hns₁
      refine ⟨h₁, _, 0, [], 0, oC, _, news, rfl, Nat.zero_le _, rfl, Nat.le_refl _, hst₁, hoC, F.keeps old, ?_, offN, hJ⟩
      intro p hp
      rcases List.mem_cons.mp hp with rfl | hp
      · exact ⟨heC, Ne.symm (below L hLlt).1, hC₀⟩
      · rcases List.mem_cons.mp hp with rfl | hp
        · exact ⟨hacc, Ne.symm (below L hLlt).2, hD₀⟩
        · exact ⟨old _ _ (N p hp).1, (N p hp).2⟩
  exact codeC_compStart_list (loop _ rfl) (W.self 0 _ _ _ hst₁ (loop _ rfl))

theorem wpC_evalComp {elt target iter : Expr} {ifs : List Expr} {scope : Scope} {cl : List (Str × Addr)} {pos : Pos} {Q : Value → Shared → Prop}
    (hclos : closureFor scope env = pure cl) (hkind : scope.kind = .function) (hnames : ∀ y ∈ scope.names, y.2 = .local → scope.names.lookup y.1 = some .local)
    (h : wpAny (model prog w) A (eval iter env) (fun x s₁ => wpAny (model prog w) A (pyIter x) (fun it s₂ => wpAny (model prog w) A (newList []) (fun acc s₃ => wpAny (model prog w) A (newFunctionEnv scope env.globals cl [] env.qual none .none (some env)) (fun cenv s₄ =>
      codeC (model prog w) A (.compStart (.ListComp elt [⟨target, iter, ifs, 0⟩] scope pos) 0 it acc { cenv with scope := relabel scope env }) (compPost (model prog w) A E none Q acc cenv.locals) s₄) E s₃) E s₂) E s₁) E s)
    (hs : ∀ x, foldedSetIterable iter env x = pure x := by intro _; rfl) :
    wpC (model prog w) A (eval (.ListComp elt [⟨target, iter, ifs, 0⟩] scope pos) env) Q E s := by
  rw [eval_ListComp]
  exact wpC_comprehension (use := none) rfl hs hclos hkind hnames h

theorem comp_done {g : Heap} {L : Addr} {m : Str → Option Value} {D C : Addr} {oC oD : Obj} {h : Heap} {news : List (Addr × Obj)} (F : Fr g L h m) (N : News g L h ((C, oC) :: (D, oD) :: news)) (off : ∀ p ∈ news, p.1 ≠ C ∧ p.1 ≠ D) (hCD : C ≠ D)
    {h' : Heap} (hs : Heap.SameBut C h h') : Fr g L h' m ∧ News g L h' ((D, oD) :: news) := by
  have z := N (C, oC) (.head _)
  refine ⟨F.change hs z.2.1 z.2.2, fun p hp => ?_⟩
  have y := N p (.tail _ hp)
  refine ⟨hs.extBut _ _ ?_ y.1, y.2⟩
  rcases List.mem_cons.mp hp with rfl | hp
  · exact Ne.symm hCD
  · exact (off p hp).1
end
end Mine
end
section
open PySem PySem.W PyProof.Rows PySem.Calls
open Sem (wp)
open LCg (NsObj)
set_option Elab.async false
set_option maxRecDepth 100000
set_option maxHeartbeats 4000000
namespace Mine
section
variable {prog : Program} {w : World} {A : Around} {E : Value → Shared → Prop} {s : Shared} {R : Result → Shared → Prop} {env : Env}
theorem wpC_assignComp {t : Str} {p pos' pos : Pos} {elt target iter : Expr} {ifs : List Expr} {scope : Scope} {cl : List (Str × Addr)} {Q : Flow → Shared → Prop}
    (hsw : swapsWithSole [.Name t p] (.ListComp elt [⟨target, iter, ifs, 0⟩] scope pos') pos.line env = pure true)
    (hclos : closureFor scope env = pure cl) (hkind : scope.kind = .function) (hnames : ∀ y ∈ scope.names, y.2 = .local → scope.names.lookup y.1 = some .local)
    (h : wpAny (model prog w) A (eval iter env) (fun x s₁ => wpAny (model prog w) A (pyIter x) (fun it s₂ => wpAny (model prog w) A (newList []) (fun acc s₃ => wpAny (model prog w) A (newFunctionEnv scope env.globals cl [] env.qual none .none (some env)) (fun cenv s₄ =>
      codeC (model prog w) A (.compStart (.ListComp elt [⟨target, iter, ifs, 0⟩] scope pos') 0 it acc { cenv with scope := relabel scope env }) (compPost (model prog w) A E (some (assign (.Name t p) env)) (fun _ => Q .next) acc cenv.locals) s₄) E s₃) E s₂) E s₁) E s)
    (hs : ∀ x, foldedSetIterable iter env x = pure x := by intro _; rfl) :
    wpC (model prog w) A (exec (.Assign [.Name t p] (.ListComp elt [⟨target, iter, ifs, 0⟩] scope pos') pos) env) Q E s :=
  wpC_AssignComp hsw (wpC_comprehension (use := some (assign (.Name t p) env)) (Q := fun _ s' => Q .next s') rfl hs hclos hkind hnames h)
/-- what a block leaves that stands as a value -/
theorem post_eval {Q : Value → Shared → Prop} {g : Heap} {L : Addr} {m : Str → Option Value} {D C : Addr} {oC : Obj} {m' : Str → Option Value} {ys : List Value} {nD : Nat} {h : Heap} {tk : Nat} {news : List (Addr × Obj)}
    (hn : NsObj oC m') (F : Fr g L h m) (N : News g L h ((C, oC) :: (D, lst ys nD) :: news)) (off : ∀ p ∈ news, p.1 ≠ C ∧ p.1 ≠ D) (hCD : C ≠ D)
    (k : ∀ h', Fr g L h' m → News g L h' ((D, lst ys nD) :: news) → (∀ p ∈ news, p.1 ≠ D) → Q (.ref D) { s with heap := h', toks := tk }) :
    compPost (model prog w) A E none Q (.ref D) C (.ok .next) { s with heap := h, toks := tk } :=
  ⟨m', hn.ns (N (C, oC) (.head _)).1, fun h' hs => by
    obtain ⟨F', N'⟩ := comp_done F N off hCD hs
    exact k h' F' N' fun p hp => (off p hp).2⟩
/-- what a block leaves that is bound to a local name -/
theorem post_local {t : Str} {p : Pos} {Q : Value → Shared → Prop} {g : Heap} {L : Addr} {m : Str → Option Value} {D C : Addr} {oC : Obj} {m' : Str → Option Value} {ys : List Value} {nD : Nat} {h : Heap} {tk : Nat} {news : List (Addr × Obj)}
    (hn : NsObj oC m') (F : Fr g L h m) (N : News g L h ((C, oC) :: (D, lst ys nD) :: news)) (off : ∀ p ∈ news, p.1 ≠ C ∧ p.1 ≠ D) (hCD : C ≠ D)
    (hL : env.locals = L) (hy : env.kindOf t = some .local) (hp : (env.scope.kind == .class || (env.scope.kind == .module && env.locals != env.globals)) = false)
    (k : ∀ h' tk, Fr g L h' (fun y => if y = t then some (.ref D) else m y) → News g L h' ((D, lst ys nD) :: news) → (∀ p ∈ news, p.1 ≠ D) → Q .none { s with heap := h', toks := tk }) :
    compPost (model prog w) A E (some (assign (.Name t p) env)) Q (.ref D) C (.ok .next) { s with heap := h, toks := tk } := by
  subst hL
  show wpAny _ A (assign (.Name t p) env (.ref D)) _ _ _
  refine wpAny_assign_Name (wpAny_storeName_local hy F.ns (fun h₂ hn₂ hs₂ => ?_) hp)
  have F₂ := F.set hn₂ hs₂
  have N₂ := N.set hs₂
  refine ⟨m', hn.ns (N₂ (C, oC) (.head _)).1, fun h' hs => ?_⟩
  obtain ⟨F', N'⟩ := comp_done F₂ N₂ off hCD hs
  exact k h' _ F' N' fun p hp => (off p hp).2
/-- what a block leaves that is bound to a cell -/
theorem post_cell {t : Str} {p : Pos} {Q : Value → Shared → Prop} {g : Heap} {L c : Addr} {m : Str → Option Value} {D C : Addr} {oC o : Obj} {v₀ : Option Value} {m' : Str → Option Value} {ys : List Value} {nD : Nat} {h : Heap} {tk : Nat} {pre post : List (Addr × Obj)}
    (hn : NsObj oC m') (F : Fr g L h m) (N : News g L h ((C, oC) :: (D, lst ys nD) :: (pre ++ (c, o) :: post))) (off : ∀ p ∈ pre ++ (c, o) :: post, p.1 ≠ C ∧ p.1 ≠ D) (hCD : C ≠ D)
    (hpre : ∀ p ∈ pre, p.1 ≠ c) (hpost : ∀ p ∈ post, p.1 ≠ c) (hd : o.data = .cell v₀)
    (hk : env.scope.kind = .function) (hl : env.kindOf t = some .cell) (hc : env.cells.lookup t = some c)
    (k : ∀ h' tk o', Fr g L h' m → News g L h' ((D, lst ys nD) :: (pre ++ (c, o') :: post)) → (∀ p ∈ pre ++ (c, o') :: post, p.1 ≠ D) → o'.data = .cell (some (.ref D)) → Q .none { s with heap := h', toks := tk }) :
    compPost (model prog w) A E (some (assign (.Name t p) env)) Q (.ref D) C (.ok .next) { s with heap := h, toks := tk } := by
  show wpAny _ A (assign (.Name t p) env (.ref D)) _ _ _
  have zc := N (c, o) (by simp)
  have oc := off (c, o) (by simp)
  refine wpAny_assign_Name (wpAny_storeName_cell hk hl hc ⟨o, zc.1, hd⟩ fun h₂ hv hs₂ => ?_)
  obtain ⟨o', ho', hd'⟩ := hv
  have F₂ : Fr g L h₂ m := F.change hs₂ zc.2.1 zc.2.2
  have N₂ : News g L h₂ ((C, oC) :: (D, lst ys nD) :: (pre ++ (c, o') :: post)) := by
    intro p hp
    rcases List.mem_cons.mp hp with rfl | hp
    · have z := N (C, oC) (.head _); exact ⟨hs₂.extBut _ _ (Ne.symm oc.1) z.1, z.2⟩
    · rcases List.mem_cons.mp hp with rfl | hp
      · have z := N (D, lst ys nD) (.tail _ (.head _)); exact ⟨hs₂.extBut _ _ (Ne.symm oc.2) z.1, z.2⟩
      · rcases List.mem_append.mp hp with hp | hp
        · have z := N p (.tail _ (.tail _ (List.mem_append_left _ hp))); exact ⟨hs₂.extBut _ _ (hpre p hp) z.1, z.2⟩
        · rcases List.mem_cons.mp hp with rfl | hp
          · exact ⟨ho', zc.2⟩
          · have z := N p (.tail _ (.tail _ (List.mem_append_right _ (.tail _ hp)))); exact ⟨hs₂.extBut _ _ (hpost p hp) z.1, z.2⟩
  have off₂ : ∀ p ∈ pre ++ (c, o') :: post, p.1 ≠ C ∧ p.1 ≠ D := by
    intro p hp
    rcases List.mem_append.mp hp with hp | hp
    · exact off p (List.mem_append_left _ hp)
    · rcases List.mem_cons.mp hp with rfl | hp
      · exact oc
      · exact off p (List.mem_append_right _ (.tail _ hp))
  refine ⟨m', hn.ns (N₂ (C, oC) (.head _)).1, fun h' hs => ?_⟩
  obtain ⟨F', N'⟩ := comp_done F₂ N₂ off₂ hCD hs
  exact k h' _ o' F' N' (fun p hp => (off₂ p hp).2) hd'
end

def lawParts : Option (List Stmt × Scope) := match (PySem.Challenge.pw_mq0156_01.main.body[13]? : Option Stmt) with
  | some (.FunctionDef _ _ body _ _ _ scope _ _ _) => some (body, scope)
  | _ => none
def lawStmt (n : Nat) : Option Stmt := match lawParts with | some (b, _) => b[n]? | none => none
def lawScope : Option Scope := match lawParts with | some (_, s) => some s | none => none
end Mine
end
section
open PySem PySem.W PyProof.Rows PySem.Calls
set_option Elab.async false
set_option maxRecDepth 100000
set_option maxHeartbeats 8000000
namespace Mine
def lawBody : List Stmt := match lawParts with | some (b, _) => b | none => []
def lawSc : Scope := match lawParts with | some (_, s) => s | none => default
def lawSt (n : Nat) : Stmt := match lawStmt n with | some s => s | none => default
theorem lawBody_eq : lawBody = [lawSt 0, lawSt 1, lawSt 2, lawSt 3, lawSt 4, lawSt 5, lawSt 6, lawSt 7, lawSt 8, lawSt 9, lawSt 10, lawSt 11] := rfl
theorem lawSc_eq : lawScope = some lawSc := rfl
theorem lawSt_eq0 : lawStmt 0 = some (lawSt 0) := rfl
abbrev lenv (sc : Scope) (L a : Addr) (cd : Value) : Env := envOfC (Str.ofString "law") sc L a cd
/-- the five cells of the law's frame -/
structure Cells (L : Addr) (o1 o2 o3 o4 o5 : Obj) (v1 v2 v3 v4 v5 : Option Value) : Prop where
  d1 : o1.data = .cell v1
  d2 : o2.data = .cell v2
  d3 : o3.data = .cell v3
  d4 : o4.data = .cell v4
  d5 : o5.data = .cell v5
structure WpC {α : Type} (M : Model) (A : Around) (t : Sem α) (Q : α → Shared → Prop) (E : Value → Shared → Prop) (s : Shared) : Prop where
  h : wpC M A t Q E s
theorem WpC.use {α : Type} {M : Model} {A : Around} {t : Sem α} {Q Q' : α → Shared → Prop} {E E' : Value → Shared → Prop} {s : Shared} (h : WpC M A t Q E s)
    (hQ : ∀ a s, Q a s → Q' a s) (hE : ∀ e s, E e s → E' e s) : WpC M A t Q' E' s := ⟨wpC_mono h.h hQ hE⟩
def LawBody : Prop := ∀ (prog : Program) (w : World) (A : Around) (E : Value → Shared → Prop) (s : Shared) (g : Heap) (L a ax : Addr) (cd : Value) (vs : List Value) (ns : List Int) (o1 o2 o3 o4 o5 : Obj),
  Gd w g → Fr g L s.heap (fun _ => none) → News g L s.heap [(L + 1, o1), (L + 2, o2), (L + 3, o3), (L + 4, o4), (L + 5, o5)] → Cells L o1 o2 o3 o4 o5 (some (.ref ax)) none none none none → g.IsList ax vs.toArray → IntsAre vs ns → ns.length ≤ 63 →
  A.handled = none → A.frames = some [lenv lawSc L a cd] → A.units + 2000 < cLine → A.depth + 20 < recursionLimit →
  WpC (model prog w) A (execs lawBody (lenv lawSc L a cd)) (fun f s' => f = .ret (.bool true) ∧ g.StaysIn s'.heap ∧ s'.gens = s.gens ∧ s'.os = s.os) E s
theorem law_of_body (hB : LawBody) : PySem.Challenge.rw_mq0156_01.Holds := by
  refine Mine.hd ?_
  intro w s₀ s₁ mg mb G Y a o pm cd doc dV kV ho hd hcd hD hmg hg args vals as hpre hlay hrd hwl hlo
  have KX := kIn_of Y
  refine Ground.open G ?_
  intro T B D TE TW
  wrow_args hpre hlay hrd hwl hlo
  have GG : Gd w s₁.heap := ⟨KX, _, _, _, T⟩
  have he := Dflts.none hD rfl; subst he; have he := Dflts.noKw hD; subst he
  clear hmg hD
  have hd2 : o.data = .func (docDef (Str.ofString "law") { posonlyargs := [], args := [{ arg := Str.ofString "script", annotation := none, pos := { line := 91, col := 8, endLine := 91, endCol := 14 } }], vararg := none, kwonlyargs := [], kw_defaults := [], kwarg := none, defaults := [] } lawBody lawSc pm cd doc) := fd_plain hd
  clear hd
  rename IntsAre _ _ => hI
  rename s₁.heap.IsList _ _ => hl
  rename ¬ _ < _ => hlen
  rename_i ns _ _ _ _ _ _ _ ax vs _ _ _ _ _ _
  refine wpC_call (enterCellsC (binds := [(Str.ofString "script", .ref ax)]) (by decide) ho hd2 T.nolimit hcd rfl (kinds_of (by kinds_ok)) (by decide) ?_)
  intro h₁ tk cells F N Y
  obtain ⟨o5, o4, o3, o2, o1, rfl, d5, d4, d3, d2, d1⟩ := kc_five Y
  replace F : Fr s₁.heap s₁.heap.objs.size h₁ (fun _ => none) := F
  have C : Cells s₁.heap.objs.size o1 o2 o3 o4 o5 (some (.ref ax)) none none none none := ⟨d1, d2, d3, d4, d5⟩
  have N2 : News s₁.heap s₁.heap.objs.size h₁ [(s₁.heap.objs.size + 1, o1), (s₁.heap.objs.size + 2, o2), (s₁.heap.objs.size + 3, o3), (s₁.heap.objs.size + 4, o4), (s₁.heap.objs.size + 5, o5)] := fun p hp => N p (by
    simp only [List.mem_cons, List.not_mem_nil, or_false] at hp ⊢
    rcases hp with rfl | rfl | rfl | rfl | rfl <;> simp)
  clear d1 d2 d3 d4 d5 Y N
  have hlen2 : ns.length ≤ 63 := by omega
  have key := fun E => (hB PySem.Challenge.rw_mq0156_01.row.prog w (callerA.deeper (lenv lawSc s₁.heap.objs.size a cd)) E { s₁ with heap := h₁, toks := tk } s₁.heap s₁.heap.objs.size a ax cd vs ns o1 o2 o3 o4 o5 GG F N2 C hl hI hlen2 rfl (Around.frames_deeper rfl) (of_decide_eq_true rfl) (of_decide_eq_true rfl))
  have key2 := key (fun e s => False)
  clear hB key
  refine WpC.h ?_
  refine WpC.use key2 ?_ ?_
  · rintro f s' ⟨rfl, k1, k2, k3⟩
    dsimp only
    refine GoodW.toG ⟨.inl ⟨_, .bool true, [], rfl, fun _ => ?_, .bool true, ?_, unshared_nil⟩, k1, k3, k2.trans hg⟩
    · rfl
    · wrow_post
  · intro e s' h
    cases h
end Mine
end
section
open PySem PySem.W PyProof.Rows PySem.Calls
set_option Elab.async false
set_option maxRecDepth 100000
set_option maxHeartbeats 8000000
namespace Mine
local macro_rules | `(tactic| walk_at "wk") => `(tactic| repeat ((try dsimp only); (fail_if_success (with_reducible show wpAny _ _ (exec (Stmt.While _ _ _ _) _) _ _ _)); (fail_if_success (with_reducible show wpAny _ _ (exec (Stmt.For _ _ _ _ _) _) _ _ _)); walk1))
local macro_rules | `(tactic| walk_at "wg") => `(tactic| repeat ((try dsimp only); (fail_if_success (with_reducible show wpAny _ _ (exec (Stmt.While _ _ _ _) _) _ _ _)); (fail_if_success (with_reducible show wpAny _ _ (exec (Stmt.For _ _ _ _ _) _) _ _ _)); (fail_if_success (with_reducible show wpAny _ _ (subscriptTail _ _ _ _) _ _ _)); walk1))
local macro_rules | `(tactic| walk_at "wg2") => `(tactic| repeat ((try dsimp only); (fail_if_success (with_reducible show wpAny _ _ (exec (Stmt.While _ _ _ _) _) _ _ _)); (fail_if_success (with_reducible show wpAny _ _ (exec (Stmt.For _ _ _ _ _) _) _ _ _)); (fail_if_success (with_reducible show wpAny _ _ (call (Value.type "str") _) _ _ _)); walk1))
theorem fillK7 : PySem.Challenge.rw_mq0156_01 = PySem.Challenge.rw_mq0156_01 ∧ Mine.hd.heap_39 = Mine.hd.heap_39 := by k_fill; exact ⟨rfl, rfl⟩

structure LV where
  text : Str
  mark : Int
  last : Str
  room : Int
def lvWords : List String := ["x", "C", "dev", "c", "a", "alpha", "b", "beta", "RC", "rc", "p", "pl"]
def lvPlaces : List Int := [2, 1, 3, 8, 4, 5, 6, 7, 9, 10, 11 + 10 ^ 30, 12 + 10 ^ 30]
def lvSigns : List String := ["", ".", "_", "+", "-"]
def kindZ (num : Int) (k : Nat) : Int := num / 100 ^ k % 100 % 10
def turnZ (num : Int) (k : Nat) : Int := num / 100 ^ k % 100 / 10
def lvIdx (num : Int) (k : Nat) : Nat := (2 * kindZ num k - 6 + turnZ num k % 2).toNat
def lvVal (num : Int) (k : Nat) : Int := if kindZ num k = 0 then 0 else if kindZ num k = 1 then 9 + turnZ num k % 2 else ((num / 10 ^ 6).natAbs : Int) % 10 ^ 30
def lvShape (num : Int) (k : Nat) : String := if kindZ num k > 2 then "word" else "number"
def lvPiece (num : Int) (k : Nat) : Str := if kindZ num k > 2 then Str.ofString (lvWords.getD (lvIdx num k) "")
  else if kindZ num k ≠ 1 ∧ turnZ num k % 2 = 1 then Str.ofString "0" ++ Str.ofString (toString (lvVal num k)) else Str.ofString (toString (lvVal num k))
def lvPlace (num : Int) (k : Nat) : Int := if kindZ num k > 2 then lvPlaces.getD (lvIdx num k) 0 else 11 + lvVal num k
def lvSg (num : Int) (k : Nat) : String := lvSigns.getD (turnZ num k / 2).toNat ""
def lvSign (num : Int) (k : Nat) (last : Str) : Str := if Str.ofString (lvSg num k) = Str.ofString "" ∧ last = Str.ofString (lvShape num k) then Str.ofString "." else Str.ofString (lvSg num k)
def lvStep (num : Int) (k : Nat) (v : LV) : LV := if kindZ num k = 9 then v else
  ⟨v.text ++ (lvSign num k v.last ++ lvPiece num k), v.mark + lvPlace num k * v.room, Str.ofString (lvShape num k), v.room / 10 ^ 31⟩
theorem kindZ_lt (num : Int) (k : Nat) : 0 ≤ kindZ num k ∧ kindZ num k < 10 := by unfold kindZ; omega
theorem turnZ_lt (num : Int) (k : Nat) : 0 ≤ turnZ num k ∧ turnZ num k < 10 := by unfold turnZ; omega
theorem kz (num : Int) (i : Nat) : ((num.fdiv (100 ^ (0 + (i : Int) * 1).toNat)).fmod 100).fmod 10 = kindZ num i := by
  have e : (0 + (i : Int) * 1).toNat = i := by omega
  unfold kindZ
  rw [e, Int.fdiv_eq_ediv_of_nonneg _ (Int.le_of_lt (Int.pow_pos (by decide))), Int.fmod_eq_emod_of_nonneg _ (by decide), Int.fmod_eq_emod_of_nonneg _ (by decide)]
theorem tz (num : Int) (i : Nat) : ((num.fdiv (100 ^ (0 + (i : Int) * 1).toNat)).fmod 100).fdiv 10 = turnZ num i := by
  have e : (0 + (i : Int) * 1).toNat = i := by omega
  unfold turnZ
  rw [e, Int.fdiv_eq_ediv_of_nonneg _ (Int.le_of_lt (Int.pow_pos (by decide))), Int.fmod_eq_emod_of_nonneg _ (by decide), Int.fdiv_eq_ediv_of_nonneg _ (by decide)]
theorem atoms_str {z : String} : ∀ {vs : List Value} {ds : List PyData}, Atoms vs ds → ∀ {k : Nat}, ds[k]? = some (.str (Str.ofString z)) → ∃ t, vs.getD k .none = .str (Str.ofString z) t := by
  intro vs ds h
  induction h with
  | nil => intro k e; simp at e
  | int i t _ ih => intro k e; cases k with | zero => simp at e | succ k => exact ih (by simpa using e)
  | str x t _ ih => intro k e; cases k with | zero => simp at e; exact ⟨t, by simp [e]⟩ | succ k => exact ih (by simpa using e)
theorem atoms_int {z : Int} : ∀ {vs : List Value} {ds : List PyData}, Atoms vs ds → ∀ {k : Nat}, ds[k]? = some (.int z) → ∃ t, vs.getD k .none = .int z t := by
  intro vs ds h
  induction h with
  | nil => intro k e; simp at e
  | int i t _ ih => intro k e; cases k with | zero => simp at e; exact ⟨t, by simp [e]⟩ | succ k => exact ih (by simpa using e)
  | str x t _ ih => intro k e; cases k with | zero => simp at e | succ k => exact ih (by simpa using e)
def lvUp (num : Int) : Nat → LV
  | 0 => ⟨Str.ofString "", 0, Str.ofString "", 10 ^ 62⟩
  | k + 1 => lvStep num k (lvUp num k)

theorem news_new {g h : Heap} {L : Addr} {m : Str → Option Value} {o : Obj} {news : List (Addr × Obj)} (N : News g L h news) : ∀ p ∈ news, p.1 ≠ h.objs.size := fun p hp => Nat.ne_of_lt (Heap.lt_size (N p hp).1)
def JV (num : Int) (t : Tok) (lw lp : Addr) (i : Nat) (m : Str → Option Value) : Prop :=
  m (Str.ofString "number") = some (.int num t) ∧ m (Str.ofString "words") = some (.ref lw) ∧ m (Str.ofString "places") = some (.ref lp) ∧ ∃ t1 t2 t3 t4,
    m (Str.ofString "text") = some (.str (lvUp num i).text t1) ∧ m (Str.ofString "mark") = some (.int (lvUp num i).mark t2) ∧ m (Str.ofString "last") = some (.str (lvUp num i).last t3) ∧ m (Str.ofString "room") = some (.int (lvUp num i).room t4)
theorem lvSg_eq {num : Int} {i : Nat} {c : Int} (h : (turnZ num i).fdiv 2 = c) : lvSg num i = lvSigns.getD c.toNat "" := by
  unfold lvSg; rw [← h, Int.fdiv_eq_ediv_of_nonneg _ (by decide)]
theorem words_at {n : Nat} (h : n < 12) : (lvWords.map fun z => PyData.str (Str.ofString z))[n]? = some (.str (Str.ofString (lvWords.getD n ""))) := by
  have hl : n < lvWords.length := h
  rw [List.getElem?_map, List.getD_eq_getElem?_getD, List.getElem?_eq_getElem hl]; rfl
theorem places_at {n : Nat} (h : n < 12) : (lvPlaces.map PyData.int)[n]? = some (.int (lvPlaces.getD n 0)) := by
  have hl : n < lvPlaces.length := h
  rw [List.getElem?_map, List.getD_eq_getElem?_getD, List.getElem?_eq_getElem hl]; rfl
theorem lvVal_lt (num : Int) (i : Nat) : 0 ≤ lvVal num i ∧ lvVal num i < 10 ^ 30 := by
  have h := turnZ_lt num i
  unfold lvVal
  split
  · decide
  · split
    · have : (0 : Int) ≤ 9 + turnZ num i % 2 ∧ 9 + turnZ num i % 2 < 11 := by omega
      exact ⟨this.1, Int.lt_trans this.2 (by decide)⟩
    · exact ⟨Int.emod_nonneg _ (by decide), Int.emod_lt_of_pos _ (by decide)⟩
theorem words_len : ∀ n : Nat, (Str.ofString (lvWords.getD n "")).length ≤ 5 := fun n => by
  by_cases h : n < 12
  · have := (by decide : ∀ k : Fin 12, (Str.ofString (lvWords.getD k.1 "")).length ≤ 5) ⟨n, h⟩
    exact this
  · rw [List.getD_eq_getElem?_getD, List.getElem?_eq_none (by show 12 ≤ n; omega)]; decide
theorem signs_len : ∀ n : Nat, (Str.ofString (lvSigns.getD n "")).length ≤ 1 := fun n => by
  by_cases h : n < 5
  · have := (by decide : ∀ k : Fin 5, (Str.ofString (lvSigns.getD k.1 "")).length ≤ 1) ⟨n, h⟩
    exact this
  · rw [List.getD_eq_getElem?_getD, List.getElem?_eq_none (by show 5 ≤ n; omega)]; decide
theorem length_append (a b : Str) : (a ++ b).length = a.length + b.length := Array.size_append
theorem val_len (num : Int) (i : Nat) : (Str.ofString (toString (lvVal num i))).length ≤ 30 := toString_length_le (lvVal_lt num i).1 (by decide) (lvVal_lt num i).2
theorem lvPiece_len (num : Int) (i : Nat) : (lvPiece num i).length ≤ 31 := by
  unfold lvPiece
  split
  · exact Nat.le_trans (words_len _) (by decide)
  · split
    · rw [length_append]; exact Nat.le_trans (Nat.add_le_add (Nat.le_of_eq (by decide : (Str.ofString "0").length = 1)) (val_len num i)) (by decide)
    · exact Nat.le_trans (val_len num i) (by decide)
theorem lvSign_len (num : Int) (i : Nat) (l : Str) : (lvSign num i l).length ≤ 1 := by
  unfold lvSign
  split
  · decide
  · exact signs_len _
theorem lvText_len (num : Int) : ∀ i, i ≤ 3 → (lvUp num i).text.length ≤ 96 := by
  have : ∀ i, (lvUp num i).text.length ≤ 32 * i := by
    intro i
    induction i with
    | zero => exact Nat.le_of_eq (by rfl)
    | succ i ih =>
      show (lvStep num i (lvUp num i)).text.length ≤ _
      unfold lvStep
      split
      · exact Nat.le_trans ih (by omega)
      · dsimp only
        rw [length_append, length_append]
        have h1 := lvSign_len num i (lvUp num i).last
        have h2 := lvPiece_len num i
        omega
  intro i hi
  exact Nat.le_trans (this i) (by omega)
theorem val_log2 (num : Int) (i : Nat) : (lvVal num i).natAbs.log2 < 1920 :=
  shown (N := 10 ^ 30) (by have := (lvVal_lt num i).1; exact Int.lt_of_lt_of_le (by decide) this) (lvVal_lt num i).2 (by decide)
theorem vx {num : Int} {i : Nat} (h : ¬ 2 < kindZ num i) : [0, 9 + (turnZ num i).fmod 2, (if num.fdiv (10 ^ Int.toNat 6) < 0 then -num.fdiv (10 ^ Int.toNat 6) else num.fdiv (10 ^ Int.toNat 6)).fmod (10 ^ Int.toNat 30)].getD (kindZ num i).toNat 0 = lvVal num i := by
  have hk := kindZ_lt num i
  have hk3 : kindZ num i = 0 ∨ kindZ num i = 1 ∨ kindZ num i = 2 := by omega
  have e6 : num.fdiv (10 ^ Int.toNat 6) = num / 10 ^ 6 := Int.fdiv_eq_ediv_of_nonneg _ (by decide)
  have ea : (if num.fdiv (10 ^ Int.toNat 6) < 0 then -num.fdiv (10 ^ Int.toNat 6) else num.fdiv (10 ^ Int.toNat 6)) = ((num / 10 ^ 6).natAbs : Int) := by rw [e6]; split <;> omega
  unfold lvVal
  rw [ea, Int.fmod_eq_emod_of_nonneg _ (by decide : (0 : Int) ≤ 2), Int.fmod_eq_emod_of_nonneg _ (by decide : (0 : Int) ≤ 10 ^ Int.toNat 30)]
  rcases hk3 with e | e | e <;> rw [e] <;> rfl
theorem places_lt : ∀ n : Nat, 0 ≤ lvPlaces.getD n 0 ∧ lvPlaces.getD n 0 < 10 ^ 31 := fun n => by
  by_cases h : n < 12
  · have := (by decide : ∀ k : Fin 12, 0 ≤ lvPlaces.getD k.1 0 ∧ lvPlaces.getD k.1 0 < 10 ^ 31) ⟨n, h⟩
    exact this
  · rw [List.getD_eq_getElem?_getD, List.getElem?_eq_none (by show 12 ≤ n; omega)]; decide
theorem lvPlace_lt (num : Int) (i : Nat) : 0 ≤ lvPlace num i ∧ lvPlace num i < 10 ^ 31 := by
  unfold lvPlace
  split
  · exact places_lt _
  · have h := lvVal_lt num i
    refine ⟨by omega, ?_⟩
    have : (10 : Int) ^ 30 + 11 < 10 ^ 31 := by decide
    omega
theorem lvRoom_lt (num : Int) : ∀ i, 0 ≤ (lvUp num i).room ∧ (lvUp num i).room < 10 ^ 63
  | 0 => by show (0 : Int) ≤ 10 ^ 62 ∧ (10 : Int) ^ 62 < 10 ^ 63; decide
  | i + 1 => by
    have ih := lvRoom_lt num i
    show 0 ≤ (lvStep num i (lvUp num i)).room ∧ (lvStep num i (lvUp num i)).room < 10 ^ 63
    unfold lvStep
    split
    · exact ih
    · exact ⟨Int.ediv_nonneg ih.1 (by decide), Int.lt_of_le_of_lt (Int.ediv_le_self _ ih.1) ih.2⟩
theorem bits_le {k : Int} (h : k.natAbs < 2 ^ 300) : Builtin.Int.intBits k ≤ 300 := by
  unfold Builtin.Int.intBits
  split
  · exact Nat.zero_le _
  · have : k.natAbs.log2 < 300 := by
      rcases Nat.eq_zero_or_pos k.natAbs with h0 | hp
      · rw [h0]; decide
      · exact (Nat.log2_lt (Nat.ne_of_gt hp)).mpr h
    omega
theorem mul_ok {a b : Int} (ha : 0 ≤ a ∧ a < 10 ^ 31) (hb : 0 ≤ b ∧ b < 10 ^ 63) : IntMulOk a b := by
  have h1 : Builtin.Int.intBits a ≤ 300 := bits_le (by
    have : (10 : Int) ^ 31 < ((2 ^ 300 : Nat) : Int) := by decide
    omega)
  have h2 : Builtin.Int.intBits b ≤ 300 := bits_le (by
    have : (10 : Int) ^ 63 < ((2 ^ 300 : Nat) : Int) := by decide
    omega)
  have h3 : Builtin.Int.intTooBig (Builtin.Int.intBits a + Builtin.Int.intBits b) = false := by
    unfold Builtin.Int.intTooBig
    refine decide_eq_false (fun q => ?_)
    have q2 : ((Builtin.Int.intBits a : Int) + (Builtin.Int.intBits b : Int)) ≤ 600 := by omega
    have : (600 : Int) ≤ bitsLine := by decide
    omega
  unfold IntMulOk
  rw [h3, Bool.and_false]
  exact Bool.false_ne_true
theorem hP2 (i : Nat) (hi : i < 3) : ((100 : Int) ^ (0 + (i : Int) * 1).toNat).natAbs < 1073741824 := by
  have : i = 0 ∨ i = 1 ∨ i = 2 := by omega
  rcases this with rfl | rfl | rfl <;> decide
theorem lawver_spec {prog : Program} {w : World} {A : Around} {R : Result → Shared → Prop} {s : Shared} {num : Int} {t : Tok} {b : Heap}
    (G : Gd w b) (st : b.StaysIn s.heap) (hu : A.units + 400 < cLine)
    (hroom : A.depth + 2 < recursionLimit) (hh : A.handled = none)
    (hR : ∀ h' tk r t1 t2, s.heap.StaysIn h' → s.heap.get? r = none → h'.get? r = some (lst [.str (lvUp num 3).text t1, .int (lvUp num 3).mark t2] 0) → R (.ok (.ret (.ref r))) { s with heap := h', toks := tk }) :
    codeAny (model prog w) A (.call (.ref 86) ⟨[.int num t], []⟩) R s := by
  refine callF (as := []) G st (by simp) (by with_unfolding_all rfl) (by with_unfolding_all rfl) (by omega) (BindsTo.of_eq rfl) (locs rfl) (fun L h₁ eL F hk G' => ?_) (by decide)
  have N : News s.heap L h₁ [] := fun p hp => by cases hp
  obtain ⟨mean, mg, mb, T⟩ := G'.T
  have X := G'.K
  replace F : Fr s.heap L h₁ (fun y => if y = Str.ofString "number" then some (Value.int num t) else none) := F
  replace X : (Mine.hd.heap_39 w.params).In s.heap := X
  replace T : Top VV LL mean mg mb s.heap := T
  clear eL hk G'
  generalize s.toks + _ = t0
  walk_at "wk"
  refine wpAny_For ?_
  walk_at "wk"
  rename Fr _ _ _ _ => F
  rename News _ _ _ _ => N
  rename IsRange _ _ _ _ _ _ _ _ => hr
  refine wpAny_pyIter_range hr (by decide) ?_
  rename Heap => h₅
  dsimp only
  have hne := news_new (m := fun _ => none) (o := default) N
  replace N := News.push F N (rgIt 0 3 1)
  replace F := F.push (rgIt 0 3 1)
  obtain ⟨lw, lp, ws, ps, N5, hlp, hlw, hws, hps, m5, F5, J5⟩ : ∃ lw lp ws ps, News s.heap L (h₅.push (rgIt 0 3 1)) [(h₅.objs.size, rgIt 0 3 1), (lp, lst ps 0), (lw, lst ws 0)] ∧ lp ≠ h₅.objs.size ∧ lw ≠ h₅.objs.size ∧ Atoms ws (lvWords.map fun z => .str (Str.ofString z)) ∧ Atoms ps (lvPlaces.map .int) ∧
      ∃ m, Fr s.heap L (h₅.push (rgIt 0 3 1)) m ∧ JV num t lw lp 0 m :=
    ⟨_, _, _, _, N, hne _ (.head _), hne _ (.tail _ (.head _)), .str _ _ (.str _ _ (.str _ _ (.str _ _ (.str _ _ (.str _ _ (.str _ _ (.str _ _ (.str _ _ (.str _ _ (.str _ _ (.str _ _ .nil))))))))))), .int _ _ (.int _ _ (.int _ _ (.int _ _ (.int _ _ (.int _ _ (.int _ _ (.int _ _ (.int _ _ (.int _ _ (.int _ _ (.int _ _ .nil))))))))))), _, F, rfl, rfl, rfl, _, _, _, _, rfl, rfl, rfl, rfl⟩
  clear F N
  rename Fr _ _ _ (fun y => ite _ _ _) => Fo
  rename News _ _ _ [_, _] => No
  clear Fo No
  refine for_range (n := 3) 0 1 (fun i m news => news = [(lp, lst ps 0), (lw, lst ws 0)] ∧ JV num t lw lp i m) hh F5 N5 ?_ ⟨rfl, J5⟩ ?_ ?_
  · intro p hp
    simp only [List.mem_cons, List.not_mem_nil, or_false] at hp
    rcases hp with rfl | rfl
    · exact hlp
    · exact hlw
  · rintro i tk m news h tk₅ hi ⟨rfl, e1, e2, e3, t1, t2, t3, t4, e4, e5, e6, e7⟩ hne F N
    replace F := fputs [(Str.ofString "k", .int (0 + i * 1) tk), (Str.ofString "number", .int num t), (Str.ofString "words", .ref lw), (Str.ofString "places", .ref lp), (Str.ofString "text", .str (lvUp num i).text t1), (Str.ofString "mark", .int (lvUp num i).mark t2), (Str.ofString "last", .str (lvUp num i).last t3), (Str.ofString "room", .int (lvUp num i).room t4)] F ⟨rfl, e1, e2, e3, e4, e5, e6, e7, trivial⟩
    simp only [bput] at F
    have hP : (0 : Int) < 100 ^ (0 + (i : Int) * 1).toNat := Int.pow_pos (by decide)
    refine mid (fun s' => ∃ h' tk' tt tk2, ∃ m' : Str → Option Value, s' = { s with heap := h', toks := tk' } ∧ Fr s.heap L h' (fun y => if y = Str.ofString "kind" then some (.int (kindZ num i) tk2) else if y = Str.ofString "turn" then some (.int (turnZ num i) tt) else if y = Str.ofString "number" then some (.int num t) else if y = Str.ofString "words" then some (.ref lw) else if y = Str.ofString "places" then some (.ref lp) else if y = Str.ofString "text" then some (.str (lvUp num i).text t1) else if y = Str.ofString "mark" then some (.int (lvUp num i).mark t2) else if y = Str.ofString "last" then some (.str (lvUp num i).last t3) else if y = Str.ofString "room" then some (.int (lvUp num i).room t4) else m' y) ∧ News s.heap L h' [(h₅.objs.size, rgIt (0 + ((i + 1 : Nat) : Int) * 1) (((3 : Nat) : Int) - ((i + 1 : Nat) : Int)) 1), (lp, lst ps 0), (lw, lst ws 0)]) ?_ ?_
    · walk_at "wk"
      refine floordiv_int (Int.ne_of_gt hP) ?_ (.inl (PyProof.noPylong_small (hP2 i hi)))
      walk_at "wk"
      dsimp only
      rename Fr _ _ _ _ => F
      rename News _ _ _ _ => N
      refine unpackN_ (by exact F) (by exact N) (News.isTup N (.head _)) hh rfl rfl ?_
      intro h₆ F N
      walk_at "wk"
      rename Fr _ _ _ _ => F
      rename News _ _ _ _ => N
      rw [kz, tz] at F
      exact ⟨_, _, _, _, _, rfl, fputs [(Str.ofString "kind", _), (Str.ofString "turn", _), (Str.ofString "number", _), (Str.ofString "words", _), (Str.ofString "places", _), (Str.ofString "text", _), (Str.ofString "mark", _), (Str.ofString "last", _), (Str.ofString "room", _)] F ⟨rfl, rfl, rfl, rfl, rfl, rfl, rfl, rfl, rfl, trivial⟩, fun p hp => N p (.tail _ hp)⟩
    clear F N
    rintro s' ⟨h₆, tk₆, tt, tk2, m', rfl, F, N⟩
    have hkz := kindZ_lt num i
    have htz := turnZ_lt num i
    clear e4 e5 e6 e7 e1 e2 e3
    by_cases hk9 : kindZ num i = 9
    · walk_at "wk"
      all_goals (try contradiction)
      have e : lvUp num (i + 1) = lvUp num i := by show lvStep num i (lvUp num i) = _; unfold lvStep; rw [if_pos hk9]
      exact ⟨_, _, _, _, _, rfl, rfl, F, N, hne, rfl, rfl, rfl, rfl, _, _, _, _, by rw [e]; rfl, by rw [e]; rfl, by rw [e]; rfl, by rw [e]; rfl⟩
    refine mid (fun s' => s' = { s with heap := h₆, toks := tk₆ + 1 }) ?_ ?_
    · walk_at "wk"
      all_goals (try contradiction)
      walk_at "wk"
      exact rfl
    rintro s' rfl
    refine mid (fun s' => ∃ h' tk' tt tk2 ts, ∃ m' : Str → Option Value, s' = { s with heap := h', toks := tk' } ∧ Fr s.heap L h' (fun y => if y = Str.ofString "sign" then some (.str (Str.ofString (lvSg num i)) ts) else if y = Str.ofString "kind" then some (.int (kindZ num i) tk2) else if y = Str.ofString "turn" then some (.int (turnZ num i) tt) else if y = Str.ofString "number" then some (.int num t) else if y = Str.ofString "words" then some (.ref lw) else if y = Str.ofString "places" then some (.ref lp) else if y = Str.ofString "text" then some (.str (lvUp num i).text t1) else if y = Str.ofString "mark" then some (.int (lvUp num i).mark t2) else if y = Str.ofString "last" then some (.str (lvUp num i).last t3) else if y = Str.ofString "room" then some (.int (lvUp num i).room t4) else m' y) ∧ News s.heap L h' [(h₅.objs.size, rgIt (0 + ((i + 1 : Nat) : Int) * 1) (((3 : Nat) : Int) - ((i + 1 : Nat) : Int)) 1), (lp, lst ps 0), (lw, lst ws 0)]) ?_ ?_
    · walk_at "wk"
      all_goals walk_at "wk"
      all_goals (rename Fr _ _ _ _ => F; rename News _ _ _ _ => N; rename (turnZ num i).fdiv 2 = _ => kq)
      all_goals (rw [lvSg_eq kq]; exact ⟨_, _, _, _, _, _, rfl, fputs [(Str.ofString "sign", _), (Str.ofString "kind", _), (Str.ofString "turn", _), (Str.ofString "number", _), (Str.ofString "words", _), (Str.ofString "places", _), (Str.ofString "text", _), (Str.ofString "mark", _), (Str.ofString "last", _), (Str.ofString "room", _)] F ⟨rfl, rfl, rfl, rfl, rfl, rfl, rfl, rfl, rfl, rfl, trivial⟩, fun p hp => N p (by first | exact hp | exact .tail _ hp)⟩)
    clear F N
    rintro s' ⟨h₆, tk₆, tt, tk2, ts, m', rfl, F, N⟩
    refine mid (fun s' => ∃ h' tk' ts tp tq th, ∃ m' : Str → Option Value, s' = { s with heap := h', toks := tk' } ∧ Fr s.heap L h' (fun y => if y = Str.ofString "place" then some (.int (lvPlace num i) tp) else if y = Str.ofString "piece" then some (.str (lvPiece num i) tq) else if y = Str.ofString "shape" then some (.str (Str.ofString (lvShape num i)) th) else if y = Str.ofString "sign" then some (.str (Str.ofString (lvSg num i)) ts) else if y = Str.ofString "number" then some (.int num t) else if y = Str.ofString "words" then some (.ref lw) else if y = Str.ofString "places" then some (.ref lp) else if y = Str.ofString "text" then some (.str (lvUp num i).text t1) else if y = Str.ofString "mark" then some (.int (lvUp num i).mark t2) else if y = Str.ofString "last" then some (.str (lvUp num i).last t3) else if y = Str.ofString "room" then some (.int (lvUp num i).room t4) else m' y) ∧ News s.heap L h' [(h₅.objs.size, rgIt (0 + ((i + 1 : Nat) : Int) * 1) (((3 : Nat) : Int) - ((i + 1 : Nat) : Int)) 1), (lp, lst ps 0), (lw, lst ws 0)]) ?_ ?_
    · by_cases hk2 : 2 < kindZ num i
      · walk_at "wg"
        all_goals (try contradiction)
        walk_at "wg"
        rename Fr _ _ _ _ => F
        rename News _ _ _ _ => N
        have hix : 2 * kindZ num i - 6 + (turnZ num i).fmod 2 = ((lvIdx num i : Nat) : Int) ∧ lvIdx num i < 12 := by
          unfold lvIdx; rw [Int.fmod_eq_emod_of_nonneg _ (by decide)]; omega
        obtain ⟨tw, ew⟩ := atoms_str hws (words_at hix.2)
        obtain ⟨tv, ev⟩ := atoms_int hps (places_at hix.2)
        have lw12 : ws.length = 12 := hws.len
        have lp12 : ps.length = 12 := hps.len
        refine item_at (lvIdx num i) (News.isList N (.tail _ (.tail _ (.head _)))) hix.1 (by rw [lw12]; exact hix.2) (by rw [lw12]; decide) ?_
        rw [ew]
        walk_at "wg"
        rename Fr _ _ _ _ => F
        rename News _ _ _ _ => N
        refine item_at (lvIdx num i) (News.isList N (.tail _ (.head _))) hix.1 (by rw [lp12]; exact hix.2) (by rw [lp12]; decide) ?_
        rw [ev]
        walk_at "wk"
        rename Fr _ _ _ _ => F
        rename News _ _ _ _ => N
        rw [show lvPlace num i = lvPlaces.getD (lvIdx num i) 0 from if_pos hk2, show lvPiece num i = Str.ofString (lvWords.getD (lvIdx num i) "") from if_pos hk2, show lvShape num i = "word" from if_pos hk2]
        exact ⟨_, _, _, _, _, _, _, rfl, fputs [(Str.ofString "place", _), (Str.ofString "piece", _), (Str.ofString "shape", _), (Str.ofString "sign", _), (Str.ofString "number", _), (Str.ofString "words", _), (Str.ofString "places", _), (Str.ofString "text", _), (Str.ofString "mark", _), (Str.ofString "last", _), (Str.ofString "room", _)] F ⟨rfl, rfl, rfl, rfl, rfl, rfl, rfl, rfl, rfl, rfl, rfl, trivial⟩, N⟩
      · have eP : lvPlace num i = 11 + lvVal num i := if_neg hk2
        have eS : lvShape num i = "number" := if_neg hk2
        have hfm : (turnZ num i).fmod 2 = turnZ num i % 2 := Int.fmod_eq_emod_of_nonneg _ (by decide)
        walk_at "wg2"
        all_goals (try contradiction)
        walk_at "wg2"
        all_goals (try contradiction)
        rename Fr _ _ _ _ => F
        rename News _ _ _ _ => N
        rw [vx hk2] at F ⊢
        refine P.str_of_int (val_log2 num i) ?_
        by_cases hc1 : kindZ num i = 1
        · have eQ : lvPiece num i = Str.ofString (toString (lvVal num i)) := by unfold lvPiece; rw [if_neg hk2, if_neg (fun q => q.1 hc1)]
          walk_at "wk"
          all_goals (try contradiction)
          all_goals (try dsimp only)
          all_goals walk_at "wk"
          rename Fr _ _ _ _ => F
          rename News _ _ _ _ => N
          rw [eP, eS, eQ]
          exact ⟨_, _, _, _, _, _, _, rfl, fputs [(Str.ofString "place", _), (Str.ofString "piece", _), (Str.ofString "shape", _), (Str.ofString "sign", _), (Str.ofString "number", _), (Str.ofString "words", _), (Str.ofString "places", _), (Str.ofString "text", _), (Str.ofString "mark", _), (Str.ofString "last", _), (Str.ofString "room", _)] F ⟨rfl, rfl, rfl, rfl, rfl, rfl, rfl, rfl, rfl, rfl, rfl, trivial⟩, fun p hp => N p (by first | exact hp | exact .tail _ hp)⟩
        · by_cases hc2 : (turnZ num i).fmod 2 = 1
          · have eQ : lvPiece num i = Str.ofString "0" ++ Str.ofString (toString (lvVal num i)) := by unfold lvPiece; rw [if_neg hk2, if_pos ⟨hc1, hfm ▸ hc2⟩]
            walk_at "wk"
            all_goals (try contradiction)
            all_goals (try dsimp only)
            all_goals walk_at "wk"
            refine add_str (fun t' tk => ?_) (Nat.le_trans (Nat.add_le_add (Nat.le_of_eq (by decide : (Str.ofString "0").length = 1)) (val_len num i)) (by decide))
            walk_at "wk"
            rename Fr _ _ _ _ => F
            rename News _ _ _ _ => N
            rw [eP, eS, eQ]
            exact ⟨_, _, _, _, _, _, _, rfl, fputs [(Str.ofString "place", _), (Str.ofString "piece", _), (Str.ofString "shape", _), (Str.ofString "sign", _), (Str.ofString "number", _), (Str.ofString "words", _), (Str.ofString "places", _), (Str.ofString "text", _), (Str.ofString "mark", _), (Str.ofString "last", _), (Str.ofString "room", _)] F ⟨rfl, rfl, rfl, rfl, rfl, rfl, rfl, rfl, rfl, rfl, rfl, trivial⟩, fun p hp => N p (by first | exact hp | exact .tail _ hp)⟩
          · have eQ : lvPiece num i = Str.ofString (toString (lvVal num i)) := by unfold lvPiece; rw [if_neg hk2, if_neg (fun q => hc2 (hfm.trans q.2))]
            walk_at "wk"
            all_goals (try contradiction)
            all_goals (try dsimp only)
            all_goals walk_at "wk"
            rename Fr _ _ _ _ => F
            rename News _ _ _ _ => N
            rw [eP, eS, eQ]
            exact ⟨_, _, _, _, _, _, _, rfl, fputs [(Str.ofString "place", _), (Str.ofString "piece", _), (Str.ofString "shape", _), (Str.ofString "sign", _), (Str.ofString "number", _), (Str.ofString "words", _), (Str.ofString "places", _), (Str.ofString "text", _), (Str.ofString "mark", _), (Str.ofString "last", _), (Str.ofString "room", _)] F ⟨rfl, rfl, rfl, rfl, rfl, rfl, rfl, rfl, rfl, rfl, rfl, trivial⟩, fun p hp => N p (by first | exact hp | exact .tail _ hp)⟩
    clear F N
    rintro s' ⟨h₆, tk₆, ts, tp, tq, th, m', rfl, F, N⟩
    refine mid (fun s' => ∃ h' tk' ts tp tq th, ∃ m' : Str → Option Value, s' = { s with heap := h', toks := tk' } ∧ Fr s.heap L h' (fun y => if y = Str.ofString "sign" then some (.str (lvSign num i (lvUp num i).last) ts) else if y = Str.ofString "place" then some (.int (lvPlace num i) tp) else if y = Str.ofString "piece" then some (.str (lvPiece num i) tq) else if y = Str.ofString "shape" then some (.str (Str.ofString (lvShape num i)) th) else if y = Str.ofString "number" then some (.int num t) else if y = Str.ofString "words" then some (.ref lw) else if y = Str.ofString "places" then some (.ref lp) else if y = Str.ofString "text" then some (.str (lvUp num i).text t1) else if y = Str.ofString "mark" then some (.int (lvUp num i).mark t2) else if y = Str.ofString "last" then some (.str (lvUp num i).last t3) else if y = Str.ofString "room" then some (.int (lvUp num i).room t4) else m' y) ∧ News s.heap L h' [(h₅.objs.size, rgIt (0 + ((i + 1 : Nat) : Int) * 1) (((3 : Nat) : Int) - ((i + 1 : Nat) : Int)) 1), (lp, lst ps 0), (lw, lst ws 0)]) ?_ ?_
    · walk_at "wk"
      all_goals (try dsimp only)
      · rename Fr _ _ _ _ => F
        rename News _ _ _ _ => N
        rename (Str.ofString (lvSg num i) == _) = true => q1
        rename ((lvUp num i).last == _) = true => q2
        rw [show lvSign num i (lvUp num i).last = Str.ofString "." from if_pos ⟨by simpa using q1, by simpa using q2⟩]
        exact ⟨_, _, _, _, _, _, _, rfl, fputs [(Str.ofString "sign", _), (Str.ofString "place", _), (Str.ofString "piece", _), (Str.ofString "shape", _), (Str.ofString "number", _), (Str.ofString "words", _), (Str.ofString "places", _), (Str.ofString "text", _), (Str.ofString "mark", _), (Str.ofString "last", _), (Str.ofString "room", _)] F ⟨rfl, rfl, rfl, rfl, rfl, rfl, rfl, rfl, rfl, rfl, rfl, trivial⟩, N⟩
      · rename ((lvUp num i).last == _) = false => q2
        rw [show lvSign num i (lvUp num i).last = Str.ofString (lvSg num i) from if_neg (fun q => by simp [q.2] at q2)]
        (try rw [if_neg Bool.false_ne_true])
        walk_at "wk"
        exact ⟨_, _, _, _, _, _, _, rfl, fputs [(Str.ofString "sign", _), (Str.ofString "place", _), (Str.ofString "piece", _), (Str.ofString "shape", _), (Str.ofString "number", _), (Str.ofString "words", _), (Str.ofString "places", _), (Str.ofString "text", _), (Str.ofString "mark", _), (Str.ofString "last", _), (Str.ofString "room", _)] F ⟨rfl, rfl, rfl, rfl, rfl, rfl, rfl, rfl, rfl, rfl, rfl, trivial⟩, N⟩
      · rename (Str.ofString (lvSg num i) == _) = false => q1
        rw [show lvSign num i (lvUp num i).last = Str.ofString (lvSg num i) from if_neg (fun q => by simp [q.1] at q1)]
        (try rw [if_neg Bool.false_ne_true])
        walk_at "wk"
        exact ⟨_, _, _, _, _, _, _, rfl, fputs [(Str.ofString "sign", _), (Str.ofString "place", _), (Str.ofString "piece", _), (Str.ofString "shape", _), (Str.ofString "number", _), (Str.ofString "words", _), (Str.ofString "places", _), (Str.ofString "text", _), (Str.ofString "mark", _), (Str.ofString "last", _), (Str.ofString "room", _)] F ⟨rfl, rfl, rfl, rfl, rfl, rfl, rfl, rfl, rfl, rfl, rfl, trivial⟩, N⟩
    clear F N
    rintro s' ⟨h₆, tk₆, ts, tp, tq, th, m', rfl, F, N⟩
    walk_at "wk"
    refine add_str (fun t' tk => ?_) (Nat.le_trans (Nat.add_le_add (lvSign_len ..) (lvPiece_len ..)) (by decide))
    refine iadd_str (fun t' tk => ?_) (Nat.le_trans (Nat.add_le_add (lvText_len num i (Nat.le_of_lt hi)) (Nat.le_trans (Nat.le_of_eq (length_append ..)) (Nat.add_le_add (lvSign_len ..) (lvPiece_len ..)))) (by decide))
    walk_at "wk"
    refine mul_int ?_ (mul_ok (lvPlace_lt num i) (lvRoom_lt num i))
    walk_at "wk"
    rename Fr _ _ _ _ => F
    rename News _ _ _ _ => N
    have e : lvUp num (i + 1) = ⟨(lvUp num i).text ++ (lvSign num i (lvUp num i).last ++ lvPiece num i), (lvUp num i).mark + lvPlace num i * (lvUp num i).room, Str.ofString (lvShape num i), (lvUp num i).room / 10 ^ 31⟩ := by show lvStep num i (lvUp num i) = _; unfold lvStep; rw [if_neg hk9]
    have e31 : (lvUp num i).room.fdiv (10 ^ Int.toNat 31) = (lvUp num i).room / 10 ^ 31 := Int.fdiv_eq_ediv_of_nonneg _ (by decide)
    exact ⟨_, _, _, _, _, rfl, rfl, F, N, hne, rfl, rfl, rfl, rfl, _, _, _, _, by rw [e]; rfl, by rw [e]; rfl, by rw [e]; rfl, by rw [e, ← e31]; rfl⟩
  · rintro m news h tk ⟨rfl, e1, e2, e3, t1, t2, t3, t4, e4, e5, e6, e7⟩ F N
    replace F := fputs [(Str.ofString "text", .str (lvUp num 3).text t1), (Str.ofString "mark", .int (lvUp num 3).mark t2)] F ⟨e4, e5, trivial⟩
    simp only [bput] at F
    walk_at "wk"
    rename Fr _ _ _ _ => F
    rename News _ _ _ _ => N
    exact hR _ _ _ _ _ (fun c o e => F.keep c o e) (N _ (.head _)).2.2 (N _ (.head _)).1
end Mine
end
section
open PySem PySem.W PyProof.Rows PySem.Calls
open LCg (NsObj)
set_option Elab.async false
set_option maxRecDepth 100000
set_option maxHeartbeats 8000000
namespace Mine
local macro_rules | `(tactic| walk_at "me") => `(tactic| repeat (first | exact memH | refine memT ?_))
local macro_rules | `(tactic| walk_at "sub") => `(tactic| repeat (first | exact fun _ h => h | (refine subC ?_ ?_; focus (walk_at "me"; done)) | (refine allC ?_ ?_; focus (first | (refine Or.inl ?_; walk_at "me"; done) | exact Or.inr rfl | exact Or.inr (Or.inl rfl) | exact Or.inr (Or.inr rfl))) | refine orI ?_ | refine subT ?_))
local macro_rules | `(tactic| walk_at "wk") => `(tactic| repeat ((try dsimp only); (fail_if_success (with_reducible show wpAny _ _ (exec (Stmt.While _ _ _ _) _) _ _ _)); (fail_if_success (with_reducible show wpAny _ _ (exec (Stmt.For _ _ _ _ _) _) _ _ _)); walk1))
theorem fillL1 : PySem.Challenge.rw_mq0156_01 = PySem.Challenge.rw_mq0156_01 ∧ Mine.hd.heap_39 = Mine.hd.heap_39 := by k_fill; exact ⟨rfl, rfl⟩
def lawOwn : List Int := [1093102, 1092102, 1372102, 1095112, 1962002, 1092102, 1097102, 90909, 1172102, 1093102, 1092102, 1062002, 1090802]
theorem st_own {prog : Program} {w : World} {A : Around} {E : Value → Shared → Prop} {s : Shared} {g : Heap} {L a : Addr} {cd : Value} {sc : Scope} {st : Stmt} {Q : Flow → Shared → Prop} {o1 o2 o3 o4 o5 : Obj} {v1 : Option Value}
    (hsc : lawScope = some sc) (hst : lawStmt 0 = some st) (G : Gd w g) (hh : A.handled = none) (hu : A.units + 1000 < cLine) (hroom : A.depth + 10 < recursionLimit)
    (F : Fr g L s.heap (fun _ => none)) (N : News g L s.heap [(L + 1, o1), (L + 2, o2), (L + 3, o3), (L + 4, o4), (L + 5, o5)]) (d1 : o1.data = .cell v1) (d2 : o2.data = .cell none) (d3 : o3.data = .cell none) (d4 : o4.data = .cell none) (d5 : o5.data = .cell none)
    (k : ∀ h tk lo os o2, Fr g L h (fun _ => none) → News g L h [(lo, lst os 0), (L + 1, o1), (L + 2, o2), (L + 3, o3), (L + 4, o4), (L + 5, o5)] → (lo ≠ L + 1 ∧ lo ≠ L + 2 ∧ lo ≠ L + 3 ∧ lo ≠ L + 4 ∧ lo ≠ L + 5) → o2.data = .cell (some (.ref lo)) → Atoms os (lawOwn.map .int) → Q .next { s with heap := h, toks := tk }) :
    WpC (model prog w) A (exec st (lenv sc L a cd)) Q E s := by
  refine ⟨wpC_any ?_⟩
  obtain rfl : _ = st := Option.some.inj (show some _ = some st from hst)
  obtain rfl : _ = sc := Option.some.inj (show some _ = some sc from hsc)
  obtain ⟨mean, mg, mb, T⟩ := id G.T
  have X := G.K
  walk_at "wk"
  rename Fr _ _ _ _ => F
  rename News _ _ _ _ => N
  refine k _ _ _ _ _ F N (by refine ⟨?_, ?_, ?_, ?_, ?_⟩ <;> (refine Nat.ne_of_gt ?_; omega)) (by assumption) ?_
  repeat' (first | exact .nil | refine .int _ _ ?_)

def verObj (num : Int) (o : Obj) : Prop := ∃ t1 t2, o = lst [.str (lvUp num 3).text t1, .int (lvUp num 3).mark t2] 0
def offCells (L : Addr) (imm : List (Addr × Obj)) : Prop := ∀ p ∈ imm, p.1 ≠ L + 1 ∧ p.1 ≠ L + 2 ∧ p.1 ≠ L + 3 ∧ p.1 ≠ L + 4 ∧ p.1 ≠ L + 5
def VerIn (nums : List Int) (ys : List Value) (imm : List (Addr × Obj)) : Prop := ys.length = nums.length ∧ ∀ j, j < nums.length → ∃ r o, ys[j]? = some (.ref r) ∧ (r, o) ∈ imm ∧ verObj (nums.getD j 0) o
theorem VerIn.snoc {nums : List Int} {ys : List Value} {imm : List (Addr × Obj)} {num : Int} {r : Addr} {o : Obj} (h : VerIn nums ys imm) (ho : verObj num o) : VerIn (nums ++ [num]) (ys ++ [.ref r]) ((r, o) :: imm) := by
  refine ⟨by simp [h.1], fun j hj => ?_⟩
  rw [List.length_append, List.length_singleton] at hj
  by_cases e : j < nums.length
  · obtain ⟨r', o', h1, h2, h3⟩ := h.2 j e
    refine ⟨r', o', ?_, .tail _ h2, ?_⟩
    · rw [List.getElem?_append_left (by rw [h.1]; exact e)]; exact h1
    · rw [List.getD_eq_getElem?_getD, List.getElem?_append_left e, ← List.getD_eq_getElem?_getD]; exact h3
  · obtain rfl : j = nums.length := by omega
    refine ⟨r, o, ?_, .head _, ?_⟩
    · rw [← h.1]; simp
    · simp [List.getD_eq_getElem?_getD]; exact ho
theorem news_add {g h h' : Heap} {L r : Addr} {o : Obj} {m : Str → Option Value} {news : List (Addr × Obj)} (F : Fr g L h m) (N : News g L h news) (hst : h.StaysIn h') (hr0 : h.get? r = none) (hr : h'.get? r = some o) : News g L h' ((r, o) :: news) ∧ ∀ p ∈ news, p.1 ≠ r := by
  have hrL : r ≠ L := fun q => by obtain ⟨o, _, _, e, _⟩ := id F.ns; rw [← q, hr0] at e; cases e
  have hrg : g.get? r = none := by
    cases e : g.get? r with
    | none => rfl
    | some o => have := F.keep _ _ e; rw [hr0] at this; cases this
  refine ⟨fun p hp => ?_, fun p hp q => by have := (N p hp).1; rw [q, hr0] at this; cases this⟩
  rcases List.mem_cons.mp hp with rfl | hp
  · exact ⟨hr, hrL, hrg⟩
  · exact ⟨hst _ _ (N p hp).1, (N p hp).2⟩
theorem off_new {L r : Addr} {imm : List (Addr × Obj)} {o : Obj} {h : Heap} (hn : h.get? r = none) (hc : ∀ c, c = L + 1 ∨ c = L + 2 ∨ c = L + 3 ∨ c = L + 4 ∨ c = L + 5 → ∃ o, h.get? c = some o) (ho : offCells L imm) : offCells L ((r, o) :: imm) := by
  have ne : ∀ c, (c = L + 1 ∨ c = L + 2 ∨ c = L + 3 ∨ c = L + 4 ∨ c = L + 5) → r ≠ c := fun c e q => by
    obtain ⟨o, e⟩ := hc c e
    rw [← q, hn] at e; cases e
  intro p hp
  rcases List.mem_cons.mp hp with rfl | hp
  · exact ⟨ne _ (by simp), ne _ (by simp), ne _ (by simp), ne _ (by simp), ne _ (by simp)⟩
  · exact ho p hp
theorem own_at {i : Nat} (h : i < 13) : (lawOwn.map PyData.int)[i]? = some (.int (lawOwn.getD i 0)) := by
  have hl : i < lawOwn.length := h
  rw [List.getElem?_map, List.getD_eq_getElem?_getD, List.getElem?_eq_getElem hl]; rfl
theorem st_versions {prog : Program} {w : World} {A : Around} {E : Value → Shared → Prop} {s : Shared} {g : Heap} {L a ax lo : Addr} {cd : Value} {sc : Scope} {st : Stmt} {Q : Flow → Shared → Prop} {o1 o2 o3 o4 o5 : Obj} {os vs : List Value} {ns : List Int}
    (hsc : lawScope = some sc) (hst : lawStmt 1 = some st) (G : Gd w g) (hh : A.handled = none) (hu : A.units + 1000 < cLine) (hroom : A.depth + 10 < recursionLimit)
    (F : Fr g L s.heap (fun _ => none)) (N : News g L s.heap [(lo, lst os 0), (L + 1, o1), (L + 2, o2), (L + 3, o3), (L + 4, o4), (L + 5, o5)]) (d1 : o1.data = .cell (some (.ref ax))) (d2 : o2.data = .cell (some (.ref lo)))
    (hlo : lo ≠ L + 1 ∧ lo ≠ L + 2 ∧ lo ≠ L + 3 ∧ lo ≠ L + 4 ∧ lo ≠ L + 5) (hos : Atoms os (lawOwn.map .int)) (hl : g.IsList ax vs.toArray) (hI : IntsAre vs ns) (hlen : ns.length ≤ 63)
    (k : ∀ h tk lv ys nD imm nums, Fr g L h (fun y => if y = Str.ofString "versions" then some (.ref lv) else none) → News g L h ((lv, lst ys nD) :: (L + 1, o1) :: (L + 2, o2) :: (L + 3, o3) :: (L + 4, o4) :: (L + 5, o5) :: imm) → offCells L imm → (lv ≠ L + 1 ∧ lv ≠ L + 2 ∧ lv ≠ L + 3 ∧ lv ≠ L + 4 ∧ lv ≠ L + 5) → nums.length = 13 → VerIn nums ys imm → Q .next { s with heap := h, toks := tk }) :
    WpC (model prog w) A (exec st (lenv sc L a cd)) Q E s := by
  obtain rfl : _ = st := Option.some.inj (show some _ = some st from hst)
  obtain rfl : _ = sc := Option.some.inj (show some _ = some sc from hsc)
  obtain ⟨mean, mg, mb, T⟩ := id G.T
  have X := G.K
  refine ⟨wpC_assignComp (by with_unfolding_all rfl) (by with_unfolding_all rfl) rfl (by decide) ?_⟩
  walk_at "wk"
  rename Fr _ _ _ _ => F
  rename News _ _ _ _ => N
  rename IsRange _ _ _ _ _ _ _ _ => hr
  refine wpAny_pyIter_range hr (by decide) ?_
  rename Heap => h₂
  dsimp only
  have e13 : Builtin.Range.rangeSize 0 13 1 = ((13 : Nat) : Int) := by decide
  rw [e13]
  have N1 := N.grown (h' := h₂.push (rgIt 0 13 1)) fun _ _ e => Heap.get?_push_of_some _ e
  have F1 := F.keeps (h' := h₂.push (rgIt 0 13 1)) fun _ _ e => Heap.get?_push_of_some _ e
  refine comp_blockC (S := fun _ => True) (J := fun i ys news => ∃ imm nums, news = (lo, lst os 0) :: (L + 1, o1) :: (L + 2, o2) :: (L + 3, o3) :: (L + 4, o4) :: (L + 5, o5) :: imm ∧ offCells L imm ∧ nums.length = i ∧ VerIn nums ys imm)
    (LCg.range_walks hh 0 13) (by decide) (fun i h st => ⟨_, st⟩) LCg.range_st (fun _ _ _ _ => trivial) (by decide) rfl (by rfl) ?_ ?_ F1 N1 (Nat.ne_of_lt F.ns.lt) (next_is_new F) (fun p hp => Nat.ne_of_lt (Heap.lt_size (N p hp).1)) ?_ ?_ ?_
  · exact Heap.get?_push_size _ rfl
  · intro b hb; rw [List.mem_singleton.mp hb]; show h₂.objs.size < (h₂.push _).objs.size; rw [Heap.size_push]; exact Nat.lt_succ_self _
  · exact ⟨[], [], rfl, (fun p hp => nomatch hp), rfl, rfl, fun j hj => absurd hj (Nat.not_lt_zero _)⟩
  · rintro i v ys nD oI C oC D m₂ news h tk E' hi ⟨tv, rfl⟩ ⟨imm, nums, rfl, hoff, hnl, hver⟩ hoC hm₂ F N off hIC hID hCD
    refine wpAny_tests_nil ?_
    rw [if_pos rfl]
    refine wpC_any ?_
    walk_at "wk"
    have hix : i < os.length := by rw [hos.len]; exact hi
    obtain ⟨to, eo⟩ := atoms_int (k := i) hos (own_at hi)
    refine item_at i (News.isList N (.tail _ (.tail _ (.tail _ (.head _))))) (by omega) hix (by rw [hos.len]; decide) ?_
    rw [eo]
    walk1
    walk1
    walk1
    walk1
    walk1
    walk1
    walk1
    walk1
    walk1
    walk1
    walk1
    walk1
    refine slice_list3 (lo := some (0 + (i : Int))) (hi := none) (st := some 13) F N (let ⟨o, e, r⟩ := hl; ⟨o, F.keep _ _ e, r⟩) (.int _ _) .none (.int _ _) (by decide) ?_ (hsz := by rw [List.size_toArray, hI.length]; exact Nat.le_trans hlen (by decide))
    intro h₃ F N
    have hI3 := hI.pick (some (0 + (i : Int))) none (some 13)
    walk1
    refine LSm.sum_ints F N hh (News.isList N (.head _)) hI3 ?_
    intro h₄ tk₄ t₄ F N
    walk1
    walk1
    refine ⟨X.keeps F.keep, wpAny_call (lawver_spec G F.keep (by omega) (by omega) hh ?_)⟩
    intro h₅ tk₅ r t1 t2 hst hr0 hr
    obtain ⟨N5, hne⟩ := news_add F N hst hr0 hr
    have hoff2 : offCells L ((r, lst [.str (lvUp (lawOwn.getD i 0 + (pickNums ns (some (0 + (i : Int))) none (some 13)).sum) 3).text t1, .int (lvUp (lawOwn.getD i 0 + (pickNums ns (some (0 + (i : Int))) none (some 13)).sum) 3).mark t2] 0) :: imm) := by
      intro p hp
      rcases List.mem_cons.mp hp with rfl | hp
      · have q := fun (p : Addr × Obj) hp => Ne.symm (hne p hp)
        exact ⟨q (L + 1, o1) (by walk_at "me"), q (L + 2, o2) (by walk_at "me"), q (L + 3, o3) (by walk_at "me"), q (L + 4, o4) (by walk_at "me"), q (L + 5, o5) (by walk_at "me")⟩
      · exact hoff p hp
    refine ⟨h₅, tk₅, (lo, lst os 0) :: (L + 1, o1) :: (L + 2, o2) :: (L + 3, o3) :: (L + 4, o4) :: (L + 5, o5) :: _ :: imm, rfl, F.keeps hst, ?_, ?_, _ :: imm, nums ++ [_], rfl, hoff2, by simp [hnl], hver.snoc ⟨t1, t2, rfl⟩⟩
    · intro p hp
      refine N5 p ?_
      revert p; walk_at "sub"
    · intro p hp
      have : p ∈ (lo, lst os 0) :: (L + 1, o1) :: (L + 2, o2) :: (L + 3, o3) :: (L + 4, o4) :: (L + 5, o5) :: imm ∨ p.1 = r := by
        revert p; walk_at "sub"
      rcases this with h | h
      · exact off p h
      · rw [h]
        exact ⟨Ne.symm (hne (h₂.objs.size, oI) (by walk_at "me")), Ne.symm (hne (C, oC) (by walk_at "me")), Ne.symm (hne (D, lst ys nD) (by walk_at "me"))⟩
  · rintro D C oC m' ys nD h tk news ⟨imm, nums, rfl, hoff, hnl, hver⟩ hoC F N off hCD
    refine post_local hoC F N off hCD rfl (by rfl) (by rfl) ?_
    intro h' tk' F N off'
    refine k h' _ D ys nD imm nums F (fun p hp => N p ?_) hoff ?_ hnl hver
    · rcases List.mem_cons.mp hp with rfl | hp
      · exact .head _
      · exact .tail _ (.tail _ hp)
    · have q := fun (p : Addr × Obj) (hp : p ∈ (lo, lst os 0) :: (L + 1, o1) :: (L + 2, o2) :: (L + 3, o3) :: (L + 4, o4) :: (L + 5, o5) :: imm) => Ne.symm (off' p hp)
      exact ⟨q (L + 1, o1) (by walk_at "me"), q (L + 2, o2) (by walk_at "me"), q (L + 3, o3) (by walk_at "me"), q (L + 4, o4) (by walk_at "me"), q (L + 5, o5) (by walk_at "me")⟩
end Mine
end
section
open PySem PySem.W PyProof.Rows PySem.Calls
open LCg (NsObj)
set_option Elab.async false
set_option maxRecDepth 100000
set_option maxHeartbeats 8000000
namespace Mine
local macro_rules | `(tactic| walk_at "me") => `(tactic| repeat (first | exact memH | refine memT ?_))
local macro_rules | `(tactic| walk_at "sub") => `(tactic| repeat (first | exact fun _ h => h | (refine subC ?_ ?_; focus (walk_at "me"; done)) | (refine allC ?_ ?_; focus (first | (refine Or.inl ?_; walk_at "me"; done) | exact Or.inr rfl | exact Or.inr (Or.inl rfl) | exact Or.inr (Or.inr rfl))) | refine orI ?_ | refine subT ?_))
local macro_rules | `(tactic| walk_at "wk") => `(tactic| repeat ((try dsimp only); (fail_if_success (with_reducible show wpAny _ _ (exec (Stmt.While _ _ _ _) _) _ _ _)); (fail_if_success (with_reducible show wpAny _ _ (exec (Stmt.For _ _ _ _ _) _) _ _ _)); walk1))
theorem fillL2 : PySem.Challenge.rw_mq0156_01 = PySem.Challenge.rw_mq0156_01 ∧ Mine.hd.heap_39 = Mine.hd.heap_39 := by k_fill; exact ⟨rfl, rfl⟩
/-- what the text of a version must be -/
def TextOk (x : Str) (d : List PyData) : Prop := x.cps.size < 2 ^ 20 ∧ d.length ≤ 1000 ∧ ∃ kt : Str → List PyData, (∀ y ∈ splF x.cps (x.cps.size + 1) 0, Tok3 y (kt y)) ∧ (splF x.cps (x.cps.size + 1) 0).flatMap kt = d
def KeyIn (keyD : Int → List PyData) (nums : List Int) (n : Nat) (ys : List Value) (imm : List (Addr × Obj)) : Prop := ys.length = n ∧ ∀ j, j < n → ∃ r vs ep, ys[j]? = some (.ref r) ∧ (r, lst vs ep) ∈ imm ∧ Atoms vs (keyD (nums.getD j 0))
theorem KeyIn.snoc {keyD : Int → List PyData} {nums : List Int} {n : Nat} {ys : List Value} {imm : List (Addr × Obj)} {r : Addr} {vs : List Value} {ep : Nat} (h : KeyIn keyD nums n ys imm) (ha : Atoms vs (keyD (nums.getD n 0))) : KeyIn keyD nums (n + 1) (ys ++ [.ref r]) ((r, lst vs ep) :: imm) := by
  refine ⟨by simp [h.1], fun j hj => ?_⟩
  by_cases e : j < n
  · obtain ⟨r', vs', ep', h1, h2, h3⟩ := h.2 j e
    exact ⟨r', vs', ep', by rw [List.getElem?_append_left (by rw [h.1]; exact e)]; exact h1, .tail _ h2, h3⟩
  · obtain rfl : j = n := by omega
    exact ⟨r, vs, ep, by rw [← h.1]; simp, .head _, ha⟩
theorem news_hide {g h h' : Heap} {L : Addr} {news : List (Addr × Obj)} (N : News g L h news) (k : (hideAll h [L]).StaysIn h') : News g L h' news := fun p hp => ⟨k _ _ (hideAll_get _ (N p hp).1 (by simpa using (N p hp).2.1)), (N p hp).2⟩
abbrev cells5 (L : Addr) (o1 o2 o3 o4 o5 : Obj) (imm : List (Addr × Obj)) : List (Addr × Obj) := (L + 1, o1) :: (L + 2, o2) :: (L + 3, o3) :: (L + 4, o4) :: (L + 5, o5) :: imm
theorem mem_cells {L : Addr} {o1 o2 o3 o4 o5 : Obj} {imm : List (Addr × Obj)} {p : Addr × Obj} (h : p ∈ imm) : p ∈ cells5 L o1 o2 o3 o4 o5 imm := .tail _ (.tail _ (.tail _ (.tail _ (.tail _ h))))
theorem store_cell {M : Model} {A : Around} {E : Value → Shared → Prop} {s : Shared} {env : Env} {t : Str} {v : Value} {Q : Unit → Shared → Prop} {g : Heap} {L c : Addr} {m : Str → Option Value} {o : Obj} {v₀ : Option Value} (pre post : List (Addr × Obj))
    (F : Fr g L s.heap m) (N : News g L s.heap (pre ++ (c, o) :: post)) (hpre : ∀ p ∈ pre, p.1 ≠ c) (hpost : ∀ p ∈ post, p.1 ≠ c) (hd : o.data = .cell v₀)
    (hk : env.scope.kind = .function) (hl : env.kindOf t = some .cell) (hc : env.cells.lookup t = some c)
    (k : ∀ h' o', Fr g L h' m → News g L h' (pre ++ (c, o') :: post) → o'.data = .cell (some v) → Q () { s with heap := h' }) : wpAny M A (storeName env t v) Q E s := by
  have zc := N (c, o) (by simp)
  refine wpAny_storeName_cell hk hl hc ⟨o, zc.1, hd⟩ fun h₂ hv hs₂ => ?_
  obtain ⟨o', ho', hd'⟩ := hv
  refine k h₂ o' (F.change hs₂ zc.2.1 zc.2.2) ?_ hd'
  intro p hp
  rcases List.mem_append.mp hp with hp | hp
  · have z := N p (List.mem_append_left _ hp); exact ⟨hs₂.extBut _ _ (hpre p hp) z.1, z.2⟩
  · rcases List.mem_cons.mp hp with rfl | hp
    · exact ⟨ho', zc.2⟩
    · have z := N p (List.mem_append_right _ (.tail _ hp)); exact ⟨hs₂.extBut _ _ (hpost p hp) z.1, z.2⟩
theorem news_add2 {g h h' : Heap} {L r : Addr} {o : Obj} {m : Str → Option Value} {news : List (Addr × Obj)} (F : Fr g L h m) (N : News g L h news) (N' : News g L h' news) (hr0 : h.get? r = none) (hr : h'.get? r = some o) : News g L h' ((r, o) :: news) ∧ ∀ p ∈ news, p.1 ≠ r := by
  have hrL : r ≠ L := fun q => by obtain ⟨o, _, _, e, _⟩ := id F.ns; rw [← q, hr0] at e; cases e
  have hrg : g.get? r = none := by
    cases e : g.get? r with
    | none => rfl
    | some o => have := F.keep _ _ e; rw [hr0] at this; cases this
  refine ⟨fun p hp => ?_, fun p hp q => by have := (N p hp).1; rw [q, hr0] at this; cases this⟩
  rcases List.mem_cons.mp hp with rfl | hp
  · exact ⟨hr, hrL, hrg⟩
  · exact N' p hp
theorem off_cells {L r : Addr} {o1 o2 o3 o4 o5 : Obj} {imm : List (Addr × Obj)} {o : Obj} (h : ∀ p ∈ cells5 L o1 o2 o3 o4 o5 imm, p.1 ≠ r) (ho : offCells L imm) : offCells L ((r, o) :: imm) := by
  intro p hp
  rcases List.mem_cons.mp hp with rfl | hp
  · have q := fun (p : Addr × Obj) (hp : p ∈ cells5 L o1 o2 o3 o4 o5 imm) => Ne.symm (h p hp)
    exact ⟨q (L + 1, o1) (by walk_at "me"), q (L + 2, o2) (by walk_at "me"), q (L + 3, o3) (by walk_at "me"), q (L + 4, o4) (by walk_at "me"), q (L + 5, o5) (by walk_at "me")⟩
  · exact ho p hp
theorem add_ne {L : Nat} {i j : Nat} (h : i ≠ j) : L + i ≠ L + j := fun q => h (Nat.add_left_cancel q)
theorem srcAt_of {g : Heap} {lv : Addr} {ys : List Value} {nD : Nat} {nw : List (Addr × Obj)} (h : (lv, lst ys nD) ∈ nw) : LCg.SrcAt g lv ys.toArray nw := .inr ⟨_, h, rfl, _, rfl⟩
theorem st_keys {prog : Program} {w : World} {A : Around} {E : Value → Shared → Prop} {s : Shared} {g : Heap} {L a lv : Addr} {cd : Value} {sc : Scope} {st : Stmt} {Q : Flow → Shared → Prop} {o1 o2 o3 o4 o5 : Obj} {ys : List Value} {nD : Nat} {nums : List Int} {imm : List (Addr × Obj)} {keyD : Int → List PyData}
    (hsc : lawScope = some sc) (hst : lawStmt 2 = some st) (G : Gd w g) (hh : A.handled = none) (hfr : A.frames = some [lenv sc L a cd]) (hu : A.units + 1000 < cLine) (hroom : A.depth + 10 < recursionLimit) (hT : ∀ num, TextOk (lvUp num 3).text (keyD num))
    (F : Fr g L s.heap (fun y => if y = Str.ofString "versions" then some (.ref lv) else none)) (N : News g L s.heap ((lv, lst ys nD) :: cells5 L o1 o2 o3 o4 o5 imm)) (hoff : offCells L imm) (hlv : lv ≠ L + 1 ∧ lv ≠ L + 2 ∧ lv ≠ L + 3 ∧ lv ≠ L + 4 ∧ lv ≠ L + 5)
    (d3 : o3.data = .cell none) (hn : nums.length = 13) (hV : VerIn nums ys imm)
    (k : ∀ h tk lk ks nK o3 imm2, Fr g L h (fun y => if y = Str.ofString "versions" then some (.ref lv) else none) → News g L h ((lk, lst ks nK) :: (lv, lst ys nD) :: cells5 L o1 o2 o3 o4 o5 (imm2 ++ imm)) → offCells L (imm2 ++ imm) → (lk ≠ L + 1 ∧ lk ≠ L + 2 ∧ lk ≠ L + 3 ∧ lk ≠ L + 4 ∧ lk ≠ L + 5) → o3.data = .cell (some (.ref lk)) → KeyIn keyD nums 13 ks (imm2 ++ imm) → Q .next { s with heap := h, toks := tk }) :
    WpC (model prog w) A (exec st (lenv sc L a cd)) Q E s := by
  obtain rfl : _ = st := Option.some.inj (show some _ = some st from hst)
  obtain rfl : _ = sc := Option.some.inj (show some _ = some sc from hsc)
  obtain ⟨mean, mg, mb, T⟩ := id G.T
  have X := G.K
  refine ⟨wpC_Assign (wpC_evalComp (by with_unfolding_all rfl) rfl (by decide) ?_)⟩
  walk_at "wk"
  refine wpAny_pyIter_list (News.isList N (.head _)) ?_
  have hys : ys.length = 13 := by rw [hV.1, hn]
  have hlvs : lv < s.heap.objs.size := Heap.lt_size (N _ (.head _)).1
  have N1 := N.grown (h' := s.heap.push { cls := .type "list_iterator", data := .fields #[.ref lv, .int 0 0] }) fun _ _ e => Heap.get?_push_of_some _ e
  have F1 := F.keeps (h' := s.heap.push { cls := .type "list_iterator", data := .fields #[.ref lv, .int 0 0] }) fun _ _ e => Heap.get?_push_of_some _ e
  refine comp_blockC (S := LCg.SrcAt g lv ys.toArray) (J := fun i ks news => ∃ imm2, news = (lv, lst ys nD) :: cells5 L o1 o2 o3 o4 o5 (imm2 ++ imm) ∧ offCells L (imm2 ++ imm) ∧ KeyIn keyD nums i ks (imm2 ++ imm))
    (Walks.list hh s.heap.objs.size lv (Nat.ne_of_lt hlvs) ys.toArray) (by rw [List.size_toArray, hys]; decide) (fun i h st => by obtain ⟨o, e, _⟩ := st.1; exact ⟨o, e⟩) LCg.list_st (fun i ks nw ⟨imm2, e, _⟩ => srcAt_of (nD := nD) (e ▸ .head _)) (by decide) rfl (by rfl) ?_ ?_ F1 N1 (Nat.ne_of_lt F.ns.lt) (next_is_new F) (fun p hp => Nat.ne_of_lt (Heap.lt_size (N p hp).1)) ?_ ?_ ?_
  · exact ⟨⟨_, Heap.get?_push_size _ rfl, rfl, rfl⟩, News.isList N1 (.head _)⟩
  · intro b hb
    show b < (s.heap.push _).objs.size
    rw [Heap.size_push]
    rcases List.mem_cons.mp hb with rfl | hb
    · exact Nat.lt_succ_self _
    · rw [List.mem_singleton.mp hb]; exact Nat.lt_succ_of_lt hlvs
  · exact ⟨[], rfl, hoff, rfl, fun j hj => absurd hj (Nat.not_lt_zero _)⟩
  · rintro i v ks nK oI C oC D m₂ news h tk E' hi hv ⟨imm2, rfl, hoff2, hK⟩ hoC hm₂ F N off hIC hID hCD
    refine wpAny_tests_nil ?_
    rw [if_pos rfl]
    rw [List.size_toArray, hys] at hi
    obtain ⟨r, o, e1, e2, t1, t2, rfl⟩ := hV.2 i (by omega)
    have : v = .ref r := by simpa [e1] using hv.symm
    subst this
    have Nr := N (r, lst [.str (lvUp (nums.getD i 0) 3).text t1, .int (lvUp (nums.getD i 0) 3).mark t2] 0) (.tail _ (.tail _ (.tail _ (.tail _ (mem_cells (List.mem_append_right _ e2))))))
    have N3 : News g L h ((r, lst [.str (lvUp (nums.getD i 0) 3).text t1, .int (lvUp (nums.getD i 0) 3).mark t2] 0) :: (s.heap.objs.size, oI) :: (C, oC) :: (D, lst ks nK) :: (lv, lst ys nD) :: cells5 L o1 o2 o3 o4 o5 (imm2 ++ imm)) := fun p hp => by
      rcases List.mem_cons.mp hp with rfl | hp
      · exact Nr
      · exact N p hp
    clear N
    refine wpC_CallName ?_
    walk1
    refine wpC_callWith_fn ?_
    walk_at "wk"
    unfold Hold
    refine ⟨⟨_, _, F.keep _ _ (X 44 _ (by with_unfolding_all rfl)), rfl⟩, ?_⟩
    obtain ⟨oL, esL, epL, hoL, hdL, hkL⟩ := id F.ns
    obtain ⟨hx, hkl, kt, hts, hfm⟩ := hT (nums.getD i 0)
    refine wpC_call (cmpver_spec (L0 := L) (o0 := oL) G F.keep (Heap.get?_none_of_le F.above) hoL (fun vs q => by rw [hdL] at q; cases q) hfr rfl (by intro q; cases q) hx hts (by rw [hfm]; exact hkl) (by omega) (by omega) hh ?_)
    intro h' tk' r' ep vs sl k1 k2 k3 k4 k5 k6
    rw [hfm] at k6
    have F' := fr_slots F hoL k3 k1
    obtain ⟨N5, hne⟩ := news_add2 F N3 (news_hide N3 k2) k4 k5
    refine ⟨h', tk', (lv, lst ys nD) :: cells5 L o1 o2 o3 o4 o5 ((r', lst vs ep) :: (imm2 ++ imm)), rfl, F', fun p hp => N5 p ?_, ?_, (r', lst vs ep) :: imm2, rfl, ?_, hK.snoc k6⟩
    · revert p; walk_at "sub"
    · intro p hp
      have : p ∈ (lv, lst ys nD) :: cells5 L o1 o2 o3 o4 o5 (imm2 ++ imm) ∨ p.1 = r' := by
        revert p; walk_at "sub"
      rcases this with h | h
      · exact off p h
      · rw [h]
        exact ⟨Ne.symm (hne (s.heap.objs.size, oI) (by walk_at "me")), Ne.symm (hne (C, oC) (by walk_at "me")), Ne.symm (hne (D, lst ks nK) (by walk_at "me"))⟩
    · exact off_cells (fun p hp => hne p (.tail _ (.tail _ (.tail _ (.tail _ (.tail _ hp)))))) hoff2
  · rintro D C oC m' ks nK h tk news ⟨imm2, rfl, hoff2, hK⟩ hoC F N off hCD
    refine post_eval hoC F N off hCD ?_
    intro h' F N off'
    rw [List.size_toArray, hys] at hK
    refine store_cell [(D, lst ks nK), (lv, lst ys nD), (L + 1, o1), (L + 2, o2)] ((L + 4, o4) :: (L + 5, o5) :: (imm2 ++ imm)) F N ?_ ?_ d3 rfl (by rfl) (by rfl) ?_
    · intro p hp
      revert p
      refine allC ?_ (allC ?_ (allC ?_ (allC ?_ allN)))
      · exact Ne.symm (off' (L + 3, o3) (by walk_at "me"))
      · exact hlv.2.2.1
      · exact add_ne (by decide)
      · exact add_ne (by decide)
    · intro p hp
      rcases List.mem_cons.mp hp with rfl | hp
      · exact add_ne (by decide)
      · rcases List.mem_cons.mp hp with rfl | hp
        · exact add_ne (by decide)
        · exact (hoff2 p hp).2.2.1
    · intro h₂ o3' F N d3'
      refine k h₂ _ D ks nK o3' imm2 F N hoff2 ?_ d3' hK
      have q := fun (p : Addr × Obj) (hp : p ∈ (lv, lst ys nD) :: cells5 L o1 o2 o3 o4 o5 (imm2 ++ imm)) => Ne.symm (off' p hp)
      exact ⟨q (L + 1, o1) (by walk_at "me"), q (L + 2, o2) (by walk_at "me"), q (L + 3, o3) (by walk_at "me"), q (L + 4, o4) (by walk_at "me"), q (L + 5, o5) (by walk_at "me")⟩
end Mine
end
section
open PySem PySem.W PyProof.Rows PySem.Calls
open Sem (wp)
open LCg (NsObj)
set_option Elab.async false
set_option maxRecDepth 100000
set_option maxHeartbeats 4000000
namespace Mine
section
variable {prog : Program} {w : World} {A : Around} {E : Value → Shared → Prop} {s : Shared} {R : Result → Shared → Prop} {env : Env}
theorem comp_blockA {elt iter : Expr} {x : Str} {px : Pos} {ifs : List Expr} {scope : Scope} {cl : List (Str × Addr)} {pos : Pos} {I : Addr} {fp : List Addr} {n : Nat} {P : Nat → Value → Prop} {St : Nat → Heap → Prop} {S : List (Addr × Obj) → Prop}
    {g : Heap} {L : Addr} {m : Str → Option Value} {news : List (Addr × Obj)} {RR : Value → Addr → Result → Shared → Prop} (J : Nat → List Value → List (Addr × Obj) → Prop)
    (W : Walks prog w A I fp [I] n P St) (hsz : n ≤ sizeLine) (hIo : ∀ i h, St i h → ∃ o, h.get? I = some o)
    (hSt : ∀ i h h' o nw, St i h → h.get? I = some o → h'.get? I = some o → (∀ b o, g.get? b = some o → h'.get? b = some o) → News g L h' nw → S nw → St i h') (hJS : ∀ i ys nw, J i ys nw → S nw)
    (hcell : ∀ y ∈ scope.names, y.2 ≠ .cell) (hkind : scope.kind = .function) (hx : scope.names.lookup x = some .local) (hst : St 0 s.heap) (hfp : ∀ b ∈ fp, b < s.heap.objs.size)
    (F : Fr g L s.heap m) (N : News g L s.heap news) (hIL : L ≠ I) (hI₀ : g.get? I = none) (off : ∀ p ∈ news, p.1 ≠ I) (hJ : J 0 [] news)
    (turn : ∀ i v ys nD oI C oC D m₂ news h tk (E' : Value → Shared → Prop), i < n → P i v → J i ys news → NsObj oC m₂ → m₂ x = some v → Fr g L h m → News g L h ((I, oI) :: (C, oC) :: (D, lst ys nD) :: news) → Off3 I C D news → I ≠ C → I ≠ D → C ≠ D →
      wpAny (model prog w) A (forIn ifs true fun c r => if r = true then do let ok ← isTrue c (compEnvC scope cl C env) (eval c (compEnvC scope cl C env)); pure (ForInStep.yield ok) else pure (ForInStep.yield r)) (fun ok s₃ =>
        if ok = true then wpAny (model prog w) A (eval elt (compEnvC scope cl C env)) (fun y => CEnd g L m I C D oI oC (lst ys nD) (J (i + 1) (ys ++ [y])) { s with heap := h, toks := tk }) E' s₃
        else CEnd g L m I C D oI oC (lst ys nD) (J (i + 1) ys) { s with heap := h, toks := tk } s₃) E' { s with heap := h, toks := tk })
    (done : ∀ D C oC m' ys nD h tk news, J n ys news → NsObj oC m' → Fr g L h m → News g L h ((C, oC) :: (D, lst ys nD) :: news) → (∀ p ∈ news, p.1 ≠ C ∧ p.1 ≠ D) → C ≠ D → RR (.ref D) C (.ok .next) { s with heap := h, toks := tk }) :
    wpAny (model prog w) A (newList []) (fun acc s₃ => wpAny (model prog w) A (newFunctionEnv scope env.globals cl [] env.qual none .none (some env)) (fun cenv s₄ =>
      codeAny (model prog w) A (.compStart (.ListComp elt [⟨.Name x px, iter, ifs, 0⟩] scope pos) 0 (.ref I) acc { cenv with scope := relabel scope env }) (RR acc cenv.locals) s₄) E s₃) E s := by
  refine wpAny_newObj_type (wpAny_newFunctionEnv hcell (by intro y hy; simp at hy) (fun h₁ hns₁ hsb₁ => ?_) hkind)
  dsimp only at hns₁ hsb₁ ⊢
  generalize hH : s.heap.push { cls := .type "list", dict := none, data := .seq ([] : List Value).toArray } = H at hns₁ hsb₁ ⊢
  generalize hDd : s.heap.objs.size = D at *
  generalize hCc : H.objs.size = C at *
  have hC : C = D + 1 := by rw [← hCc, ← hH, Heap.size_push, hDd]
  have hCD : C ≠ D := by rw [hC]; exact Nat.succ_ne_self _
  have below : ∀ b, b < D → b ≠ C ∧ b ≠ D := fun b hb => ⟨by rw [hC]; exact Nat.ne_of_lt (Nat.lt_succ_of_lt hb), Nat.ne_of_lt hb⟩
  have inH : ∀ b o, s.heap.get? b = some o → H.get? b = some o := fun b o e => by rw [← hH]; exact Heap.get?_push_of_some _ e
  have lts : ∀ {b o}, s.heap.get? b = some o → b < D := fun e => hDd ▸ Heap.lt_size e
  have old : ∀ b o, s.heap.get? b = some o → h₁.get? b = some o := fun b o e =>
    hsb₁.extBut b o (below b (lts e)).1 (Heap.get?_push_of_some _ (inH b o e))
  have fresh₀ : ∀ a, D ≤ a → g.get? a = none := fun a ha => by
    cases e : g.get? a with
    | none => rfl
    | some o' => exact absurd (lts (F.keep a o' e)) (Nat.not_lt.mpr ha)
  have hD₀ : g.get? D = none := fresh₀ _ (Nat.le_refl _)
  have hC₀ : g.get? C = none := fresh₀ _ (by rw [hC]; exact Nat.le_succ _)
  have hLlt : L < D := hDd ▸ F.ns.lt
  have hIlt : I < D := hfp I (W.sub I (List.mem_singleton.mpr rfl))
  have hDf : D ∉ fp := fun hm => Nat.lt_irrefl _ (hfp _ hm)
  have hCf : C ∉ fp := fun hm => by have := hfp _ hm; rw [hC] at this; exact Nat.lt_irrefl _ (Nat.lt_of_succ_lt this)
  have hacc : h₁.get? D = some (lst [] 0) := hsb₁.extBut _ _ (Ne.symm hCD) (Heap.get?_push_of_some _ (by rw [← hH, ← hDd]; exact Heap.get?_push_size _ rfl))
  have hst₁ : St 0 h₁ := W.frame _ _ _ hst fun b _ o e => old b o e
  have offN : Off3 I C D news := fun p hp => ⟨off p hp, below _ (lts (N p hp).1)⟩
  have loop : ∀ s₃ : Shared, s₃ = { s with heap := h₁, toks := s.toks + ([] : List (Str × Value)).length } →
      codeAny (model prog w) A (.compLoop (.ListComp elt [⟨.Name x px, iter, ifs, 0⟩] scope pos) 0 (.ref I) (.ref D) (compEnvC scope cl C env)) (RR (.ref D) C) s₃ := by
    rintro s₃ rfl
    refine codeAny_compLoop_tests
      (fun k s' => ∃ h' tk i ys nD oC m' news', s' = { s with heap := h', toks := tk } ∧ i ≤ n ∧ k = n + 1 - i ∧ ys.length ≤ i ∧ St i h' ∧ NsObj oC m' ∧ Fr g L h' m ∧
        News g L h' ((C, oC) :: (D, lst ys nD) :: news') ∧ Off3 I C D news' ∧ J i ys news') ?_ (n + 1) ?_
    · rintro k s' ⟨h', tk, i, ys, nD, oC, m', news', rfl, hi, rfl, hyl, hst', hn', F', N', off', hJ'⟩
      have zC := N' (C, oC) (.head _)
      have zD := N' (D, lst ys nD) (.tail _ (.head _))
      have N0 : News g L h' news' := fun p hp => N' p (.tail _ (.tail _ hp))
      by_cases hlt : i < n
      · refine W.item i _ _ _ hlt hst' fun v h₂ tk₂ hPv hst₂ hk₂ => ?_
        have hk : ∀ b o, b ≠ I → h'.get? b = some o → h₂.get? b = some o := fun b o q e => hk₂ b o (by simpa using q) e
        have hnC : h₂.Ns C m' := (hn'.ns zC.1).at' fun o e => hk C o (Ne.symm (below I hIlt).1) e
        refine wpAny_assign_Name (wpAny_storeName_local (env := compEnvC scope cl C env) (lookup_relabel_local hx) hnC (fun h₃ hn₃ hs₃ => ?_) (by simp [compEnvC, relabel, hkind]))
        have hst₃ : St (i + 1) h₃ := W.frame _ _ _ hst₂ fun b hb o e => hs₃.extBut b o (fun q => hCf (by have q' : b = C := q; rw [← q']; exact hb)) e
        obtain ⟨oI, heI⟩ := hIo _ _ hst₃
        obtain ⟨oC₃, heC, hoC⟩ := LCg.ns_obj hn₃
        have F₃ : Fr g L h₃ m := by
          refine Fr.change (L := L) ⟨F'.ns.at' fun o e => hk L o hIL e, fun b o e => hk b o (fun q => by rw [q, hI₀] at e; cases e) (F'.keep b o e), F'.above⟩ hs₃ ?_ hC₀
          exact (Ne.symm (below L hLlt).1)
        have up : ∀ b o, b ≠ I → b ≠ C → h'.get? b = some o → h₃.get? b = some o := fun b o q q2 e => hs₃.extBut b o q2 (hk b o q e)
        have N₃ : News g L h₃ ((I, oI) :: (C, oC₃) :: (D, lst ys nD) :: news') := by
          intro p hp
          rcases List.mem_cons.mp hp with rfl | hp
          · exact ⟨heI, Ne.symm hIL, hI₀⟩
          · rcases List.mem_cons.mp hp with rfl | hp
            · exact ⟨heC, zC.2⟩
            · rcases List.mem_cons.mp hp with rfl | hp
              · exact ⟨up _ _ (Ne.symm (below I hIlt).2) (Ne.symm hCD) zD.1, zD.2⟩
              · exact ⟨up _ _ (off' p hp).1 (off' p hp).2.1 (N0 p hp).1, (N0 p hp).2⟩
        refine wpAny_mono (turn i v ys nD oI C oC₃ D _ news' h₃ _ _ hlt hPv hJ' hoC (by simp) F₃ N₃ off' (below I hIlt).1 (below I hIlt).2 hCD) (fun ok s₄ h₄ => ?_) fun _ _ e => e
        have fin : ∀ (h₄ : Heap) (news₄ : List (Addr × Obj)), Fr g L h₄ m → News g L h₄ ((I, oI) :: (C, oC₃) :: (D, lst ys nD) :: news₄) → S news₄ → St (i + 1) h₄ := fun h₄ news₄ F₄ N₄ hS₄ =>
          hSt _ _ _ _ _ hst₃ heI (N₄ (I, oI) (.head _)).1 F₄.keep (fun p hp => N₄ p (.tail _ (.tail _ (.tail _ hp)))) hS₄
        split at h₄
        · rename_i hok
          rw [if_pos hok]
          refine wpAny_mono h₄ (fun y s₅ h₅ => ?_) fun _ _ e => e
          obtain ⟨h₄, tk₄, news₄, rfl, F₄, N₄, off₄, hJ₄⟩ := h₅
          have hst₄ := fin h₄ news₄ F₄ N₄ (hJS _ _ _ hJ₄)
          have wD := N₄ (D, lst ys nD) (.tail _ (.tail _ (.head _)))
          refine append_at (hsz := by show ys.toArray.size ≤ sizeLine; rw [List.size_toArray]; exact Nat.le_trans hyl (Nat.le_trans hi hsz)) wD.1 fun h₅ hs₅ hD₅ => ?_
          refine ⟨n + 1 - (i + 1), by omega, h₅, tk₄, i + 1, ys ++ [y], nD + 1, oC₃, _, news₄, rfl, hlt, rfl, by rw [List.length_append, List.length_singleton]; exact Nat.succ_le_succ hyl,
            W.frame _ _ _ hst₄ fun b hb o e => hs₅.extBut b o (fun q => hDf (q ▸ hb)) e, hoC, F₄.change hs₅ wD.2.1 wD.2.2, ?_, off₄, hJ₄⟩
          intro p hp
          rcases List.mem_cons.mp hp with rfl | hp
          · have z := N₄ (C, oC₃) (.tail _ (.head _)); exact ⟨hs₅.extBut _ _ hCD z.1, z.2⟩
          · rcases List.mem_cons.mp hp with rfl | hp
            · exact ⟨by rw [hD₅]; simp [lst], wD.2⟩
            · have z := N₄ p (.tail _ (.tail _ (.tail _ hp))); exact ⟨hs₅.extBut _ _ (off₄ p hp).2.2 z.1, z.2⟩
        · rename_i hok
          rw [if_neg hok]
          obtain ⟨h₄, tk₄, news₄, rfl, F₄, N₄, off₄, hJ₄⟩ := h₄
          exact ⟨n + 1 - (i + 1), by omega, h₄, tk₄, i + 1, ys, nD, oC₃, _, news₄, rfl, hlt, rfl, Nat.le_succ_of_le hyl, fin h₄ news₄ F₄ N₄ (hJS _ _ _ hJ₄), hoC, F₄, fun p hp => N₄ p (.tail _ hp), off₄, hJ₄⟩
      · obtain rfl : i = n := Nat.le_antisymm hi (Nat.not_lt.mp hlt)
        refine W.done _ _ _ hst' fun h₂ tk₂ hk₂ => ?_
        have hk : ∀ b o, b ≠ I → h'.get? b = some o → h₂.get? b = some o := fun b o q e => hk₂ b o (by simpa using q) e
        refine done D C oC m' ys nD h₂ tk₂ news' hJ' hn' ⟨F'.ns.at' fun o e => hk L o hIL e, fun b o e => hk b o (fun q => by rw [q, hI₀] at e; cases e) (F'.keep b o e), F'.above⟩ ?_ (fun p hp => (off' p hp).2) hCD
        intro p hp
        refine ⟨hk _ _ ?_ (N' p hp).1, (N' p hp).2⟩
        rcases List.mem_cons.mp hp with rfl | hp
        · exact Ne.symm (below I hIlt).1
        · rcases List.mem_cons.mp hp with rfl | hp
          · exact Ne.symm (below I hIlt).2
          · exact (off' p hp).1
    · obtain ⟨oC, heC, hoC⟩ := LCg.ns_obj hns₁
      refine ⟨h₁, _, 0, [], 0, oC, _, news, rfl, Nat.zero_le _, rfl, Nat.le_refl _, hst₁, hoC, F.keeps old, ?_, offN, hJ⟩
      intro p hp
      rcases List.mem_cons.mp hp with rfl | hp
      · exact ⟨heC, Ne.symm (below L hLlt).1, hC₀⟩
      · rcases List.mem_cons.mp hp with rfl | hp
        · exact ⟨hacc, Ne.symm (below L hLlt).2, hD₀⟩
        · exact ⟨old _ _ (N p hp).1, (N p hp).2⟩
  exact codeAny_compStart_list (loop _ rfl) (W.self 0 _ _ _ hst₁ (loop _ rfl))

theorem wpAny_evalComp {elt target iter : Expr} {ifs : List Expr} {scope : Scope} {cl : List (Str × Addr)} {pos : Pos} {Q : Value → Shared → Prop}
    (hclos : closureFor scope env = pure cl) (hkind : scope.kind = .function) (hnames : ∀ y ∈ scope.names, y.2 = .local → scope.names.lookup y.1 = some .local)
    (h : wpAny (model prog w) A (eval iter env) (fun x s₁ => wpAny (model prog w) A (pyIter x) (fun it s₂ => wpAny (model prog w) A (newList []) (fun acc s₃ => wpAny (model prog w) A (newFunctionEnv scope env.globals cl [] env.qual none .none (some env)) (fun cenv s₄ =>
      codeAny (model prog w) A (.compStart (.ListComp elt [⟨target, iter, ifs, 0⟩] scope pos) 0 it acc { cenv with scope := relabel scope env }) (compPost (model prog w) A E none Q acc cenv.locals) s₄) E s₃) E s₂) E s₁) E s)
    (hs : ∀ x, foldedSetIterable iter env x = pure x := by intro _; rfl) :
    wpAny (model prog w) A (eval (.ListComp elt [⟨target, iter, ifs, 0⟩] scope pos) env) Q E s := by
  rw [eval_ListComp]
  exact wpAny_comprehension_free (use := none) rfl hs hclos hkind hnames h

end
end Mine
end
section
open PySem PySem.W PyProof.Rows PySem.Calls
open LCg (NsObj)
set_option Elab.async false
set_option maxRecDepth 100000
set_option maxHeartbeats 8000000
namespace Mine
local macro_rules | `(tactic| walk_at "me") => `(tactic| repeat (first | exact memH | refine memT ?_))
local macro_rules | `(tactic| walk_at "sub") => `(tactic| repeat (first | exact fun _ h => h | (refine subC ?_ ?_; focus (walk_at "me"; done)) | (refine allC ?_ ?_; focus (first | (refine Or.inl ?_; walk_at "me"; done) | exact Or.inr rfl | exact Or.inr (Or.inl rfl) | exact Or.inr (Or.inr rfl))) | refine orI ?_ | refine subT ?_))
local macro_rules | `(tactic| walk_at "wk") => `(tactic| repeat ((try dsimp only); (fail_if_success (with_reducible show wpAny _ _ (exec (Stmt.While _ _ _ _) _) _ _ _)); (fail_if_success (with_reducible show wpAny _ _ (exec (Stmt.For _ _ _ _ _) _) _ _ _)); walk1))
theorem fillL3 : PySem.Challenge.rw_mq0156_01 = PySem.Challenge.rw_mq0156_01 ∧ Mine.hd.heap_39 = Mine.hd.heap_39 := by k_fill; exact ⟨rfl, rfl⟩
def markD (nums : List Int) (j : Nat) : Int := (lvUp (nums.getD j 0) 3).mark
def MarkIn (nums : List Int) (n : Nat) (ms : List Value) : Prop := ms.length = n ∧ ∀ j, j < n → ∃ t, ms[j]? = some (.int (markD nums j) t)
theorem MarkIn.snoc {nums : List Int} {n : Nat} {ms : List Value} {t : Tok} (h : MarkIn nums n ms) : MarkIn nums (n + 1) (ms ++ [.int (markD nums n) t]) := by
  refine ⟨by simp [h.1], fun j hj => ?_⟩
  by_cases e : j < n
  · obtain ⟨t', h1⟩ := h.2 j e
    exact ⟨t', by rw [List.getElem?_append_left (by rw [h.1]; exact e)]; exact h1⟩
  · obtain rfl : j = n := by omega
    exact ⟨t, by rw [← h.1]; simp⟩
theorem st_marks {prog : Program} {w : World} {A : Around} {E : Value → Shared → Prop} {s : Shared} {g : Heap} {L a lv lk : Addr} {cd : Value} {sc : Scope} {st : Stmt} {Q : Flow → Shared → Prop} {o1 o2 o3 o4 o5 : Obj} {ys ks : List Value} {nD nK : Nat} {nums : List Int} {imm : List (Addr × Obj)}
    (hsc : lawScope = some sc) (hst : lawStmt 3 = some st) (G : Gd w g) (hh : A.handled = none) (hu : A.units + 1000 < cLine) (hroom : A.depth + 10 < recursionLimit)
    (F : Fr g L s.heap (fun y => if y = Str.ofString "versions" then some (.ref lv) else none)) (N : News g L s.heap ((lk, lst ks nK) :: (lv, lst ys nD) :: cells5 L o1 o2 o3 o4 o5 imm)) (hoff : offCells L imm) (hlv : lv ≠ L + 1 ∧ lv ≠ L + 2 ∧ lv ≠ L + 3 ∧ lv ≠ L + 4 ∧ lv ≠ L + 5) (hlk : lk ≠ L + 1 ∧ lk ≠ L + 2 ∧ lk ≠ L + 3 ∧ lk ≠ L + 4 ∧ lk ≠ L + 5)
    (d4 : o4.data = .cell none) (hn : nums.length = 13) (hV : VerIn nums ys imm)
    (k : ∀ h tk lm ms nM o4, Fr g L h (fun y => if y = Str.ofString "versions" then some (.ref lv) else none) → News g L h ((lm, lst ms nM) :: (lk, lst ks nK) :: cells5 L o1 o2 o3 o4 o5 imm) → (lm ≠ L + 1 ∧ lm ≠ L + 2 ∧ lm ≠ L + 3 ∧ lm ≠ L + 4 ∧ lm ≠ L + 5) → o4.data = .cell (some (.ref lm)) → MarkIn nums 13 ms → Q .next { s with heap := h, toks := tk }) :
    WpC (model prog w) A (exec st (lenv sc L a cd)) Q E s := by
  obtain rfl : _ = st := Option.some.inj (show some _ = some st from hst)
  obtain rfl : _ = sc := Option.some.inj (show some _ = some sc from hsc)
  obtain ⟨mean, mg, mb, T⟩ := id G.T
  have X := G.K
  refine ⟨wpC_Assign (wpC_evalComp (by with_unfolding_all rfl) rfl (by decide) ?_)⟩
  walk_at "wk"
  refine wpAny_pyIter_list (News.isList N (.tail _ (.head _))) ?_
  have hys : ys.length = 13 := by rw [hV.1, hn]
  have hlvs : lv < s.heap.objs.size := Heap.lt_size (N _ (.tail _ (.head _))).1
  have N1 := N.grown (h' := s.heap.push { cls := .type "list_iterator", data := .fields #[.ref lv, .int 0 0] }) fun _ _ e => Heap.get?_push_of_some _ e
  have F1 := F.keeps (h' := s.heap.push { cls := .type "list_iterator", data := .fields #[.ref lv, .int 0 0] }) fun _ _ e => Heap.get?_push_of_some _ e
  refine comp_blockC (S := LCg.SrcAt g lv ys.toArray) (J := fun i ms news => news = (lk, lst ks nK) :: (lv, lst ys nD) :: cells5 L o1 o2 o3 o4 o5 imm ∧ MarkIn nums i ms)
    (Walks.list hh s.heap.objs.size lv (Nat.ne_of_lt hlvs) ys.toArray) (by rw [List.size_toArray, hys]; decide) (fun i h st => by obtain ⟨o, e, _⟩ := st.1; exact ⟨o, e⟩) LCg.list_st (fun i ks nw ⟨e, _⟩ => srcAt_of (nD := nD) (e ▸ .tail _ (.head _))) (by decide) rfl (by rfl) ?_ ?_ F1 N1 (Nat.ne_of_lt F.ns.lt) (next_is_new F) (fun p hp => Nat.ne_of_lt (Heap.lt_size (N p hp).1)) ?_ ?_ ?_
  · exact ⟨⟨_, Heap.get?_push_size _ rfl, rfl, rfl⟩, News.isList N1 (.tail _ (.head _))⟩
  · intro b hb
    show b < (s.heap.push _).objs.size
    rw [Heap.size_push]
    rcases List.mem_cons.mp hb with rfl | hb
    · exact Nat.lt_succ_self _
    · rw [List.mem_singleton.mp hb]; exact Nat.lt_succ_of_lt hlvs
  · exact ⟨rfl, rfl, fun j hj => absurd hj (Nat.not_lt_zero _)⟩
  · rintro i v ms nM oI C oC D m₂ news h tk E' hi hv ⟨rfl, hK⟩ hoC hm₂ F N off hIC hID hCD
    refine wpAny_tests_nil ?_
    rw [if_pos rfl]
    rw [List.size_toArray, hys] at hi
    obtain ⟨r, o, e1, e2, t1, t2, rfl⟩ := hV.2 i (by omega)
    have : v = .ref r := by simpa [e1] using hv.symm
    subst this
    have Nr := N (r, lst [.str (lvUp (nums.getD i 0) 3).text t1, .int (lvUp (nums.getD i 0) 3).mark t2] 0) (.tail _ (.tail _ (.tail _ (.tail _ (.tail _ (mem_cells e2))))))
    have N3 : News g L h ((r, lst [.str (lvUp (nums.getD i 0) 3).text t1, .int (lvUp (nums.getD i 0) 3).mark t2] 0) :: (s.heap.objs.size, oI) :: (C, oC) :: (D, lst ms nM) :: (lk, lst ks nK) :: (lv, lst ys nD) :: cells5 L o1 o2 o3 o4 o5 imm) := fun p hp => by
      rcases List.mem_cons.mp hp with rfl | hp
      · exact Nr
      · exact N p hp
    clear N
    refine wpC_any ?_
    walk_at "wk"
    exact ⟨h, _, _, rfl, F, fun p hp => N3 p (.tail _ hp), off, rfl, hK.snoc⟩
  · rintro D C oC m' ms nM h tk news ⟨rfl, hK⟩ hoC F N off hCD
    refine post_eval hoC F N off hCD ?_
    intro h' F N off'
    rw [List.size_toArray, hys] at hK
    refine store_cell [(D, lst ms nM), (lk, lst ks nK), (lv, lst ys nD), (L + 1, o1), (L + 2, o2), (L + 3, o3)] ((L + 5, o5) :: imm) F N ?_ ?_ d4 rfl (by rfl) (by rfl) ?_
    · intro p hp
      revert p
      refine allC ?_ (allC ?_ (allC ?_ (allC ?_ (allC ?_ (allC ?_ allN)))))
      · exact Ne.symm (off' (L + 4, o4) (by walk_at "me"))
      · exact hlk.2.2.2.1
      · exact hlv.2.2.2.1
      · exact add_ne (by decide)
      · exact add_ne (by decide)
      · exact add_ne (by decide)
    · intro p hp
      rcases List.mem_cons.mp hp with rfl | hp
      · exact add_ne (by decide)
      · exact (hoff p hp).2.2.2.1
    · intro h₂ o4' F N d4'
      refine k h₂ _ D ms nM o4' F (fun p hp => N p ?_) ?_ d4' hK
      · revert p; walk_at "sub"
      · have q := fun (p : Addr × Obj) (hp : p ∈ (lk, lst ks nK) :: (lv, lst ys nD) :: cells5 L o1 o2 o3 o4 o5 imm) => Ne.symm (off' p hp)
        exact ⟨q (L + 1, o1) (by walk_at "me"), q (L + 2, o2) (by walk_at "me"), q (L + 3, o3) (by walk_at "me"), q (L + 4, o4) (by walk_at "me"), q (L + 5, o5) (by walk_at "me")⟩

/-- which key an entry of the heap bears: (1, w) a beginning, (0, w) an end, (2, k) a version that is looked up -/
def keyIdx (e : Nat × Nat) : Nat := if e.1 = 1 then 5 + 2 * e.2 else if e.1 = 0 then 6 + 2 * e.2 else e.2
def EntOk (ks : List Value) (imm : List (Addr × Obj)) (v : Value) (e : Nat × Nat) : Prop :=
  ∃ a kv tk tw n, v = .ref a ∧ (a, lst [kv, .int (e.1 : Nat) tk, .int (e.2 : Nat) tw] n) ∈ imm ∧ ks[keyIdx e]? = some kv
inductive Ents (ks : List Value) (imm : List (Addr × Obj)) : List Value → List (Nat × Nat) → Prop
  | nil : Ents ks imm [] []
  | cons {v e vs es} : EntOk ks imm v e → Ents ks imm vs es → Ents ks imm (v :: vs) (e :: es)
theorem EntOk.mono {ks : List Value} {imm imm' : List (Addr × Obj)} {v : Value} {e : Nat × Nat} (h : EntOk ks imm v e) (s : ∀ p ∈ imm, p ∈ imm') : EntOk ks imm' v e := by
  obtain ⟨a, kv, tk, tw, n, h1, h2, h3⟩ := h
  exact ⟨a, kv, tk, tw, n, h1, s _ h2, h3⟩
theorem Ents.mono {ks : List Value} {imm imm' : List (Addr × Obj)} {vs : List Value} {es : List (Nat × Nat)} (h : Ents ks imm vs es) (s : ∀ p ∈ imm, p ∈ imm') : Ents ks imm' vs es := by
  induction h with
  | nil => exact .nil
  | cons h _ ih => exact .cons (h.mono s) ih
theorem Ents.append {ks : List Value} {imm : List (Addr × Obj)} {vs vs' : List Value} {es es' : List (Nat × Nat)} (h : Ents ks imm vs es) (h' : Ents ks imm vs' es') : Ents ks imm (vs ++ vs') (es ++ es') := by
  induction h with
  | nil => exact h'
  | cons h _ ih => exact .cons h ih
theorem Ents.len {ks : List Value} {imm : List (Addr × Obj)} {vs : List Value} {es : List (Nat × Nat)} (h : Ents ks imm vs es) : vs.length = es.length := by
  induction h with
  | nil => rfl
  | cons h _ ih => simp [ih]
theorem allLt_ne {d : Nat} : ∀ {l : List (Addr × Obj)}, AllLt d l → ∀ p ∈ l, p.1 ≠ d
  | [], _, _, h => nomatch h
  | _ :: _, x, p, h => by
    rcases List.mem_cons.mp h with rfl | h
    · exact Nat.ne_of_lt x.1
    · exact allLt_ne x.2 p h
theorem evalMid {α : Type} {M : Model} {A : Around} {E : Value → Shared → Prop} {s : Shared} {t : Sem α} {Q : α → Shared → Prop} (Mid : α → Shared → Prop)
    (h1 : wpAny M A t (fun v s' => Hold (Mid v s')) E s) (h2 : ∀ v s', Mid v s' → Q v s') : wpAny M A t Q E s := wpAny_mono h1 (fun v s' h => h2 v s' h) fun _ _ e => e
def evs0 : List (Nat × Nat) := (List.range 4).map (fun i => (1, i)) ++ (List.range 5).map fun i => (2, i)
theorem st_heap {prog : Program} {w : World} {A : Around} {E : Value → Shared → Prop} {s : Shared} {g : Heap} {L a lv lk : Addr} {cd : Value} {sc : Scope} {st : Stmt} {Q : Flow → Shared → Prop} {o1 o2 o3 o4 o5 : Obj} {ks : List Value} {nK : Nat} {imm : List (Addr × Obj)}
    (hsc : lawScope = some sc) (hst : lawStmt 4 = some st) (G : Gd w g) (hh : A.handled = none) (hu : A.units + 1000 < cLine) (hroom : A.depth + 10 < recursionLimit)
    (F : Fr g L s.heap (fun y => if y = Str.ofString "versions" then some (.ref lv) else none)) (N : News g L s.heap ((lk, lst ks nK) :: cells5 L o1 o2 o3 o4 o5 imm)) (hoff : offCells L imm) (hlk : lk ≠ L + 1 ∧ lk ≠ L + 2 ∧ lk ≠ L + 3 ∧ lk ≠ L + 4 ∧ lk ≠ L + 5)
    (d3 : o3.data = .cell (some (.ref lk))) (hks : ks.length = 13)
    (k : ∀ h tk lh hs nH imm2, Fr g L h (fun y => if y = Str.ofString "heap" then some (.ref lh) else if y = Str.ofString "versions" then some (.ref lv) else none) → News g L h ((lh, lst hs nH) :: (lk, lst ks nK) :: cells5 L o1 o2 o3 o4 o5 (imm2 ++ imm)) →
      offCells L (imm2 ++ imm) → (∀ p ∈ (lk, lst ks nK) :: cells5 L o1 o2 o3 o4 o5 (imm2 ++ imm), p.1 ≠ lh) → Ents ks (imm2 ++ imm) hs evs0 → Q .next { s with heap := h, toks := tk }) :
    WpC (model prog w) A (exec st (lenv sc L a cd)) Q E s := by
  refine ⟨wpC_any ?_⟩
  obtain rfl : _ = st := Option.some.inj (show some _ = some st from hst)
  obtain rfl : _ = sc := Option.some.inj (show some _ = some sc from hsc)
  obtain ⟨mean, mg, mb, T⟩ := id G.T
  have X := G.K
  walk1
  walk1
  refine evalMid (fun v s' => ∃ D hs nH h' tk imm2, v = .ref D ∧ s' = { s with heap := h', toks := tk } ∧ Fr g L h' (fun y => if y = Str.ofString "versions" then some (.ref lv) else none) ∧ News g L h' ((D, lst hs nH) :: (lk, lst ks nK) :: cells5 L o1 o2 o3 o4 o5 (imm2 ++ imm)) ∧
    offCells L (imm2 ++ imm) ∧ (∀ p ∈ imm2, p.1 ≠ lk) ∧ (∀ p ∈ (lk, lst ks nK) :: cells5 L o1 o2 o3 o4 o5 (imm2 ++ imm), p.1 ≠ D) ∧ Ents ks imm2 hs ((List.range 4).map fun j => (1, j))) ?_ ?_
  · refine wpAny_evalComp (by with_unfolding_all rfl) rfl (by decide) ?_
    walk_at "wk"
    rename Fr _ _ _ _ => F
    rename News _ _ _ _ => N
    rename IsRange _ _ _ _ _ _ _ _ => hr
    refine wpAny_pyIter_range hr (by decide) ?_
    rename Heap => h₂
    dsimp only
    rw [show Builtin.Range.rangeSize 0 4 1 = ((4 : Nat) : Int) from by decide]
    have N1 := N.grown (h' := h₂.push (rgIt 0 4 1)) fun _ _ e => Heap.get?_push_of_some _ e
    have F1 := F.keeps (h' := h₂.push (rgIt 0 4 1)) fun _ _ e => Heap.get?_push_of_some _ e
    refine comp_blockA (S := fun _ => True) (J := fun i hs news => ∃ imm2, news = (lk, lst ks nK) :: cells5 L o1 o2 o3 o4 o5 (imm2 ++ imm) ∧ offCells L (imm2 ++ imm) ∧ (∀ p ∈ imm2, p.1 ≠ lk) ∧ Ents ks imm2 hs ((List.range i).map fun j => (1, j)))
      (LCg.range_walks hh 0 4) (by decide) (fun i h st => ⟨_, st⟩) LCg.range_st (fun _ _ _ _ => trivial) (by decide) rfl (by rfl) ?_ ?_ F1 N1 (Nat.ne_of_lt F.ns.lt) (next_is_new F) (fun p hp => Nat.ne_of_lt (Heap.lt_size (N p hp).1)) ?_ ?_ ?_
    · exact Heap.get?_push_size _ rfl
    · intro b hb; rw [List.mem_singleton.mp hb]; show h₂.objs.size < (h₂.push _).objs.size; rw [Heap.size_push]; exact Nat.lt_succ_self _
    · exact ⟨[], rfl, hoff, (fun p hp => nomatch hp), .nil⟩
    · rintro i v hs nH oI C oC D m₂ news h tk E' hi ⟨tv, rfl⟩ ⟨imm2, rfl, hoff2, hne2, hE⟩ hoC hm₂ F N off hIC hID hCD
      refine wpAny_tests_nil ?_
      rw [if_pos rfl]
      walk_at "wk"
      refine item_at (5 + 2 * i) (News.isList N (.tail _ (.tail _ (.tail _ (.head _))))) (by omega) (by omega) (by omega) ?_
      walk_at "wk"
      rename _ ∧ _ ∧ _ ∧ _ => l1
      rename News _ _ _ _ => N
      rename Fr _ _ _ _ => F
      rename Addr => l'
      have hne : ∀ p ∈ (h₂.objs.size, oI) :: (C, oC) :: (D, lst hs nH) :: (lk, lst ks nK) :: cells5 L o1 o2 o3 o4 o5 (imm2 ++ imm), p.1 ≠ l' := allLt_ne (d := l') l1
      have hent : EntOk ks [(l', lst [ks.getD (5 + 2 * i) .none, .int 1 (tk + 1 + 1 + 1 + 1), .int (0 + i) tv] 0)] (.ref l') (1, i) :=
        ⟨l', _, _, tv, 0, rfl, by rw [Int.zero_add]; exact .head _, by rw [List.getD_eq_getElem?_getD]; show ks[5 + 2 * i]? = _; rw [List.getElem?_eq_getElem (by omega)]; rfl⟩
      refine ⟨_, _, (lk, lst ks nK) :: cells5 L o1 o2 o3 o4 o5 ((l', lst [ks.getD (5 + 2 * i) .none, .int 1 (tk + 1 + 1 + 1 + 1), .int (0 + i) tv] 0) :: (imm2 ++ imm)), rfl, F, fun p hp => N p ?_, ?_, (l', lst [ks.getD (5 + 2 * i) .none, .int 1 (tk + 1 + 1 + 1 + 1), .int (0 + i) tv] 0) :: imm2, rfl, ?_, ?_, ?_⟩
      · revert p; walk_at "sub"
      · intro p hp
        have : p ∈ (lk, lst ks nK) :: cells5 L o1 o2 o3 o4 o5 (imm2 ++ imm) ∨ p.1 = l' := by
          revert p; walk_at "sub"
        rcases this with h | h
        · exact off p h
        · rw [h]
          exact ⟨Ne.symm (hne (h₂.objs.size, oI) (by walk_at "me")), Ne.symm (hne (C, oC) (by walk_at "me")), Ne.symm (hne (D, lst hs nH) (by walk_at "me"))⟩
      · exact off_cells (fun p hp => hne p (.tail _ (.tail _ (.tail _ (.tail _ hp))))) hoff2
      · intro p hp
        rcases List.mem_cons.mp hp with rfl | hp
        · exact Ne.symm (hne (lk, lst ks nK) (by walk_at "me"))
        · exact hne2 p hp
      · rw [List.range_succ, List.map_append]
        exact (hE.mono fun p hp => .tail _ hp).append (.cons (hent.mono fun p hp => by rw [List.mem_singleton.mp hp]; exact .head _) .nil)
    · rintro D C oC m' hs nH h tk news ⟨imm2, rfl, hoff2, hne2, hE⟩ hoC F N off hCD
      refine post_eval hoC F N off hCD ?_
      intro h' F N off'
      exact ⟨D, hs, nH, h', _, imm2, rfl, rfl, F, N, hoff2, hne2, off', hE⟩
  clear F N
  rintro _ _ ⟨D1, hs1, nH1, h₁, tk₁, imm1, rfl, rfl, F, N, hoff1, hne1, hD1, hE1⟩
  refine evalMid (fun v s' => ∃ D hs nH h' tk imm2, v = .ref D ∧ s' = { s with heap := h', toks := tk } ∧ Fr g L h' (fun y => if y = Str.ofString "versions" then some (.ref lv) else none) ∧ News g L h' ((D, lst hs nH) :: (D1, lst hs1 nH1) :: (lk, lst ks nK) :: cells5 L o1 o2 o3 o4 o5 (imm2 ++ imm)) ∧
    offCells L (imm2 ++ imm) ∧ (∀ p ∈ imm2, p.1 ≠ lk) ∧ Ents ks imm2 hs1 ((List.range 4).map fun j => (1, j)) ∧ Ents ks imm2 hs ((List.range 5).map fun j => (2, j))) ?_ ?_
  · refine wpAny_evalComp (by with_unfolding_all rfl) rfl (by decide) ?_
    walk_at "wk"
    rename Fr _ _ _ _ => F
    rename News _ _ _ _ => N
    rename IsRange _ _ _ _ _ _ _ _ => hr
    refine wpAny_pyIter_range hr (by decide) ?_
    rename Heap => h₂
    dsimp only
    rw [show Builtin.Range.rangeSize 0 5 1 = ((5 : Nat) : Int) from by decide]
    have N1 := N.grown (h' := h₂.push (rgIt 0 5 1)) fun _ _ e => Heap.get?_push_of_some _ e
    have F1 := F.keeps (h' := h₂.push (rgIt 0 5 1)) fun _ _ e => Heap.get?_push_of_some _ e
    refine comp_blockA (S := fun _ => True) (J := fun i hs news => ∃ imm2, news = (D1, lst hs1 nH1) :: (lk, lst ks nK) :: cells5 L o1 o2 o3 o4 o5 (imm2 ++ imm) ∧ offCells L (imm2 ++ imm) ∧ (∀ p ∈ imm2, p.1 ≠ lk) ∧ Ents ks imm2 hs1 ((List.range 4).map fun j => (1, j)) ∧ Ents ks imm2 hs ((List.range i).map fun j => (2, j)))
      (LCg.range_walks hh 0 5) (by decide) (fun i h st => ⟨_, st⟩) LCg.range_st (fun _ _ _ _ => trivial) (by decide) rfl (by rfl) ?_ ?_ F1 N1 (Nat.ne_of_lt F.ns.lt) (next_is_new F) (fun p hp => Nat.ne_of_lt (Heap.lt_size (N p hp).1)) ?_ ?_ ?_
    · exact Heap.get?_push_size _ rfl
    · intro b hb; rw [List.mem_singleton.mp hb]; show h₂.objs.size < (h₂.push _).objs.size; rw [Heap.size_push]; exact Nat.lt_succ_self _
    · exact ⟨imm1, rfl, hoff1, hne1, hE1, .nil⟩
    · rintro i v hs nH oI C oC D m₂ news h tk E' hi ⟨tv, rfl⟩ ⟨imm2, rfl, hoff2, hne2, hEa, hE⟩ hoC hm₂ F N off hIC hID hCD
      refine wpAny_tests_nil ?_
      rw [if_pos rfl]
      walk_at "wk"
      refine item_at (i) (News.isList N (.tail _ (.tail _ (.tail _ (.tail _ (.head _)))))) (by omega) (by omega) (by omega) ?_
      walk_at "wk"
      rename _ ∧ _ ∧ _ ∧ _ => l1
      rename News _ _ _ _ => N
      rename Fr _ _ _ _ => F
      rename Addr => l'
      have hne : ∀ p ∈ (h₂.objs.size, oI) :: (C, oC) :: (D, lst hs nH) :: (D1, lst hs1 nH1) :: (lk, lst ks nK) :: cells5 L o1 o2 o3 o4 o5 (imm2 ++ imm), p.1 ≠ l' := allLt_ne (d := l') l1
      have hent : EntOk ks [(l', lst [ks.getD (i) .none, .int 2 (tk), .int (0 + i) tv] 0)] (.ref l') (2, i) :=
        ⟨l', _, _, tv, 0, rfl, by rw [Int.zero_add]; exact .head _, by rw [List.getD_eq_getElem?_getD]; show ks[i]? = _; rw [List.getElem?_eq_getElem (by omega)]; rfl⟩
      refine ⟨_, _, (D1, lst hs1 nH1) :: (lk, lst ks nK) :: cells5 L o1 o2 o3 o4 o5 ((l', lst [ks.getD (i) .none, .int 2 (tk), .int (0 + i) tv] 0) :: (imm2 ++ imm)), rfl, F, fun p hp => N p ?_, ?_, (l', lst [ks.getD (i) .none, .int 2 (tk), .int (0 + i) tv] 0) :: imm2, rfl, ?_, ?_, hEa.mono (fun p hp => .tail _ hp), ?_⟩
      · revert p; walk_at "sub"
      · intro p hp
        have : p ∈ (D1, lst hs1 nH1) :: (lk, lst ks nK) :: cells5 L o1 o2 o3 o4 o5 (imm2 ++ imm) ∨ p.1 = l' := by
          revert p; walk_at "sub"
        rcases this with h | h
        · exact off p h
        · rw [h]
          exact ⟨Ne.symm (hne (h₂.objs.size, oI) (by walk_at "me")), Ne.symm (hne (C, oC) (by walk_at "me")), Ne.symm (hne (D, lst hs nH) (by walk_at "me"))⟩
      · exact off_cells (fun p hp => hne p (.tail _ (.tail _ (.tail _ (.tail _ (.tail _ hp)))))) hoff2
      · intro p hp
        rcases List.mem_cons.mp hp with rfl | hp
        · exact Ne.symm (hne (lk, lst ks nK) (by walk_at "me"))
        · exact hne2 p hp
      · rw [List.range_succ, List.map_append]
        exact (hE.mono fun p hp => .tail _ hp).append (.cons (hent.mono fun p hp => by rw [List.mem_singleton.mp hp]; exact .head _) .nil)
    · rintro D C oC m' hs nH h tk news ⟨imm2, rfl, hoff2, hne2, hEa, hE⟩ hoC F N off hCD
      refine post_eval hoC F N off hCD ?_
      intro h' F N off'
      exact ⟨D, hs, nH, h', _, imm2, rfl, rfl, F, N, hoff2, hne2, hEa, hE⟩
  clear F N
  rintro _ _ ⟨D2, hs2, nH2, h₂, tk₂, imm2, rfl, rfl, F, N, hoff2, hne2, hEa, hE⟩
  have hl4 : hs1.length = 4 := hEa.len
  have hl5 : hs2.length = 5 := hE.len
  refine add_lists F N (News.isList N (.tail _ (.head _))) (News.isList N (.head _)) ?_ (hsz := by rw [hl4, hl5]; decide)
  intro h₃ F N'
  have hnew : ∀ p ∈ (lk, lst ks nK) :: cells5 L o1 o2 o3 o4 o5 (imm2 ++ imm), p.1 ≠ h₂.objs.size := fun p hp => news_new (m := fun _ => none) (o := default) N p (.tail _ (.tail _ hp))
  walk1
  rename Fr _ _ _ _ => F
  rename News _ _ _ _ => N
  refine k _ _ h₂.objs.size (hs1 ++ hs2) 0 imm2 F (fun p hp => N p ?_) hoff2 hnew ((hEa.append hE).mono fun p hp => List.mem_append_left _ hp)
  rcases List.mem_cons.mp hp with rfl | hp
  · exact .head _
  · exact .tail _ (.tail _ (.tail _ hp))
end Mine
end
section
open PySem PySem.W PyProof.Rows PySem.Calls
set_option Elab.async false
set_option maxRecDepth 100000
set_option maxHeartbeats 4000000
namespace Mine
theorem cons_set_perm {α : Type} (a b : α) : ∀ (xs : List α) (j : Nat), j < xs.length → (a :: xs.set j b).Perm (b :: xs.set j a)
  | [], j, h => absurd h (Nat.not_lt_zero _)
  | y :: ys, 0, _ => List.Perm.swap b a ys
  | y :: ys, j + 1, h => ((List.Perm.swap y a _).trans ((cons_set_perm a b ys j (Nat.lt_of_succ_lt_succ h)).cons y)).trans (List.Perm.swap b y _)
theorem set_set_perm {α : Type} (a b : α) : ∀ (xs : List α) (i j : Nat), i ≠ j → i < xs.length → j < xs.length → ((xs.set i a).set j b).Perm ((xs.set i b).set j a)
  | [], i, _, _, h, _ => absurd h (Nat.not_lt_zero _)
  | y :: ys, 0, 0, h, _, _ => absurd rfl h
  | y :: ys, 0, j + 1, _, _, h => cons_set_perm a b ys j (Nat.lt_of_succ_lt_succ h)
  | y :: ys, i + 1, 0, _, h, _ => (cons_set_perm b a ys i (Nat.lt_of_succ_lt_succ h))
  | y :: ys, i + 1, j + 1, n, h, k => (set_set_perm a b ys i j (fun q => n (by rw [q])) (Nat.lt_of_succ_lt_succ h) (Nat.lt_of_succ_lt_succ k)).cons y
theorem set_getD_self {xs : List Value} {i : Nat} (h : i < xs.length) : xs.set i (xs.getD i .none) = xs := by
  rw [← List.getElem_eq_getD (h := h)]; exact List.set_getElem_self h
theorem hole_perm {xs : List Value} {p c : Nat} (v : Value) (n : p ≠ c) (hp : p < xs.length) (hc : c < xs.length) : ((xs.set p (xs.getD c .none)).set c v).Perm (xs.set p v) := by
  refine (set_set_perm _ _ xs p c n hp hc).trans ?_
  have e : (xs.set p v).set c (xs.getD c .none) = xs.set p v := by
    rw [List.set_comm _ _ n, set_getD_self hc]
  rw [e]
theorem sd_perm (lt : Value → Value → Bool) (new : Value) (sp : Nat) : ∀ (f : Nat) (xs : List Value) (pos : Nat), pos < xs.length → (sd lt new sp f xs pos).Perm (xs.set pos new)
  | 0, _, _, _ => .refl _
  | f + 1, xs, pos, h => by
    rw [sd]; split
    · rename_i q
      refine (sd_perm lt new sp f _ _ (by simp; omega)).trans (hole_perm new (by omega) h (by omega))
    · exact .refl _
theorem su_perm (lt : Value → Value → Bool) (v : Value) : ∀ (f : Nat) (xs : List Value) (pos : Nat), pos < xs.length → ((su lt f xs pos).1.set (su lt f xs pos).2 v).Perm (xs.set pos v)
  | 0, _, _, _ => .refl _
  | f + 1, xs, pos, h => by
    rw [su]; split
    · rename_i q
      have hc : suc lt xs (2 * pos + 1) < xs.length := suc_lt q
      have hcp : pos ≠ suc lt xs (2 * pos + 1) := by unfold suc; split <;> omega
      exact (su_perm lt v f _ _ (by simpa using hc)).trans (hole_perm v hcp h hc)
    · exact .refl _
theorem siftup_perm (lt : Value → Value → Bool) {xs : List Value} {pos : Nat} (h : pos < xs.length) : (siftup lt xs pos).Perm xs := by
  unfold siftup
  have hp := su_pos lt xs.length xs pos h
  refine (sd_perm lt _ _ _ _ _ (by simpa [su_length] using hp)).trans ?_
  rw [List.set_set]
  refine (su_perm lt _ _ _ _ h).trans ?_
  rw [set_getD_self h]

inductive Desc (s : Nat) : Nat → Prop
  | refl : Desc s s
  | step {p c : Nat} : Desc s p → 2 * p + 1 = c ∨ 2 * p + 1 + 1 = c → Desc s c
theorem Desc.le {s p : Nat} (h : Desc s p) : s ≤ p := by
  induction h with
  | refl => exact Nat.le_refl _
  | step _ e ih => omega
theorem Desc.up {s p : Nat} (h : Desc s p) (n : s < p) : Desc s ((p - 1) / 2) := by
  cases h with
  | refl => omega
  | step h e =>
    rename_i q
    have : (p - 1) / 2 = q := by omega
    rw [this]; exact h
section
variable (rk : Value → Int)
def ltr (x y : Value) : Bool := decide (rk x < rk y)
def rr (xs : List Value) (i : Nat) : Int := rk (xs.getD i .none)
def HeapFrom (k : Nat) (xs : List Value) : Prop := ∀ i, 0 < i → i < xs.length → k ≤ (i - 1) / 2 → rr rk xs ((i - 1) / 2) ≤ rr rk xs i
theorem rr_set {xs : List Value} {p : Nat} {v : Value} (h : p < xs.length) (i : Nat) : rr rk (xs.set p v) i = if i = p then rk v else rr rk xs i := by
  unfold rr
  rw [List.getD_eq_getElem?_getD, List.getElem?_set]
  by_cases e : i = p
  · subst e; simp [h]
  · rw [if_neg (fun q => e q.symm), if_neg e, List.getD_eq_getElem?_getD]
theorem sd_heap (new : Value) (s : Nat) : ∀ (f : Nat) (xs : List Value) (p : Nat), p ≤ f → p < xs.length → Desc s p →
    (∀ i, 0 < i → i < xs.length → s ≤ (i - 1) / 2 → i ≠ p → (i - 1) / 2 ≠ p → rr rk xs ((i - 1) / 2) ≤ rr rk xs i) →
    (∀ i, 0 < i → i < xs.length → (i - 1) / 2 = p → rk new ≤ rr rk xs i) →
    (∀ i, 0 < i → i < xs.length → (i - 1) / 2 = p → s < p → rr rk xs ((p - 1) / 2) ≤ rr rk xs i) →
    HeapFrom rk s (sd (ltr rk) new s f xs p) := by
  have last : ∀ (xs : List Value) (p : Nat), p < xs.length → Desc s p →
    (∀ i, 0 < i → i < xs.length → s ≤ (i - 1) / 2 → i ≠ p → (i - 1) / 2 ≠ p → rr rk xs ((i - 1) / 2) ≤ rr rk xs i) →
    (∀ i, 0 < i → i < xs.length → (i - 1) / 2 = p → rk new ≤ rr rk xs i) →
    (s < p → rr rk xs ((p - 1) / 2) ≤ rk new) → HeapFrom rk s (xs.set p new) := by
    intro xs p hp hd h1 h2 h3 i hi hl hs
    rw [List.length_set] at hl
    rw [rr_set rk hp, rr_set rk hp]
    have hle := hd.le
    by_cases e1 : (i - 1) / 2 = p
    · rw [if_pos e1, if_neg (by omega)]; exact h2 i hi hl e1
    · rw [if_neg e1]
      by_cases e2 : i = p
      · rw [if_pos e2]; subst e2; exact h3 (by omega)
      · rw [if_neg e2]; exact h1 i hi hl hs e2 e1
  intro f
  induction f with
  | zero =>
    intro xs p hf hp hd h1 h2 h3
    have hle := hd.le
    rw [sd]; exact last xs p hp hd h1 h2 (fun q => by omega)
  | succ f ih =>
    intro xs p hf hp hd h1 h2 h3
    rw [sd]; split
    · rename_i q
      obtain ⟨q1, q2⟩ := q
      have q2 : rk new < rr rk xs ((p - 1) / 2) := of_decide_eq_true q2
      have hpar : (p - 1) / 2 < p := by omega
      have hdu := hd.up q1
      have hv : rk (xs.getD ((p - 1) / 2) .none) = rr rk xs ((p - 1) / 2) := rfl
      refine ih _ _ (by omega) (by simp; omega) hdu ?_ ?_ ?_
      · intro i hi hl hs n1 n2
        rw [List.length_set] at hl
        rw [rr_set rk hp, rr_set rk hp]
        have n3 : i ≠ p := fun e => by subst e; exact n2 rfl
        rw [if_neg n3]
        by_cases e : (i - 1) / 2 = p
        · rw [if_pos e, hv]; exact h3 i hi hl e q1
        · rw [if_neg e]; exact h1 i hi hl hs n3 e
      · intro i hi hl e
        rw [List.length_set] at hl
        rw [rr_set rk hp]
        by_cases e2 : i = p
        · rw [if_pos e2, hv]; exact Int.le_of_lt q2
        · rw [if_neg e2]
          have := h1 i hi hl (by rw [e]; exact hdu.le) e2 (by omega)
          rw [e] at this
          omega
      · intro i hi hl e hs
        rw [List.length_set] at hl
        rw [rr_set rk hp, rr_set rk hp]
        have hdu2 := hdu.up hs
        have k1 : rr rk xs (((p - 1) / 2 - 1) / 2) ≤ rr rk xs ((p - 1) / 2) := h1 ((p - 1) / 2) (by omega) (by omega) hdu2.le (by omega) (by omega)
        rw [if_neg (show ¬ ((p - 1) / 2 - 1) / 2 = p by omega)]
        by_cases e2 : i = p
        · rw [if_pos e2, hv]; exact k1
        · rw [if_neg e2]
          have := h1 i hi hl (by rw [e]; exact hdu.le) e2 (by omega)
          rw [e] at this
          omega
    · rename_i q
      refine last xs p hp hd h1 h2 (fun q1 => ?_)
      have : ¬ rk new < rr rk xs ((p - 1) / 2) := fun q2 => q ⟨q1, decide_eq_true q2⟩
      omega
theorem su_heap (s : Nat) : ∀ (f : Nat) (xs : List Value) (p : Nat), xs.length ≤ p + f → p < xs.length → Desc s p →
    (∀ i, 0 < i → i < xs.length → s ≤ (i - 1) / 2 → i ≠ p → (i - 1) / 2 ≠ p → rr rk xs ((i - 1) / 2) ≤ rr rk xs i) →
    (∀ i, 0 < i → i < xs.length → (i - 1) / 2 = p → s < p → rr rk xs ((p - 1) / 2) ≤ rr rk xs i) →
    Desc s (su (ltr rk) f xs p).2 ∧ xs.length ≤ 2 * (su (ltr rk) f xs p).2 + 1 ∧
    ∀ i, 0 < i → i < xs.length → s ≤ (i - 1) / 2 → i ≠ (su (ltr rk) f xs p).2 → (i - 1) / 2 ≠ (su (ltr rk) f xs p).2 → rr rk (su (ltr rk) f xs p).1 ((i - 1) / 2) ≤ rr rk (su (ltr rk) f xs p).1 i := by
  intro f
  induction f with
  | zero => intro xs p hf hp; omega
  | succ f ih =>
    intro xs p hf hp hd h1 h2
    rw [su]; split
    · rename_i q
      have hc : suc (ltr rk) xs (2 * p + 1) < xs.length := suc_lt q
      have hc2 : 2 * p + 1 = suc (ltr rk) xs (2 * p + 1) ∨ 2 * p + 1 + 1 = suc (ltr rk) xs (2 * p + 1) := by unfold suc; split <;> omega
      have hmin : ∀ i, 0 < i → i < xs.length → (i - 1) / 2 = p → rr rk xs (suc (ltr rk) xs (2 * p + 1)) ≤ rr rk xs i := by
        intro i hi hl e
        have hi2 : i = 2 * p + 1 ∨ i = 2 * p + 1 + 1 := by omega
        unfold suc
        split
        · rename_i q2
          have q3 : ¬ rr rk xs (2 * p + 1) < rr rk xs (2 * p + 1 + 1) := of_decide_eq_false q2.2
          rcases hi2 with rfl | rfl <;> omega
        · rename_i q2
          rcases hi2 with rfl | rfl
          · exact Int.le_refl _
          · have : ltr rk (xs.getD (2 * p + 1) .none) (xs.getD (2 * p + 1 + 1) .none) = true := by
              cases h : ltr rk (xs.getD (2 * p + 1) .none) (xs.getD (2 * p + 1 + 1) .none) with
              | true => rfl
              | false => exact absurd ⟨hl, h⟩ q2
            exact Int.le_of_lt (of_decide_eq_true this)
      generalize hcc : suc (ltr rk) xs (2 * p + 1) = c at *
      have hv : rk (xs.getD c .none) = rr rk xs c := rfl
      have hpc : (c - 1) / 2 = p := by omega
      have key := ih (xs.set p (xs.getD c .none)) c (by simp; omega) (by simpa using hc) (hd.step hc2) ?_ ?_
      · rw [List.length_set] at key; exact key
      · intro i hi hl hs n1 n2
        rw [List.length_set] at hl
        rw [rr_set rk hp, rr_set rk hp]
        by_cases e1 : (i - 1) / 2 = p
        · rw [if_pos e1, if_neg (show ¬ i = p by omega), hv]; exact hmin i hi hl e1
        · rw [if_neg e1]
          by_cases e2 : i = p
          · subst e2; rw [if_pos rfl, hv]; exact h2 c (by omega) hc hpc (by have := hd.le; omega)
          · rw [if_neg e2]; exact h1 i hi hl hs e2 e1
      · intro i hi hl e hs
        rw [List.length_set] at hl
        rw [rr_set rk hp, rr_set rk hp, hpc, if_pos rfl, if_neg (show ¬ i = p by omega), hv]
        have := h1 i hi hl (by have := hd.le; omega) (by omega) (by omega)
        rw [e] at this; exact this
    · rename_i q
      exact ⟨hd, by omega, h1⟩
theorem siftup_heap {xs : List Value} {s : Nat} (hs : s < xs.length) (h : HeapFrom rk (s + 1) xs) : HeapFrom rk s (siftup (ltr rk) xs s) := by
  obtain ⟨k1, k2, k3⟩ := su_heap rk s xs.length xs s (by omega) hs .refl (fun i hi hl hle n1 n2 => h i hi hl (by omega)) (fun i hi hl e q => absurd q (Nat.lt_irrefl _))
  have hp := su_pos (ltr rk) xs.length xs s hs
  have hlen := su_length (ltr rk) xs.length xs s
  unfold siftup
  generalize su (ltr rk) xs.length xs s = r at *
  obtain ⟨ys, p⟩ := r
  dsimp only at *
  have hl2 : p < ys.length := by omega
  refine sd_heap rk _ s p _ p (Nat.le_refl _) (by simpa using hl2) k1 ?_ ?_ ?_
  · intro i hi hl hle n1 n2
    rw [List.length_set] at hl
    rw [rr_set rk hl2, rr_set rk hl2, if_neg n1, if_neg n2]
    exact k3 i hi (by omega) hle n1 n2
  · intro i hi hl e
    rw [List.length_set] at hl; omega
  · intro i hi hl e
    rw [List.length_set] at hl; omega
theorem heap_min {xs : List Value} (h : HeapFrom rk 0 xs) : ∀ i, i < xs.length → rr rk xs 0 ≤ rr rk xs i := by
  intro i
  induction i using Nat.strongRecOn with
  | ind i ih =>
    intro hi
    by_cases e : i = 0
    · subst e; exact Int.le_refl _
    · exact Int.le_trans (ih ((i - 1) / 2) (by omega) (by omega)) (h i (by omega) hi (Nat.zero_le _))
theorem hfy_heap {xs : List Value} (h9 : xs.length = 9) : HeapFrom rk 0 (hfy (ltr rk) xs) ∧ (hfy (ltr rk) xs).Perm xs := by
  have l1 : ∀ {ys : List Value} {p : Nat}, (siftup (ltr rk) ys p).length = ys.length := fun {ys p} => siftup_length _ _ _
  have p3 := siftup_perm (ltr rk) (xs := xs) (pos := 3) (by omega)
  have p2 := siftup_perm (ltr rk) (xs := siftup (ltr rk) xs 3) (pos := 2) (by rw [l1]; omega)
  have p1 := siftup_perm (ltr rk) (xs := siftup (ltr rk) (siftup (ltr rk) xs 3) 2) (pos := 1) (by rw [l1, l1]; omega)
  have p0 := siftup_perm (ltr rk) (xs := siftup (ltr rk) (siftup (ltr rk) (siftup (ltr rk) xs 3) 2) 1) (pos := 0) (by rw [l1, l1, l1]; omega)
  refine ⟨?_, ((p0.trans p1).trans p2).trans p3⟩
  refine siftup_heap rk (by rw [l1, l1, l1]; omega) (siftup_heap rk (by rw [l1, l1]; omega) (siftup_heap rk (by rw [l1]; omega) (siftup_heap rk (by omega) ?_)))
  intro i hi hl hs; omega
end
end Mine
end
section
open PySem PySem.W PyProof.Rows PySem.Calls
set_option Elab.async false
set_option maxRecDepth 100000
set_option maxHeartbeats 4000000
namespace Mine
def mkOf (num : Int) : Int := (lvUp num 3).mark
/-- what the keys of the versions are, in plain words -/
structure KeyLaw (keyD : Int → List PyData) : Prop where
  text : ∀ num, TextOk (lvUp num 3).text (keyD num)
  lay : ∀ num, PyData.canLayAll0 (keyD num) = true
  dep : ∀ num, PyData.depthAll (keyD num) ≤ 1
  lt : ∀ a b, ltOs (keyD a) (keyD b) = some (decide (mkOf a < mkOf b))
  eq : ∀ a b, PyData.eqvAll (keyD a) (keyD b) = decide (mkOf a = mkOf b)
def rank (mk : Nat → Int) (e : Nat × Nat) : Int := (mk (keyIdx e) * 3 + (e.1 : Nat)) * 8 + (e.2 : Nat)
def small (e : Nat × Nat) : Prop := e.1 ≤ 2 ∧ e.2 < 8
def entD (keyD : Int → List PyData) (nums : List Int) (e : Nat × Nat) : PyData := .list [.list (keyD (nums.getD (keyIdx e) 0)), .int (e.1 : Nat), .int (e.2 : Nat)]
theorem ent_lt {keyD : Int → List PyData} (K : KeyLaw keyD) {nums : List Int} {e e' : Nat × Nat} (h : small e) (h' : small e') :
    ltO (entD keyD nums e) (entD keyD nums e') = some (decide (rank (markD nums) e < rank (markD nums) e')) := by
  unfold entD
  rw [ltO, ltOs]
  have e1 : PyData.eqv (.list (keyD (nums.getD (keyIdx e) 0))) (.list (keyD (nums.getD (keyIdx e') 0))) = decide (mkOf (nums.getD (keyIdx e) 0) = mkOf (nums.getD (keyIdx e') 0)) := by
    rw [PyData.eqv]; exact K.eq _ _
  rw [e1]
  unfold rank small at *
  have m1 : markD nums (keyIdx e) = mkOf (nums.getD (keyIdx e) 0) := rfl
  have m2 : markD nums (keyIdx e') = mkOf (nums.getD (keyIdx e') 0) := rfl
  rw [m1, m2]
  have l1 : ltO (.list (keyD (nums.getD (keyIdx e) 0))) (.list (keyD (nums.getD (keyIdx e') 0))) = some (decide (mkOf (nums.getD (keyIdx e) 0) < mkOf (nums.getD (keyIdx e') 0))) := by
    rw [ltO]; exact K.lt _ _
  generalize mkOf (nums.getD (keyIdx e) 0) = x at *
  generalize mkOf (nums.getD (keyIdx e') 0) = y at *
  obtain ⟨a, b⟩ := e
  obtain ⟨c, d⟩ := e'
  dsimp only at *
  rw [l1]
  by_cases hxy : x = y
  · rw [if_pos (by simpa using hxy), ltOs, PyData.eqv]
    by_cases hac : a = c
    · rw [if_pos (by simp [hac]), ltOs, PyData.eqv]
      by_cases hbd : b = d
      · rw [if_pos (by simp [hbd]), ltOs]
        congr 1
        symm
        exact decide_eq_false (by omega)
      · rw [if_neg (by simp; omega), ltO]
        congr 1
        rw [decide_eq_decide]; omega
    · rw [if_neg (by simp; omega), ltO]
      congr 1
      rw [decide_eq_decide]; omega
  · rw [if_neg (by simpa using hxy)]
    congr 1
    rw [decide_eq_decide]; omega
theorem reads_atoms {h : Heap} {vs : List Value} {ds : List PyData} (x : Atoms vs ds) : ReadsAll h vs ds [] := by
  induction x with
  | nil => exact .nil
  | int i t _ ih => exact .cons (.int i t) ih
  | str y t _ ih => exact .cons (.str y t) ih
theorem reads_lst {h : Heap} {a : Addr} {vs : List Value} {n : Nat} {ds : List PyData} {as : List Addr} (e : h.get? a = some (lst vs n)) (r : ReadsAll h vs ds as) : Reads h (.ref a) (.list ds) (a :: as) := .list e rfl rfl r
theorem ent_lay {keyD : Int → List PyData} (K : KeyLaw keyD) {nums : List Int} {e : Nat × Nat} : (entD keyD nums e).canLay0 = true := by
  unfold entD
  rw [PyData.canLay0, PyData.canLayAll0, PyData.canLay0, K.lay]
  rfl
theorem ent_dep {keyD : Int → List PyData} (K : KeyLaw keyD) {nums : List Int} {e : Nat × Nat} : (entD keyD nums e).depth ≤ 50 := by
  unfold entD
  rw [depth_list, PyData.depthAll, depth_list]
  have := K.dep (nums.getD (keyIdx e) 0)
  simp only [PyData.depthAll, PyData.depth]
  omega
end Mine
end
section
open PySem PySem.W PyProof.Rows PySem.Calls
set_option Elab.async false
set_option maxRecDepth 100000
set_option maxHeartbeats 4000000
namespace Mine
def evH (h : Heap) (v : Value) : Nat × Nat := match v with
  | .ref a => match (h.get? a).map Obj.data with
    | some (Data.seq xs _) => match xs.toList with
      | [_, .int k _, .int w _] => (k.toNat, w.toNat)
      | _ => (0, 0)
    | _ => (0, 0)
  | _ => (0, 0)
theorem evH_of {ks : List Value} {imm : List (Addr × Obj)} {b : Heap} (hb : ∀ p ∈ imm, b.get? p.1 = some p.2) {v : Value} {e : Nat × Nat} (x : EntOk ks imm v e) : evH b v = e := by
  obtain ⟨a, kv, tk, tw, n, rfl, h2, h3⟩ := x
  have := hb _ h2
  dsimp only at this
  unfold evH
  dsimp only
  rw [this]
  rfl
def Knows (b : Heap) (imm : List (Addr × Obj)) : Prop := ∀ p ∈ imm, b.get? p.1 = some p.2
theorem ents_map {ks : List Value} {imm : List (Addr × Obj)} {b : Heap} (hb : Knows b imm) {hs : List Value} {es : List (Nat × Nat)} (h : Ents ks imm hs es) : hs.map (evH b) = es := by
  induction h with
  | nil => rfl
  | cons x _ ih => rw [List.map_cons, ih, evH_of hb x]
theorem ents_ok {ks : List Value} {imm : List (Addr × Obj)} {b : Heap} (hb : Knows b imm) {hs : List Value} {es : List (Nat × Nat)} (h : Ents ks imm hs es) : ∀ v ∈ hs, EntOk ks imm v (evH b v) := by
  induction h with
  | nil => intro v hv; cases hv
  | cons x _ ih =>
    intro v hv
    rcases List.mem_cons.mp hv with rfl | hv
    · rw [evH_of hb x]; exact x
    · exact ih v hv
theorem ents_of {ks : List Value} {imm : List (Addr × Obj)} {f : Value → Nat × Nat} : ∀ {hs : List Value}, (∀ v ∈ hs, EntOk ks imm v (f v)) → Ents ks imm hs (hs.map f)
  | [], _ => .nil
  | _ :: _, h => .cons (h _ (.head _)) (ents_of fun v hv => h v (.tail _ hv))
def HeapEv (mk : Nat → Int) (evs : List (Nat × Nat)) : Prop := ∀ i, 0 < i → i < evs.length → rank mk (evs.getD ((i - 1) / 2) (0, 0)) ≤ rank mk (evs.getD i (0, 0))
theorem getD_map {α β : Type} (f : α → β) (d : α) (d' : β) : ∀ (l : List α) (i : Nat), i < l.length → (l.map f).getD i d' = f (l.getD i d)
  | [], i, h => absurd h (Nat.not_lt_zero _)
  | x :: l, 0, _ => rfl
  | x :: l, i + 1, h => getD_map f d d' l i (Nat.lt_of_succ_lt_succ h)
theorem heap_to {mk : Nat → Int} {f : Value → Nat × Nat} {hs : List Value} (h : HeapFrom (fun v => rank mk (f v)) 0 hs) : HeapEv mk (hs.map f) := by
  intro i hi hl
  rw [List.length_map] at hl
  rw [getD_map f .none _ hs _ hl, getD_map f .none _ hs _ (by omega)]
  exact h i hi hl (Nat.zero_le _)
theorem heap_from {mk : Nat → Int} {f : Value → Nat × Nat} {hs : List Value} (h : HeapEv mk (hs.map f)) : HeapFrom (fun v => rank mk (f v)) 0 hs := by
  intro i hi hl _
  have := h i hi (by rw [List.length_map]; exact hl)
  rw [getD_map f .none _ hs _ hl, getD_map f .none _ hs _ (by omega)] at this
  exact this
theorem ent_reads {keyD : Int → List PyData} {nums : List Int} {ks : List Value} {imm : List (Addr × Obj)} {b : Heap} (hb : Knows b imm) (KI : KeyIn keyD nums 13 ks imm) {v : Value} {e : Nat × Nat} (x : EntOk ks imm v e) : ∃ as, Reads b v (entD keyD nums e) as := by
  obtain ⟨a, kv, tk, tw, n, rfl, h2, h3⟩ := x
  have hj : keyIdx e < 13 := by
    rw [← KI.1]
    rcases Nat.lt_or_ge (keyIdx e) ks.length with h | h
    · exact h
    · rw [List.getElem?_eq_none h] at h3; cases h3
  obtain ⟨r, vs, ep, k1, k2, k3⟩ := KI.2 _ hj
  rw [k1] at h3
  cases h3
  exact ⟨_, reads_lst (hb _ h2) (.cons (reads_lst (hb _ k2) (reads_atoms k3)) (.cons (.int _ _) (.cons (.int _ _) .nil)))⟩
theorem ent_ltIn {keyD : Int → List PyData} (K : KeyLaw keyD) {w : World} {nums : List Int} {ks : List Value} {imm : List (Addr × Obj)} {b : Heap} (hb : Knows b imm) (KI : KeyIn keyD nums 13 ks imm) {v v' : Value} {e e' : Nat × Nat}
    (x : EntOk ks imm v e) (x' : EntOk ks imm v' e') (h : small e) (h' : small e') : LtIn w b v v' (decide (rank (markD nums) e < rank (markD nums) e')) := by
  obtain ⟨as, r⟩ := ent_reads hb KI x
  obtain ⟨bs, r'⟩ := ent_reads hb KI x'
  exact ltIn_reads r r' (ent_lay K) (ent_lay K) (ent_dep K) (ent_lt K h h')
/-- what a call of heapq's leaves, told of the entries -/
theorem ents_after {ks : List Value} {imm : List (Addr × Obj)} {mk : Nat → Int} {b : Heap} (hb : Knows b imm) {hs hs' : List Value} {es : List (Nat × Nat)} (h : Ents ks imm hs es) (hp : hs'.Perm hs) (hh : HeapFrom (fun v => rank mk (evH b v)) 0 hs') :
    ∃ es', Ents ks imm hs' es' ∧ es'.Perm es ∧ HeapEv mk es' :=
  ⟨hs'.map (evH b), ents_of fun v hv => ents_ok hb h v (hp.mem_iff.mp hv), ents_map hb h ▸ hp.map _, heap_to hh⟩
end Mine
end
section
open PySem PySem.W PyProof.Rows PySem.Calls
open LCg (NsObj)
set_option Elab.async false
set_option maxRecDepth 100000
set_option maxHeartbeats 8000000
namespace Mine
local macro_rules | `(tactic| walk_at "wk") => `(tactic| repeat ((try dsimp only); (fail_if_success (with_reducible show wpAny _ _ (exec (Stmt.While _ _ _ _) _) _ _ _)); (fail_if_success (with_reducible show wpAny _ _ (exec (Stmt.For _ _ _ _ _) _) _ _ _)); walk1))
theorem fillL4 : PySem.Challenge.rw_mq0156_01 = PySem.Challenge.rw_mq0156_01 ∧ Mine.hd.heap_39 = Mine.hd.heap_39 := by k_fill; exact ⟨rfl, rfl⟩
theorem stays_hide1 {g h : Heap} {L l : Addr} {m : Str → Option Value} (F : Fr g L h m) (e : g.get? l = none) : g.StaysIn (hideAll h [l]) := stays_hideAll F.keep (by simpa using e)
theorem knows_hide {g h : Heap} {L l : Addr} {imm : List (Addr × Obj)} (N : News g L h imm) (hne : ∀ p ∈ imm, p.1 ≠ l) : Knows (hideAll h [l]) imm := fun p hp => hideAll_get _ (N p hp).1 (by simpa using hne p hp)
theorem ents_small {ks : List Value} {imm : List (Addr × Obj)} {hs : List Value} {es : List (Nat × Nat)} (h : Ents ks imm hs es) (hs' : ∀ e ∈ es, small e) : ∀ v ∈ hs, ∃ e, EntOk ks imm v e ∧ small e := by
  induction h with
  | nil => intro v hv; cases hv
  | cons x _ ih =>
    intro v hv
    rcases List.mem_cons.mp hv with rfl | hv
    · exact ⟨_, x, hs' _ (.head _)⟩
    · exact ih (fun e he => hs' e (.tail _ he)) v hv
theorem lt_all {keyD : Int → List PyData} (K : KeyLaw keyD) {w : World} {nums : List Int} {ks : List Value} {imm : List (Addr × Obj)} {b : Heap} (hb : Knows b imm) (KI : KeyIn keyD nums 13 ks imm) {hs : List Value} (h : ∀ v ∈ hs, ∃ e, EntOk ks imm v e ∧ small e) :
    ∀ x ∈ hs, ∀ y ∈ hs, LtIn w b x y (ltr (fun v => rank (markD nums) (evH b v)) x y) := by
  intro x hx y hy
  obtain ⟨e, e1, e2⟩ := h x hx
  obtain ⟨f, f1, f2⟩ := h y hy
  have q := evH_of hb e1
  have q' := evH_of hb f1
  subst q q'
  exact ent_ltIn K (w := w) hb KI e1 f1 e2 f2
theorem st_heapify {prog : Program} {w : World} {A : Around} {E : Value → Shared → Prop} {s : Shared} {g : Heap} {L a lv lk lh : Addr} {cd : Value} {sc : Scope} {st : Stmt} {Q : Flow → Shared → Prop} {ks hs : List Value} {nH : Nat} {nums : List Int} {imm rest : List (Addr × Obj)} {keyD : Int → List PyData} {es : List (Nat × Nat)} {m : Str → Option Value}
    (hsc : lawScope = some sc) (hst : lawStmt 5 = some st) (G : Gd w g) (hh : A.handled = none) (hu : A.units + 1000 < cLine) (hroom : A.depth + 10 < recursionLimit) (K : KeyLaw keyD)
    (F : Fr g L s.heap (fun y => if y = Str.ofString "heap" then some (.ref lh) else m y)) (N : News g L s.heap ((lh, lst hs nH) :: rest)) (hrest : ∀ p ∈ imm, p ∈ rest) (hne : ∀ p ∈ rest, p.1 ≠ lh)
    (KI : KeyIn keyD nums 13 ks imm) (hE : Ents ks imm hs es) (h9 : es.length = 9) (hsm : ∀ e ∈ es, small e)
    (k : ∀ h tk hs' es', Fr g L h (fun y => if y = Str.ofString "heap" then some (.ref lh) else m y) → News g L h ((lh, lst hs' nH) :: rest) → Ents ks imm hs' es' → es'.Perm es → HeapEv (markD nums) es' → Q .next { s with heap := h, toks := tk }) :
    WpC (model prog w) A (exec st (lenv sc L a cd)) Q E s := by
  refine ⟨wpC_any ?_⟩
  obtain rfl : _ = st := Option.some.inj (show some _ = some st from hst)
  obtain rfl : _ = sc := Option.some.inj (show some _ = some sc from hsc)
  obtain ⟨mean, mg, mb, T⟩ := id G.T
  have X := G.K
  walk_at "wk"
  have z := N (lh, lst hs nH) (.head _)
  have hb : Knows (hideAll s.heap [lh]) imm := fun p hp => hideAll_get _ (N p (.tail _ (hrest p hp))).1 (by simpa using hne p (hrest p hp))
  have hl9 : hs.length = 9 := by rw [hE.len, h9]
  refine wpAny_call (heapify_spec (b := hideAll s.heap [lh]) (lt := ltr fun v => rank (markD nums) (evH (hideAll s.heap [lh]) v)) (G.keeps (stays_hide1 F z.2.2)) (fun c o e => of_hideAll _ e) (hideAll_none _ (.head _)) z.1 hl9
    (lt_all K hb KI (ents_small hE hsm)) (by omega) (by omega) hh ?_)
  intro h' tk' k1 k2 k3
  obtain ⟨F', N'⟩ := fr_after F N (Upd.head hne) k3 k2
  obtain ⟨q1, q2⟩ := hfy_heap (fun v => rank (markD nums) (evH (hideAll s.heap [lh]) v)) hl9
  obtain ⟨es', r1, r2, r3⟩ := ents_after hb hE q2 q1
  clear F N
  walk_at "wk"
  exact k _ _ _ es' F' N' r1 r2 r3
end Mine
end
section
open PySem PySem.W PyProof.Rows PySem.Calls
set_option Elab.async false
set_option maxRecDepth 100000
set_option maxHeartbeats 4000000
namespace Mine
def valid (e : Nat × Nat) : Prop := (e.1 = 2 ∧ e.2 < 5) ∨ (e.1 ≤ 1 ∧ e.2 < 4)
theorem valid.small {e : Nat × Nat} (h : valid e) : small e := by unfold valid at h; unfold Mine.small; omega
theorem sorted_unique (r : Nat → Int) : ∀ (l l' : List Nat), l.Pairwise (fun a b => r a < r b) → l'.Pairwise (fun a b => r a < r b) → (∀ x, x ∈ l ↔ x ∈ l') → l = l'
  | [], [], _, _, _ => rfl
  | [], y :: _, _, _, h => absurd ((h y).mpr (.head _)) (by simp)
  | x :: _, [], _, _, h => absurd ((h x).mp (.head _)) (by simp)
  | x :: l, y :: l', hl, hl', h => by
    obtain ⟨a1, a2⟩ := List.pairwise_cons.mp hl
    obtain ⟨b1, b2⟩ := List.pairwise_cons.mp hl'
    have hxy : x = y := by
      rcases List.mem_cons.mp ((h x).mp (.head _)) with e | e
      · exact e
      · rcases List.mem_cons.mp ((h y).mpr (.head _)) with e' | e'
        · exact e'.symm
        · have := a1 y e'; have := b1 x e; omega
    subst hxy
    congr 1
    refine sorted_unique r l l' a2 b2 fun z => ?_
    have hz := h z
    rw [List.mem_cons, List.mem_cons] at hz
    constructor
    · intro q
      rcases hz.mp (.inr q) with rfl | e
      · exact absurd (a1 _ q) (Int.lt_irrefl _)
      · exact e
    · intro q
      rcases hz.mpr (.inr q) with rfl | e
      · exact absurd (b1 _ q) (Int.lt_irrefl _)
      · exact e
section
variable (mk : Nat → Int)
def active (w : Nat) : Prop := mk (5 + 2 * w) < mk (6 + 2 * w)
def pend (ρ : Int) (e : Nat × Nat) : Prop := valid e ∧ ρ < rank mk e ∧ (e.1 = 0 → active mk e.2 ∧ rank mk (1, e.2) ≤ ρ)
def dueOf (v : Nat) : List Nat := (List.range 4).filter fun w => decide (mk (5 + 2 * w) ≤ mk v) && decide (mk v < mk (6 + 2 * w))
structure PInv (ρ : Int) (evs : List (Nat × Nat)) (force : List Nat) (found : List (Nat × List Nat)) : Prop where
  nd : evs.Nodup
  mem : ∀ e, e ∈ evs ↔ pend mk ρ e
  fnd : force.Nodup
  fmem : ∀ w, w ∈ force ↔ w < 4 ∧ active mk w ∧ rank mk (1, w) ≤ ρ ∧ ρ < rank mk (0, w)
  fo : ∃ vs : List Nat, found = vs.map (fun v => (v, dueOf mk v)) ∧ vs.Pairwise (fun a b => rank mk (2, a) < rank mk (2, b)) ∧ ∀ v, v ∈ vs ↔ v < 5 ∧ rank mk (2, v) ≤ ρ
theorem rank1 (w : Nat) : rank mk (1, w) = (mk (5 + 2 * w) * 3 + 1) * 8 + w := rfl
theorem rank0 (w : Nat) : rank mk (0, w) = (mk (6 + 2 * w) * 3 + 0) * 8 + w := rfl
theorem rank2 (w : Nat) : rank mk (2, w) = (mk w * 3 + 2) * 8 + w := rfl
theorem rank_inj {e e' : Nat × Nat} (h : small e) (h' : small e') (q : rank mk e = rank mk e') : e = e' := by
  unfold rank at q
  unfold small at h h'
  generalize mk (keyIdx e) = x at q
  generalize mk (keyIdx e') = y at q
  exact Prod.ext (by omega) (by omega)
theorem lower : ∀ l : List Int, ∃ r, ∀ x ∈ l, r < x
  | [] => ⟨0, fun x h => nomatch h⟩
  | a :: l => by
    obtain ⟨r, h⟩ := lower l
    refine ⟨min r (a - 1), fun x hx => ?_⟩
    rcases List.mem_cons.mp hx with rfl | hx
    · omega
    · have := h x hx; omega
def univ : List (Nat × Nat) := [(1, 0), (1, 1), (1, 2), (1, 3), (0, 0), (0, 1), (0, 2), (0, 3), (2, 0), (2, 1), (2, 2), (2, 3), (2, 4)]
theorem valid_univ {e : Nat × Nat} (h : valid e) : e ∈ univ := by
  obtain ⟨a, b⟩ := e
  unfold valid at h
  dsimp only at h
  have ha : a = 0 ∨ a = 1 ∨ a = 2 := by omega
  have hb : b = 0 ∨ b = 1 ∨ b = 2 ∨ b = 3 ∨ b = 4 := by omega
  rcases ha with rfl | rfl | rfl <;> rcases hb with rfl | rfl | rfl | rfl | rfl <;> first | decide | (exfalso; omega)
theorem evs0_mem (e : Nat × Nat) : e ∈ evs0 ↔ valid e ∧ e.1 ≠ 0 := by
  obtain ⟨a, b⟩ := e
  unfold evs0 valid
  simp only [List.mem_append, List.mem_map, List.mem_range, Prod.mk.injEq]
  constructor
  · rintro (⟨i, h, rfl, rfl⟩ | ⟨i, h, rfl, rfl⟩) <;> omega
  · rintro ⟨h, h0⟩
    rcases h with ⟨rfl, h⟩ | ⟨h1, h2⟩
    · exact .inr ⟨b, h, rfl, rfl⟩
    · exact .inl ⟨b, h2, by omega, rfl⟩
theorem pinv_init {evs : List (Nat × Nat)} (hp : evs.Perm evs0) : ∃ ρ, PInv mk ρ evs [] [] := by
  obtain ⟨ρ, h⟩ := lower (univ.map (rank mk))
  have hv : ∀ e, valid e → ρ < rank mk e := fun e he => h _ (List.mem_map_of_mem (valid_univ he))
  refine ⟨ρ, hp.nodup_iff.mpr (by decide), fun e => ?_, .nil, fun w => ?_, [], rfl, .nil, fun v => ?_⟩
  · rw [hp.mem_iff, evs0_mem]
    constructor
    · rintro ⟨h1, h2⟩; exact ⟨h1, hv e h1, fun q => absurd q h2⟩
    · rintro ⟨h1, h2, h3⟩
      refine ⟨h1, fun q => ?_⟩
      have hvv := hv (1, e.2) (by unfold valid at h1 ⊢; dsimp only; omega)
      have := (h3 q).2
      omega
  · constructor
    · intro h; cases h
    · rintro ⟨h1, _, h2, _⟩
      have := hv (1, w) (by unfold valid; dsimp only; omega)
      omega
  · constructor
    · intro h; cases h
    · rintro ⟨h1, h2⟩
      have := hv (2, v) (by unfold valid; dsimp only; omega)
      omega
variable {mk}
/-- the facts that every turn uses -/
theorem turn_facts {ρ : Int} {e₀ : Nat × Nat} {t : List (Nat × Nat)} {force : List Nat} {found : List (Nat × List Nat)} (I : PInv mk ρ (e₀ :: t) force found) (hmin : ∀ e ∈ e₀ :: t, rank mk e₀ ≤ rank mk e) :
    pend mk ρ e₀ ∧ (∀ e, pend mk ρ e → rank mk e ≤ rank mk e₀ → e = e₀) ∧ (∀ e, e ∈ t ↔ pend mk ρ e ∧ e ≠ e₀) ∧ ∀ e, e ∈ t → rank mk e₀ < rank mk e := by
  have h0 := (I.mem e₀).mp (.head _)
  have hu : ∀ e, pend mk ρ e → rank mk e ≤ rank mk e₀ → e = e₀ := fun e he hl =>
    rank_inj mk he.1.small h0.1.small (Int.le_antisymm hl (hmin e ((I.mem e).mpr he)))
  have ht : ∀ e, e ∈ t ↔ pend mk ρ e ∧ e ≠ e₀ := fun e => by
    rw [← I.mem e, List.mem_cons]
    have := (List.nodup_cons.mp I.nd).1
    constructor
    · intro h; exact ⟨.inr h, fun q => this (q ▸ h)⟩
    · rintro ⟨h | h, n⟩
      · exact absurd h n
      · exact h
  refine ⟨h0, hu, ht, fun e he => ?_⟩
  obtain ⟨h1, h2⟩ := (ht e).mp he
  rcases Int.lt_or_le (rank mk e₀) (rank mk e) with q | q
  · exact q
  · exact absurd (hu e h1 q) h2
theorem valid1 {w : Nat} (h : w < 4) : valid (1, w) := .inr ⟨Nat.le_refl _, h⟩
theorem valid0 {w : Nat} (h : w < 4) : valid (0, w) := .inr ⟨Nat.zero_le _, h⟩
theorem valid2 {w : Nat} (h : w < 5) : valid (2, w) := .inl ⟨rfl, h⟩
/-- what the heap holds behind a turn that puts nothing in -/
theorem mem_pop {ρ : Int} {e₀ : Nat × Nat} {t : List (Nat × Nat)} {force : List Nat} {found : List (Nat × List Nat)} (I : PInv mk ρ (e₀ :: t) force found) (hmin : ∀ e ∈ e₀ :: t, rank mk e₀ ≤ rank mk e)
    (hn : ∀ w, e₀ = (1, w) → ¬ active mk w) (e : Nat × Nat) : e ∈ t ↔ pend mk (rank mk e₀) e := by
  obtain ⟨h0, hu, ht, hl⟩ := turn_facts I hmin
  constructor
  · intro he
    obtain ⟨h1, h2⟩ := (ht e).mp he
    exact ⟨h1.1, hl e he, fun q => ⟨(h1.2.2 q).1, Int.le_of_lt (Int.lt_of_le_of_lt (h1.2.2 q).2 h0.2.1)⟩⟩
  · rintro ⟨h1, h2, h3⟩
    have hne : e ≠ e₀ := fun q => by rw [q] at h2; omega
    refine (ht e).mpr ⟨⟨h1, Int.lt_trans h0.2.1 h2, fun q => ⟨(h3 q).1, ?_⟩⟩, hne⟩
    rcases Int.lt_or_le ρ (rank mk (1, e.2)) with r | r
    · have hw : e.2 < 4 := by unfold valid at h1; omega
      have := hu (1, e.2) ⟨valid1 hw, r, fun q => absurd q (by simp)⟩ (h3 q).2
      exact absurd (h3 q).1 (hn e.2 this.symm)
    · exact r
theorem act_lt {w : Nat} (h : active mk w) : rank mk (1, w) < rank mk (0, w) := by
  unfold active at h; rw [rank1, rank0]; omega
/-- the force, but for the turn's own word -/
theorem force_turn {ρ : Int} {e₀ : Nat × Nat} {t : List (Nat × Nat)} {force : List Nat} {found : List (Nat × List Nat)} (I : PInv mk ρ (e₀ :: t) force found) (hmin : ∀ e ∈ e₀ :: t, rank mk e₀ ≤ rank mk e) (w : Nat) :
    (w < 4 ∧ active mk w ∧ rank mk (1, w) ≤ rank mk e₀ ∧ rank mk e₀ < rank mk (0, w)) ↔ (w ∈ force ∧ e₀ ≠ (0, w)) ∨ (e₀ = (1, w) ∧ active mk w) := by
  obtain ⟨h0, hu, ht, hl⟩ := turn_facts I hmin
  constructor
  · rintro ⟨h1, h2, h3, h4⟩
    rcases Int.lt_or_le ρ (rank mk (1, w)) with r | r
    · exact .inr ⟨(hu (1, w) ⟨valid1 h1, r, fun q => absurd q (by simp)⟩ h3).symm, h2⟩
    · exact .inl ⟨(I.fmem w).mpr ⟨h1, h2, r, Int.lt_trans h0.2.1 h4⟩, fun q => by rw [q] at h4; omega⟩
  · rintro (⟨h1, h2⟩ | ⟨h1, h2⟩)
    · obtain ⟨k1, k2, k3, k4⟩ := (I.fmem w).mp h1
      refine ⟨k1, k2, Int.le_of_lt (Int.lt_of_le_of_lt k3 h0.2.1), ?_⟩
      rcases Int.lt_or_le (rank mk e₀) (rank mk (0, w)) with r | r
      · exact r
      · exact absurd (hu (0, w) ⟨valid0 k1, k4, fun _ => ⟨k2, k3⟩⟩ r).symm h2
    · have hv : w < 4 := by
        have := h0.1
        rw [h1] at this
        unfold valid at this
        dsimp only at this
        omega
      rw [h1]
      exact ⟨hv, h2, Int.le_refl _, act_lt h2⟩
theorem found_turn {ρ : Int} {e₀ : Nat × Nat} {t : List (Nat × Nat)} {force : List Nat} {found : List (Nat × List Nat)} (I : PInv mk ρ (e₀ :: t) force found) (hmin : ∀ e ∈ e₀ :: t, rank mk e₀ ≤ rank mk e) (v : Nat) :
    (v < 5 ∧ rank mk (2, v) ≤ rank mk e₀) ↔ (v < 5 ∧ rank mk (2, v) ≤ ρ) ∨ e₀ = (2, v) := by
  obtain ⟨h0, hu, ht, hl⟩ := turn_facts I hmin
  constructor
  · rintro ⟨h1, h2⟩
    rcases Int.lt_or_le ρ (rank mk (2, v)) with r | r
    · exact .inr (hu (2, v) ⟨valid2 h1, r, fun q => absurd q (by simp)⟩ h2).symm
    · exact .inl ⟨h1, r⟩
  · rintro (⟨h1, h2⟩ | h1)
    · exact ⟨h1, Int.le_of_lt (Int.lt_of_le_of_lt h2 h0.2.1)⟩
    · rw [h1]
      refine ⟨?_, Int.le_refl _⟩
      have := h0.1
      rw [h1] at this
      unfold valid at this
      dsimp only at this
      omega
theorem fo_same {ρ : Int} {e₀ : Nat × Nat} {t : List (Nat × Nat)} {force : List Nat} {found : List (Nat × List Nat)} (I : PInv mk ρ (e₀ :: t) force found) (hmin : ∀ e ∈ e₀ :: t, rank mk e₀ ≤ rank mk e) (h2 : e₀.1 ≠ 2) :
    ∃ vs : List Nat, found = vs.map (fun v => (v, dueOf mk v)) ∧ vs.Pairwise (fun a b => rank mk (2, a) < rank mk (2, b)) ∧ ∀ v, v ∈ vs ↔ v < 5 ∧ rank mk (2, v) ≤ rank mk e₀ := by
  obtain ⟨vs, a, b, c⟩ := I.fo
  refine ⟨vs, a, b, fun v => ?_⟩
  rw [c, found_turn I hmin]
  exact ⟨.inl, fun h => h.elim id fun q => absurd (by rw [q]) h2⟩
theorem step_begin {ρ : Int} {w : Nat} {t evs' : List (Nat × Nat)} {force : List Nat} {found : List (Nat × List Nat)} (I : PInv mk ρ ((1, w) :: t) force found) (hmin : ∀ e ∈ (1, w) :: t, rank mk (1, w) ≤ rank mk e) (ha : active mk w)
    (hp : evs'.Perm ((0, w) :: t)) : PInv mk (rank mk (1, w)) evs' (force ++ [w]) found := by
  obtain ⟨h0, hu, ht, hl⟩ := turn_facts I hmin
  have hw : w < 4 := by have := h0.1; unfold valid at this; dsimp only at this; omega
  have hnt : (0, w) ∉ t := fun q => by
    have q1 : rank mk (1, w) ≤ ρ := (((ht _).mp q).1.2.2 rfl).2
    have := h0.2.1
    omega
  refine ⟨hp.nodup_iff.mpr (List.nodup_cons.mpr ⟨hnt, (List.nodup_cons.mp I.nd).2⟩), fun e => ?_, ?_, fun v => ?_, fo_same I hmin (by simp)⟩
  · rw [hp.mem_iff, List.mem_cons]
    constructor
    · rintro (rfl | he)
      · exact ⟨valid0 hw, act_lt ha, fun _ => ⟨ha, Int.le_refl _⟩⟩
      · obtain ⟨h1, h2⟩ := (ht e).mp he
        exact ⟨h1.1, hl e he, fun q => ⟨(h1.2.2 q).1, Int.le_of_lt (Int.lt_of_le_of_lt (h1.2.2 q).2 h0.2.1)⟩⟩
    · rintro ⟨h1, h2, h3⟩
      by_cases q : e = (0, w)
      · exact .inl q
      · refine .inr ((ht e).mpr ⟨⟨h1, Int.lt_trans h0.2.1 h2, fun q0 => ⟨(h3 q0).1, ?_⟩⟩, fun q0 => by rw [q0] at h2; omega⟩)
        rcases Int.lt_or_le ρ (rank mk (1, e.2)) with r | r
        · have hw : e.2 < 4 := by unfold valid at h1; omega
          have := hu (1, e.2) ⟨valid1 hw, r, fun q => absurd q (by simp)⟩ (h3 q0).2
          exact absurd (Prod.ext q0 (by simpa using this)) q
        · exact r
  · rw [List.nodup_append]
    refine ⟨I.fnd, by simp, fun x hx b hb => ?_⟩
    obtain rfl := List.mem_singleton.mp hb
    rintro rfl
    have := ((I.fmem x).mp hx).2.2.1
    have := h0.2.1
    omega
  · rw [force_turn I hmin, List.mem_append, List.mem_singleton]
    constructor
    · rintro (h | rfl)
      · exact .inl ⟨h, by simp⟩
      · exact .inr ⟨rfl, ha⟩
    · rintro (h | h)
      · exact .inl h.1
      · exact .inr (by simpa using h.1.symm)
theorem step_dead {ρ : Int} {w : Nat} {t evs' : List (Nat × Nat)} {force : List Nat} {found : List (Nat × List Nat)} (I : PInv mk ρ ((1, w) :: t) force found) (hmin : ∀ e ∈ (1, w) :: t, rank mk (1, w) ≤ rank mk e) (ha : ¬ active mk w)
    (hp : evs'.Perm t) : PInv mk (rank mk (1, w)) evs' force found := by
  refine ⟨hp.nodup_iff.mpr (List.nodup_cons.mp I.nd).2, fun e => ?_, I.fnd, fun v => ?_, fo_same I hmin (by simp)⟩
  · rw [hp.mem_iff]; exact mem_pop I hmin (fun w' q => by cases q; exact ha) e
  · rw [force_turn I hmin]
    constructor
    · intro h; exact .inl ⟨h, by simp⟩
    · rintro (h | h)
      · exact h.1
      · exact absurd h.2 (by have := h.1; cases this; exact ha)
theorem step_end {ρ : Int} {w : Nat} {t evs' : List (Nat × Nat)} {force : List Nat} {found : List (Nat × List Nat)} (I : PInv mk ρ ((0, w) :: t) force found) (hmin : ∀ e ∈ (0, w) :: t, rank mk (0, w) ≤ rank mk e)
    (hp : evs'.Perm t) : w ∈ force ∧ PInv mk (rank mk (0, w)) evs' (force.erase w) found := by
  obtain ⟨h0, hu, ht, hl⟩ := turn_facts I hmin
  have hw : w < 4 := by have := h0.1; unfold valid at this; dsimp only at this; omega
  have hf := h0.2.2 rfl
  refine ⟨(I.fmem w).mpr ⟨hw, hf.1, hf.2, h0.2.1⟩, hp.nodup_iff.mpr (List.nodup_cons.mp I.nd).2, fun e => ?_, I.fnd.erase _, fun v => ?_, fo_same I hmin (by simp)⟩
  · rw [hp.mem_iff]; exact mem_pop I hmin (fun w' q => by cases q) e
  · rw [force_turn I hmin, I.fnd.mem_erase_iff]
    constructor
    · rintro ⟨h1, h2⟩; exact .inl ⟨h2, fun q => h1 (by simpa using q.symm)⟩
    · rintro (h | h)
      · exact ⟨fun q => h.2 (by rw [q]), h.1⟩
      · exact absurd h.1 (by simp)
theorem step_look {ρ : Int} {v : Nat} {t evs' : List (Nat × Nat)} {force sf : List Nat} {found : List (Nat × List Nat)} (I : PInv mk ρ ((2, v) :: t) force found) (hmin : ∀ e ∈ (2, v) :: t, rank mk (2, v) ≤ rank mk e)
    (hp : evs'.Perm t) (hsf : sf.Perm force) (hss : sf.Pairwise (· ≤ ·)) : PInv mk (rank mk (2, v)) evs' force (found ++ [(v, sf)]) := by
  obtain ⟨h0, hu, ht, hl⟩ := turn_facts I hmin
  have hv : v < 5 := by have := h0.1; unfold valid at this; dsimp only at this; omega
  have hfm : ∀ w, w ∈ force ↔ w < 4 ∧ mk (5 + 2 * w) ≤ mk v ∧ mk v < mk (6 + 2 * w) := by
    intro w
    constructor
    · intro h
      obtain ⟨k1, k2, k3, k4⟩ := (I.fmem w).mp h
      have hin := hl (0, w) ((ht _).mpr ⟨⟨valid0 k1, k4, fun _ => ⟨k2, k3⟩⟩, by simp⟩)
      have h1 := h0.2.1
      rw [rank1] at k3
      rw [rank2, rank0] at hin
      rw [rank2] at h1
      omega
    · rintro ⟨k1, k2, k3⟩
      have ha : active mk w := by unfold active; omega
      refine (I.fmem w).mpr ⟨k1, ha, ?_, ?_⟩
      · rcases Int.lt_or_le ρ (rank mk (1, w)) with r | r
        · have := hmin (1, w) ((I.mem _).mpr ⟨valid1 k1, r, fun q => absurd q (by simp)⟩)
          rw [rank2, rank1] at this
          omega
        · exact r
      · have h1 := h0.2.1
        rw [rank2] at h1
        rw [rank0]
        omega
  have hsd : sf = dueOf mk v := by
    refine sorted_unique (fun n => (n : Int)) _ _ ?_ ?_ fun w => ?_
    · have hnd : sf.Nodup := hsf.nodup_iff.mpr I.fnd
      exact hss.imp₂ (fun a b h1 h2 => by have : a ≠ b := h2; omega) hnd
    · exact ((by decide : (List.range 4).Pairwise fun a b => ((a : Nat) : Int) < (b : Int))).sublist List.filter_sublist
    · rw [hsf.mem_iff, hfm]
      unfold dueOf
      simp [List.mem_filter]
  refine ⟨hp.nodup_iff.mpr (List.nodup_cons.mp I.nd).2, fun e => ?_, I.fnd, fun w => ?_, ?_⟩
  · rw [hp.mem_iff]; exact mem_pop I hmin (fun w' q => by cases q) e
  · rw [force_turn I hmin]
    constructor
    · intro h; exact .inl ⟨h, by simp⟩
    · rintro (h | h)
      · exact h.1
      · exact absurd h.1 (by simp)
  · obtain ⟨vs, a, b, c⟩ := I.fo
    refine ⟨vs ++ [v], by rw [a, hsd, List.map_append]; rfl, ?_, fun u => ?_⟩
    · rw [List.pairwise_append]
      refine ⟨b, List.pairwise_singleton _ _, fun x hx y hy => ?_⟩
      obtain rfl := List.mem_singleton.mp hy
      have := ((c x).mp hx).2
      have := h0.2.1
      omega
    · rw [found_turn I hmin, List.mem_append, List.mem_singleton, c]
      constructor
      · rintro (h | rfl)
        · exact .inl h
        · exact .inr rfl
      · rintro (h | h)
        · exact .inl h
        · exact .inr (by simpa using h.symm)
end
end Mine
end
section
open PySem PySem.W PyProof.Rows PySem.Calls
set_option Elab.async false
set_option maxRecDepth 100000
set_option maxHeartbeats 4000000
namespace Mine
theorem countP_lt {α : Type} {p q : α → Bool} {a : α} : ∀ {l : List α}, (∀ x ∈ l, p x = true → q x = true) → a ∈ l → q a = true → p a = false → l.countP p < l.countP q
  | [], _, h, _, _ => nomatch h
  | x :: l, h, ha, hq, hp => by
    have hle : l.countP p ≤ l.countP q := List.countP_mono_left fun y hy => h y (.tail _ hy)
    rcases List.mem_cons.mp ha with rfl | ha
    · rw [List.countP_cons_of_neg (by simp [hp]), List.countP_cons_of_pos hq]; omega
    · have ih := countP_lt (fun y hy => h y (.tail _ hy)) ha hq hp
      rw [List.countP_cons, List.countP_cons]
      have := h x (.head _)
      split
      · rename_i r; rw [if_pos (this r)]; omega
      · split <;> omega
section
variable {mk : Nat → Int}
def meas (mk : Nat → Int) (ρ : Int) : Nat := univ.countP fun e => decide (ρ < rank mk e)
theorem meas_lt {ρ : Int} {e : Nat × Nat} (h : pend mk ρ e) : meas mk (rank mk e) < meas mk ρ := by
  refine countP_lt (a := e) (fun x _ q => ?_) (valid_univ h.1) (decide_eq_true h.2.1) (decide_eq_false (Int.lt_irrefl _))
  have := of_decide_eq_true q
  exact decide_eq_true (Int.lt_trans h.2.1 this)
theorem pinv_end {ρ : Int} {force : List Nat} {found : List (Nat × List Nat)} (I : PInv mk ρ [] force found) {vs : List Nat} (hs : vs.Pairwise fun a b => rank mk (2, a) < rank mk (2, b)) (hm : ∀ v, v ∈ vs ↔ v < 5) :
    found = vs.map fun v => (v, dueOf mk v) := by
  obtain ⟨vs', a, b, c⟩ := I.fo
  rw [a, sorted_unique (fun v => rank mk (2, v)) vs' vs b hs fun v => ?_]
  rw [c, hm]
  constructor
  · exact fun h => h.1
  · intro h
    refine ⟨h, ?_⟩
    rcases Int.lt_or_le ρ (rank mk (2, v)) with r | r
    · exact absurd ((I.mem (2, v)).mpr ⟨valid2 h, r, fun q => absurd q (by simp)⟩) (by simp)
    · exact r
theorem heapEv_min {e₀ : Nat × Nat} {t : List (Nat × Nat)} (h : HeapEv mk (e₀ :: t)) : ∀ e ∈ e₀ :: t, rank mk e₀ ≤ rank mk e := by
  have key : ∀ i, i < (e₀ :: t).length → rank mk e₀ ≤ rank mk ((e₀ :: t).getD i (0, 0)) := by
    intro i
    induction i using Nat.strongRecOn with
    | ind i ih =>
      intro hi
      by_cases z : i = 0
      · subst z; exact Int.le_refl _
      · exact Int.le_trans (ih ((i - 1) / 2) (by omega) (by omega)) (h i (by omega) hi)
  intro e he
  obtain ⟨i, hi, q⟩ := List.mem_iff_getElem.mp he
  have := key i hi
  rw [← List.getElem_eq_getD (h := hi), q] at this
  exact this
end
end Mine
end
section
open PySem PySem.W PyProof.Rows PySem.Calls
set_option Elab.async false
set_option maxRecDepth 100000
set_option maxHeartbeats 4000000
namespace Mine
section
variable (rk : Value → Int)
theorem heap_set {xs : List Value} {v : Value} (h : HeapFrom rk 0 xs) (hp : 0 < xs.length) : HeapFrom rk 1 (xs.set 0 v) := by
  intro i hi hl hs
  rw [List.length_set] at hl
  rw [rr_set rk hp, rr_set rk hp, if_neg (by omega), if_neg (by omega)]
  exact h i hi hl (Nat.zero_le _)
theorem replace_heap {x v : Value} {t : List Value} (h : HeapFrom rk 0 (x :: t)) : HeapFrom rk 0 (siftup (ltr rk) ((x :: t).set 0 v) 0) ∧ (siftup (ltr rk) ((x :: t).set 0 v) 0).Perm (v :: t) :=
  ⟨siftup_heap rk (by simp) (heap_set rk h (Nat.zero_lt_succ _)), siftup_perm (ltr rk) (xs := v :: t) (Nat.zero_lt_succ _)⟩
theorem heap_init {xs : List Value} {l : Value} (h : HeapFrom rk 0 (xs ++ [l])) : HeapFrom rk 0 xs := by
  intro i hi hl hs
  have := h i hi (by rw [List.length_append]; exact Nat.lt_add_right _ hl) hs
  unfold rr at this ⊢
  have e : ∀ j, j < xs.length → (xs ++ [l]).getD j .none = xs.getD j .none := fun j hj => by
    rw [List.getD_eq_getElem?_getD, List.getElem?_append_left hj, ← List.getD_eq_getElem?_getD]
  rw [e _ hl, e _ (by omega)] at this
  exact this
theorem pop_heap {items t : List Value} {last x : Value} (h : HeapFrom rk 0 (x :: t)) (e : x :: t = items ++ [last]) :
    HeapFrom rk 0 (if items = [] then [] else siftup (ltr rk) (items.set 0 last) 0) ∧ (if items = [] then [] else siftup (ltr rk) (items.set 0 last) 0).Perm t := by
  cases items with
  | nil =>
    rw [if_pos rfl]
    injection e with e1 e2
    subst e2
    exact ⟨fun i hi hl => absurd hl (Nat.not_lt_zero _), .refl _⟩
  | cons y ys =>
    rw [if_neg (by simp)]
    rw [e] at h
    injection e with e1 e2
    subst e1 e2
    obtain ⟨a, b⟩ := replace_heap rk (v := last) (heap_init rk h)
    exact ⟨a, b.trans (List.perm_append_comm (l₁ := [last]) (l₂ := ys))⟩
end
end Mine
end
section
open PySem PySem.W PyProof.Rows PySem.Calls
set_option Elab.async false
set_option maxRecDepth 100000
set_option maxHeartbeats 4000000
namespace Mine
section
variable {prog : Program} {w : World} {A : Around} {E : Value → Shared → Prop} {s : Shared}
theorem draw_list {it t : Addr} {items : Array Value} (hne : t ≠ it) : ∀ (n i : Nat) (s : Shared) (Q : List Value → Shared → Prop), s.heap.IsListIter it t i → s.heap.IsList t items → i + n ≤ items.size →
    (∀ h', h'.IsListIter it t (i + n) → Heap.SameBut it s.heap h' → Q ((items.toList.drop i).take n) { s with heap := h' }) → wpAny (model prog w) A (draw (.ref it) n) Q E s
  | 0, i, s, Q, hit, _, _, hQ => by
    show wpAny _ _ (pure []) Q E s
    exact wpAny_pure (by simpa using hQ s.heap hit (Heap.SameBut.refl ..))
  | n + 1, i, s, Q, hit, ht, hle, hQ => by
    have hlt : i < items.size := by omega
    show wpAny _ _ (pyNext (.ref it) >>= _) Q E s
    refine wpAny_bind (wpAny_pyNext_list_item hit ht (x := items[i]) (by simp [hlt]) fun h₁ hit₁ hs₁ => ?_)
    refine wpAny_bind (wpAny_holding (draw_list hne n (i + 1) _ _ hit₁ (ht.extBut hs₁.extBut hne) (by omega) fun h₂ hit₂ hs₂ => wpAny_pure ?_))
    have hd : items.toList.drop i = items[i] :: items.toList.drop (i + 1) := by simp [List.drop_eq_getElem_cons, hlt]
    have := hQ h₂ (by rw [show i + (n + 1) = i + 1 + n by omega]; exact hit₂) (hs₁.trans hs₂)
    rw [hd, List.take_succ_cons] at this
    exact this
theorem unpackItems_list {t : Addr} {items : Array Value} {Q : List Value → Shared → Prop} (hh : A.handled = none) (ht : s.heap.IsList t items)
    (hQ : ∀ h', Heap.ExtBut s.heap.objs.size s.heap h' → Q items.toList { s with heap := h' }) : wpAny (model prog w) A (unpackItems (.ref t) items.size none) Q E s := by
  have hlt : t ≠ s.heap.objs.size := by obtain ⟨o, ho, _⟩ := ht; exact Nat.ne_of_lt (Heap.lt_size ho)
  unfold unpackItems
  refine wpAny_bind ?_
  unfold notIterableAtAll
  refine wpAny_bind (wpAny_specialOf ht.typeIs slot_list_iter.lookup ?_)
  refine wpAny_pure ?_
  simp only [Bool.false_eq_true, if_false]
  refine wpAny_bind (wpAny_holding (wpAny_pyIter_list ht ?_))
  refine wpAny_bind (wpAny_holding (draw_list hlt items.size 0 _ _ ⟨_, Heap.get?_push_size _ rfl, rfl, rfl⟩ (ht.push _) (by omega) fun h₁ hit₁ hs₁ => ?_))
  have hall : List.take items.size (List.drop 0 items.toList) = items.toList := by
    rw [List.drop_zero]; exact List.take_of_length_le (by simp)
  rw [hall]
  rw [if_neg (by simp)]
  have ht₁ : h₁.IsList t items := (ht.push _).extBut hs₁.extBut hlt
  refine wpAny_bind (wpAny_holding (wpAny_pyNext_list_end hh hit₁ ht₁ (by simp) fun h₂ he₂ => ?_))
  simp only [Option.isSome_none, Bool.false_eq_true, if_false]
  refine wpAny_pure (hQ h₂ fun b o hb e => ?_)
  first
  | exact he₂ b o hb (hs₁.extBut b o hb (Heap.get?_push_of_some _ e))
  | exact he₂.extBut b o hb (hs₁.extBut b o hb (Heap.get?_push_of_some _ e))
theorem unpackL {g : Heap} {L : Addr} {m : Str → Option Value} {news : List (Addr × Obj)} {env : Env} {elts : List Expr} {k} {pos : Pos} {t : Addr} {items : Array Value} {Q : Unit → Shared → Prop} (F : Fr g L s.heap m) (N : News g L s.heap news) (ht : s.heap.IsList t items)
    (hh : A.handled = none) (hn : (assignEach elts env).length = items.size) (hstar : (assignEach elts env).findIdx? (·.1) = none)
    (h : ∀ h', Fr g L h' m → News g L h' news → wpAny (model prog w) A (assignInOrder ((assignEach elts env).map (·.2)) items.toList) Q E { s with heap := h' }) :
    wpAny (model prog w) A (assign (.Tuple elts k pos) env (.ref t)) Q E s := by
  rw [assign_Tuple]
  refine wpAny_bind (wpAny_standAt ?_)
  unfold unpack
  rw [hn, hstar]
  exact wpAny_bind (wpAny_holding (unpackItems_list hh ht fun h' he => h h' (F.extBut he (Nat.le_refl _)) (N.extBut he (Nat.le_refl _))))
end
end Mine
end
section
open PySem PySem.W PyProof.Rows PySem.Calls
set_option Elab.async false
set_option maxRecDepth 100000
set_option maxHeartbeats 4000000
namespace Mine
theorem ledger_set {g h h' : Heap} {L D : Addr} {o o' : Obj} {pre post : List (Addr × Obj)} (N : News g L h (pre ++ (D, o) :: post)) (hpre : ∀ p ∈ pre, p.1 ≠ D) (hpost : ∀ p ∈ post, p.1 ≠ D) (hs : Heap.SameBut D h h') (e : h'.get? D = some o') :
    News g L h' (pre ++ (D, o') :: post) := by
  intro p hp
  rcases List.mem_append.mp hp with hp | hp
  · have z := N p (List.mem_append_left _ hp); exact ⟨hs.extBut _ _ (hpre p hp) z.1, z.2⟩
  · rcases List.mem_cons.mp hp with rfl | hp
    · exact ⟨e, (N (D, o) (by simp)).2⟩
    · have z := N p (List.mem_append_right _ (.tail _ hp)); exact ⟨hs.extBut _ _ (hpost p hp) z.1, z.2⟩
section
variable {prog : Program} {w : World} {A : Around} {E : Value → Shared → Prop} {s : Shared} {g : Heap} {L D : Addr} {m : Str → Option Value}
theorem append_in {ys : List Value} {n : Nat} {x : Value} {Q : Value → Shared → Prop} (pre post : List (Addr × Obj)) (F : Fr g L s.heap m) (N : News g L s.heap (pre ++ (D, lst ys n) :: post)) (hpre : ∀ p ∈ pre, p.1 ≠ D) (hpost : ∀ p ∈ post, p.1 ≠ D)
    (hz : ys.length < 1000) (k : ∀ h', Fr g L h' m → News g L h' (pre ++ (D, lst (ys ++ [x]) (n + 1)) :: post) → Q .none { s with heap := h' }) : wpAny (model prog w) A (call (.builtin "list.append") [.ref D, x]) Q E s := by
  have z := N (D, lst ys n) (by simp)
  refine append_at (hsz := by rw [List.size_toArray]; exact Nat.le_trans (Nat.le_of_lt hz) (by decide)) z.1 fun h₅ hs₅ hD₅ => ?_
  exact k h₅ (F.change hs₅ z.2.1 z.2.2) (ledger_set N hpre hpost hs₅ (by rw [hD₅]; simp [lst]))
theorem ints_snoc {vs : List Value} {ns : List Int} (h : IntsAre vs ns) (i : Int) (t : Tok) : IntsAre (vs ++ [.int i t]) (ns ++ [i]) := by
  induction h with
  | nil => exact .cons i t .nil
  | cons j u _ ih => exact .cons j u ih
theorem ints_erase {w : Int} : ∀ {vs : List Value} {ns : List Int}, IntsAre vs ns → w ∈ ns → ∃ j, j < vs.length ∧ isInt w (vs.getD j .none) = true ∧ (∀ m, m < j → isInt w (vs.getD m .none) = false) ∧ IntsAre (vs.eraseIdx j) (ns.erase w) := by
  intro vs ns h
  induction h with
  | nil => intro h; cases h
  | cons i t h ih =>
    intro hw
    by_cases e : i = w
    · subst e
      exact ⟨0, Nat.zero_lt_succ _, by simp [isInt], fun m hm => absurd hm (Nat.not_lt_zero _), by simpa using h⟩
    · have hw' : w ∈ _ := (List.mem_cons.mp hw).resolve_left (fun q => e q.symm)
      obtain ⟨j, h1, h2, h3, h4⟩ := ih hw'
      refine ⟨j + 1, Nat.succ_lt_succ h1, h2, fun m hm => ?_, ?_⟩
      · cases m with
        | zero => simp [isInt, e]
        | succ m => exact h3 m (Nat.lt_of_succ_lt_succ hm)
      · rw [List.eraseIdx_cons_succ, List.erase_cons_tail (by simpa using e)]
        exact .cons i t h4
theorem remove_in {ys : List Value} {ns : List Int} {n : Nat} {v : Int} {t : Tok} {Q : Value → Shared → Prop} (pre post : List (Addr × Obj)) (F : Fr g L s.heap m) (N : News g L s.heap (pre ++ (D, lst ys n) :: post)) (hpre : ∀ p ∈ pre, p.1 ≠ D) (hpost : ∀ p ∈ post, p.1 ≠ D)
    (hI : IntsAre ys ns) (hm : v ∈ ns) (hz : ys.length < 1000) (k : ∀ h' ys' n', Fr g L h' m → News g L h' (pre ++ (D, lst ys' n') :: post) → IntsAre ys' (ns.erase v) → Q .none { s with heap := h' }) : wpAny (model prog w) A (call (.builtin "list.remove") [.ref D, .int v t]) Q E s := by
  have z := N (D, lst ys n) (by simp)
  obtain ⟨j, h1, h2, h3, h4⟩ := ints_erase hI hm
  have hg : ∀ i (h : i < ys.toArray.size), ys.toArray[i] = ys.getD i .none := fun i h => by
    rw [← List.getElem_eq_getD (h := by simpa using h)]; simp
  refine call_meets PySem.F.slot_list_remove ⟨_, z.1, rfl⟩ PySem.F.entry_list_remove (PySem.F.args_list_remove_2 _ _)
    (MeetsSeq.list_remove D ys.toArray n (.int v t) (isInt v) (fun y hy => eq_isInt v t hI y (by simpa using hy)) j (by simpa using h1) (by rw [hg]; exact h2) (fun i hi hij => by rw [hg]; exact h3 i hij) (by rw [List.size_toArray]; exact Nat.le_trans (Nat.le_of_lt hz) (by decide))) ⟨z.1, ?_⟩
  have hs := Heap.SameBut.update s.heap D (Obj.mapSeq fun xs => xs.eraseIdxIfInBounds j)
  obtain ⟨c, hc⟩ : ∃ c, (s.heap.update D (Obj.mapSeq fun xs => xs.eraseIdxIfInBounds j)).get? D = some (lst (ys.eraseIdx j) c) := by
    have q := get?_update_seq z.1 fun xs => xs.eraseIdxIfInBounds j
    have e : ys.toArray.eraseIdxIfInBounds j = (ys.eraseIdx j).toArray := by simp
    dsimp only at q
    rw [e] at q
    exact ⟨_, q⟩
  exact k _ _ _ (F.change hs z.2.1 z.2.2) (ledger_set N hpre hpost hs hc) h4
end
theorem nodup_le : ∀ (n : Nat) (l : List Nat), l.Nodup → (∀ x ∈ l, x < n) → l.length ≤ n
  | 0, [], _, _ => Nat.le_refl _
  | 0, x :: _, _, h => absurd (h x (.head _)) (Nat.not_lt_zero _)
  | n + 1, l, hd, h => by
    by_cases hn : n ∈ l
    · have ih := nodup_le n (l.erase n) (hd.erase _) fun x hx => by
        have h1 := h x (List.mem_of_mem_erase hx)
        have h2 : x ≠ n := (hd.mem_erase_iff.mp hx).1
        omega
      rw [List.length_erase_of_mem hn] at ih
      omega
    · have ih := nodup_le n l hd fun x hx => by
        have h1 := h x hx
        have h2 : x ≠ n := fun q => hn (q ▸ hx)
        omega
      omega
end Mine
end
section
open PySem PySem.W PyProof.Rows PySem.Calls
open LCg (NsObj)
set_option Elab.async false
set_option maxRecDepth 100000
set_option maxHeartbeats 8000000
namespace Mine
local macro_rules | `(tactic| walk_at "me") => `(tactic| repeat (first | exact memH | refine memT ?_))
local macro_rules | `(tactic| walk_at "sub") => `(tactic| repeat (first | exact fun _ h => h | (refine subC ?_ ?_; focus (walk_at "me"; done)) | (refine allC ?_ ?_; focus (first | (refine Or.inl ?_; walk_at "me"; done) | exact Or.inr rfl | exact Or.inr (Or.inl rfl) | exact Or.inr (Or.inr rfl))) | refine orI ?_ | refine subT ?_))
local macro_rules | `(tactic| walk_at "wk") => `(tactic| repeat ((try dsimp only); (fail_if_success (with_reducible show wpAny _ _ (exec (Stmt.While _ _ _ _) _) _ _ _)); (fail_if_success (with_reducible show wpAny _ _ (exec (Stmt.For _ _ _ _ _) _) _ _ _)); walk1))
theorem fillL5 : PySem.Challenge.rw_mq0156_01 = PySem.Challenge.rw_mq0156_01 ∧ Mine.hd.heap_39 = Mine.hd.heap_39 := by k_fill; exact ⟨rfl, rfl⟩
def natInts (l : List Nat) : List Int := l.map fun (n : Nat) => (n : Int)
/-- the list of what was found, as it lies -/
inductive Founds (imm : List (Addr × Obj)) : List Value → List (Nat × List Nat) → Prop
  | nil : Founds imm [] []
  | cons {a b t n n' sv v fs vs es} : (a, lst [.int (v : Nat) t, .ref b] n) ∈ imm → (b, lst sv n') ∈ imm → IntsAre sv (natInts fs) → Founds imm vs es → Founds imm (.ref a :: vs) ((v, fs) :: es)
theorem Founds.mono {imm imm' : List (Addr × Obj)} (s : ∀ p ∈ imm, p ∈ imm') {vs : List Value} {es : List (Nat × List Nat)} (h : Founds imm vs es) : Founds imm' vs es := by
  induction h with
  | nil => exact .nil
  | cons h1 h2 h3 _ ih => exact .cons (s _ h1) (s _ h2) h3 ih
theorem Founds.append {imm : List (Addr × Obj)} {vs vs' : List Value} {es es' : List (Nat × List Nat)} (h : Founds imm vs es) (h' : Founds imm vs' es') : Founds imm (vs ++ vs') (es ++ es') := by
  induction h with
  | nil => exact h'
  | cons h1 h2 h3 _ ih => exact .cons h1 h2 h3 ih
theorem Founds.len {imm : List (Addr × Obj)} {vs : List Value} {es : List (Nat × List Nat)} (h : Founds imm vs es) : vs.length = es.length := by
  induction h with
  | nil => rfl
  | cons _ _ _ _ ih => simp [ih]
theorem PInv.found_len {mk : Nat → Int} {ρ : Int} {evs : List (Nat × Nat)} {force : List Nat} {found : List (Nat × List Nat)} (I : PInv mk ρ evs force found) : found.length ≤ 5 := by
  obtain ⟨vs, a, b, c⟩ := I.fo
  rw [a, List.length_map]
  refine nodup_le 5 vs (b.imp fun {x y} h => ?_) fun x hx => ((c x).mp hx).1
  rintro rfl
  omega
theorem natInts_erase (w : Nat) : ∀ l : List Nat, (natInts l).erase (w : Int) = natInts (l.erase w)
  | [] => rfl
  | x :: l => by
    show ((x : Int) :: natInts l).erase (w : Int) = natInts ((x :: l).erase w)
    by_cases h : x = w
    · subst h; simp
    · rw [List.erase_cons_tail (by simp; omega), List.erase_cons_tail (by simpa using h), natInts_erase w l]; rfl
theorem natInts_toNat : ∀ l : List Nat, (natInts l).map Int.toNat = l
  | [] => rfl
  | x :: l => by show ((x : Int).toNat :: (natInts l).map Int.toNat) = _; rw [natInts_toNat l]; simp
theorem nat_back {n : List Int} {l : List Nat} (hp : n.Perm (natInts l)) (ho : n.Pairwise (· ≤ ·)) : ∃ sf : List Nat, n = natInts sf ∧ sf.Perm l ∧ sf.Pairwise (· ≤ ·) := by
  have hn : ∀ i ∈ n, ∃ k : Nat, i = k := fun i hi => by
    obtain ⟨k, _, e⟩ := List.mem_map.mp (hp.mem_iff.mp hi)
    exact ⟨k, e.symm⟩
  have e : n = natInts (n.map Int.toNat) := by
    unfold natInts
    rw [List.map_map]
    conv => lhs; rw [← List.map_id n]
    refine List.map_congr_left fun i hi => ?_
    obtain ⟨k, rfl⟩ := hn i hi
    simp
  refine ⟨n.map Int.toNat, e, ?_, ?_⟩
  · have := hp.map Int.toNat
    rw [natInts_toNat] at this
    exact this
  · rw [List.pairwise_map]
    exact ho.imp fun h => by omega
def Off3' (lh lf lo : Addr) (xs : List (Addr × Obj)) : Prop := ∀ p ∈ xs, p.1 ≠ lh ∧ p.1 ≠ lf ∧ p.1 ≠ lo
theorem look_facts {g h : Heap} {L lh lf lo lk l' D' : Addr} {oh of oo ok o1 o2 o3 o4 o5 : Obj} {v' : List Value} {c' w : Nat} {tw : Tok} {sf : List Nat} {imm imm' : List (Addr × Obj)}
    (N : News g L h ((l', lst [.int (w : Nat) tw, .ref D'] 0) :: (D', lst v' c') :: (lh, oh) :: (lf, of) :: (lo, oo) :: (lk, ok) :: cells5 L o1 o2 o3 o4 o5 (imm' ++ imm)))
    (l1 : AllLt l' ((D', lst v' c') :: (lh, oh) :: (lf, of) :: (lo, oo) :: (lk, ok) :: cells5 L o1 o2 o3 o4 o5 (imm' ++ imm))) (l2 : AllLt D' ((lh, oh) :: (lf, of) :: (lo, oo) :: (lk, ok) :: cells5 L o1 o2 o3 o4 o5 (imm' ++ imm)))
    (hoff : Off3' lh lf lo ((lk, ok) :: cells5 L o1 o2 o3 o4 o5 (imm' ++ imm))) (hi : IntsAre v' (natInts sf)) :
    ∃ imm2, News g L h ((lh, oh) :: (lf, of) :: (lo, oo) :: (lk, ok) :: cells5 L o1 o2 o3 o4 o5 (imm2 ++ imm)) ∧ (∀ p ∈ imm', p ∈ imm2) ∧ Off3' lh lf lo ((lk, ok) :: cells5 L o1 o2 o3 o4 o5 (imm2 ++ imm)) ∧ Founds (imm2 ++ imm) [.ref l'] [(w, sf)] := by
  have h1 := allLt_ne l1
  have h2 := allLt_ne l2
  refine ⟨(l', lst [.int (w : Nat) tw, .ref D'] 0) :: (D', lst v' c') :: imm', fun p hp => N p ?_, fun p hp => .tail _ (.tail _ hp), fun p hp => ?_, .cons (.head _) (.tail _ (.head _)) hi .nil⟩
  · revert p; walk_at "sub"
  · have : p ∈ (lk, ok) :: cells5 L o1 o2 o3 o4 o5 (imm' ++ imm) ∨ p.1 = l' ∨ p.1 = D' := by
      revert p; walk_at "sub"
    rcases this with q | q | q
    · exact hoff p q
    · rw [q]; exact ⟨Ne.symm (h1 (lh, oh) (by walk_at "me")), Ne.symm (h1 (lf, of) (by walk_at "me")), Ne.symm (h1 (lo, oo) (by walk_at "me"))⟩
    · rw [q]; exact ⟨Ne.symm (h2 (lh, oh) (by walk_at "me")), Ne.symm (h2 (lf, of) (by walk_at "me")), Ne.symm (h2 (lo, oo) (by walk_at "me"))⟩
theorem KeyIn.mono {keyD : Int → List PyData} {nums : List Int} {n : Nat} {ks : List Value} {imm imm' : List (Addr × Obj)} (h : KeyIn keyD nums n ks imm) (s : ∀ p ∈ imm, p ∈ imm') : KeyIn keyD nums n ks imm' :=
  ⟨h.1, fun j hj => by obtain ⟨r, vs, ep, a, b, c⟩ := h.2 j hj; exact ⟨r, vs, ep, a, s _ b, c⟩⟩
theorem key_ltIn {keyD : Int → List PyData} (K : KeyLaw keyD) {w : World} {nums : List Int} {ks : List Value} {imm : List (Addr × Obj)} {b : Heap} (hb : Knows b imm) (KI : KeyIn keyD nums 13 ks imm) {i j : Nat} (hi : i < 13) (hj : j < 13) :
    LtIn w b (ks.getD i .none) (ks.getD j .none) (decide (markD nums i < markD nums j)) := by
  obtain ⟨r, vs, ep, k1, k2, k3⟩ := KI.2 i hi
  obtain ⟨r', vs', ep', l1, l2, l3⟩ := KI.2 j hj
  rw [List.getD_eq_getElem?_getD, k1, List.getD_eq_getElem?_getD, l1]
  have e : ∀ n, (PyData.list (keyD n)).canLay0 = true := fun n => by rw [PyData.canLay0]; exact K.lay n
  have d : ∀ n, (PyData.list (keyD n)).depth ≤ 50 := fun n => by rw [depth_list]; have := K.dep n; omega
  exact ltIn_reads (reads_lst (hb _ k2) (reads_atoms k3)) (reads_lst (hb _ l2) (reads_atoms l3)) (e _) (e _) (d _) (by rw [ltO]; exact K.lt _ _)
theorem keyIdx_lt {e : Nat × Nat} (h : valid e) : keyIdx e < 13 := by unfold valid at h; unfold keyIdx; split <;> (try split) <;> omega
local macro_rules | `(tactic| walk_at "wi") => `(tactic| repeat ((try dsimp only); (fail_if_success (with_reducible show wpAny _ _ (execs (Stmt.If _ _ _ _ :: _) _) _ _ _)); (fail_if_success (with_reducible show wpAny _ _ (exec (Stmt.While _ _ _ _) _) _ _ _)); (fail_if_success (with_reducible show wpAny _ _ (exec (Stmt.For _ _ _ _ _) _) _ _ _)); walk1))
inductive WInv (s : Shared) (g : Heap) (L lk lh lf lo : Addr) (ks : List Value) (nK : Nat) (nums : List Int) (imm : List (Addr × Obj)) (o1 o2 o3 o4 o5 : Obj) (n : Nat) (s' : Shared) : Prop
  | mk (h : Heap) (tk : Nat) (m : Str → Option Value) (hs : List Value) (nH : Nat) (fs : List Value) (nF : Nat) (fds : List Value) (nO : Nat) (imm' : List (Addr × Obj)) (es : List (Nat × Nat)) (ρ : Int) (force : List Nat) (found : List (Nat × List Nat))
    (e : s' = { s with heap := h, toks := tk }) (en : n = meas (markD nums) ρ) (F : Fr g L h m)
    (e1 : m (Str.ofString "heap") = some (.ref lh)) (e2 : m (Str.ofString "force") = some (.ref lf)) (e3 : m (Str.ofString "found") = some (.ref lo))
    (N : News g L h ((lh, lst hs nH) :: (lf, lst fs nF) :: (lo, lst fds nO) :: (lk, lst ks nK) :: cells5 L o1 o2 o3 o4 o5 (imm' ++ imm))) (hoff : Off3' lh lf lo ((lk, lst ks nK) :: cells5 L o1 o2 o3 o4 o5 (imm' ++ imm)))
    (hE : Ents ks (imm' ++ imm) hs es) (hH : HeapEv (markD nums) es) (hfs : IntsAre fs (natInts force)) (hfd : Founds (imm' ++ imm) fds found) (hI : PInv (markD nums) ρ es force found) (hle : es.length ≤ 9) : WInv s g L lk lh lf lo ks nK nums imm o1 o2 o3 o4 o5 n s'
inductive WMid (s : Shared) (g : Heap) (L lk lh lf lo a0 : Addr) (ks : List Value) (nK : Nat) (nums : List Int) (imm imm' : List (Addr × Obj)) (o1 o2 o3 o4 o5 : Obj) (ρ : Int) (s' : Shared) : Prop
  | mk (h : Heap) (tk : Nat) (m : Str → Option Value) (hs : List Value) (nH : Nat) (fs : List Value) (nF : Nat) (fds : List Value) (nO : Nat) (imm2 : List (Addr × Obj)) (es : List (Nat × Nat)) (ρ' : Int) (force : List Nat) (found : List (Nat × List Nat))
    (e : s' = { s with heap := h, toks := tk }) (hms : meas (markD nums) ρ' < meas (markD nums) ρ) (F : Fr g L h m)
    (e1 : m (Str.ofString "heap") = some (.ref lh)) (e2 : m (Str.ofString "force") = some (.ref lf)) (e3 : m (Str.ofString "found") = some (.ref lo)) (e4 : m (Str.ofString "top") = some (.ref a0)) (e5 : m (Str.ofString "taken") = some (.ref a0))
    (N : News g L h ((lh, lst hs nH) :: (lf, lst fs nF) :: (lo, lst fds nO) :: (lk, lst ks nK) :: cells5 L o1 o2 o3 o4 o5 (imm2 ++ imm))) (hoff : Off3' lh lf lo ((lk, lst ks nK) :: cells5 L o1 o2 o3 o4 o5 (imm2 ++ imm))) (hsub : ∀ p ∈ imm', p ∈ imm2)
    (hE : Ents ks (imm2 ++ imm) hs es) (hH : HeapEv (markD nums) es) (hfs : IntsAre fs (natInts force)) (hfd : Founds (imm2 ++ imm) fds found) (hI : PInv (markD nums) ρ' es force found) (hle : es.length ≤ 9) : WMid s g L lk lh lf lo a0 ks nK nums imm imm' o1 o2 o3 o4 o5 ρ s'
theorem st_while {prog : Program} {w : World} {A : Around} {E : Value → Shared → Prop} {s : Shared} {g : Heap} {L a lk lh lf lo : Addr} {cd : Value} {sc : Scope} {st : Stmt} {Q : Flow → Shared → Prop} {ks hs : List Value} {nK nH nF nO : Nat} {nums : List Int} {imm : List (Addr × Obj)} {o1 o2 o3 o4 o5 : Obj} {keyD : Int → List PyData} {es : List (Nat × Nat)} {m : Str → Option Value} {ρ : Int}
    (hsc : lawScope = some sc) (hst : lawStmt 8 = some st) (G : Gd w g) (hh : A.handled = none) (hu : A.units + 1000 < cLine) (hroom : A.depth + 10 < recursionLimit) (K : KeyLaw keyD)
    (F : Fr g L s.heap m) (em : m (Str.ofString "heap") = some (.ref lh) ∧ m (Str.ofString "force") = some (.ref lf) ∧ m (Str.ofString "found") = some (.ref lo))
    (N : News g L s.heap ((lh, lst hs nH) :: (lf, lst [] nF) :: (lo, lst [] nO) :: (lk, lst ks nK) :: cells5 L o1 o2 o3 o4 o5 imm)) (hd : lh ≠ lf ∧ lh ≠ lo ∧ lf ≠ lo) (hoff : Off3' lh lf lo ((lk, lst ks nK) :: cells5 L o1 o2 o3 o4 o5 imm))
    (d3 : o3.data = .cell (some (.ref lk))) (KI : KeyIn keyD nums 13 ks imm) (hE : Ents ks imm hs es) (hH : HeapEv (markD nums) es) (hI : PInv (markD nums) ρ es [] []) (hle : es.length ≤ 9)
    (k : ∀ h tk m lh lo fds nH nO nF fs imm' found ρ' force, Fr g L h m → m (Str.ofString "heap") = some (.ref lh) → m (Str.ofString "found") = some (.ref lo) →
      News g L h ((lh, lst [] nH) :: (lf, lst fs nF) :: (lo, lst fds nO) :: (lk, lst ks nK) :: cells5 L o1 o2 o3 o4 o5 (imm' ++ imm)) → Founds (imm' ++ imm) fds found → PInv (markD nums) ρ' [] force found → Off3' lh lf lo ((lk, lst ks nK) :: cells5 L o1 o2 o3 o4 o5 (imm' ++ imm)) → lh ≠ lf ∧ lh ≠ lo ∧ lf ≠ lo → Q .next { s with heap := h, toks := tk }) :
    WpC (model prog w) A (exec st (lenv sc L a cd)) Q E s := by
  refine ⟨wpC_any ?_⟩
  obtain rfl : _ = st := Option.some.inj (show some _ = some st from hst)
  obtain rfl : _ = sc := Option.some.inj (show some _ = some sc from hsc)
  obtain ⟨mean, mg, mb, T⟩ := id G.T
  have X := G.K
  refine wpAny_While ?_
  refine while_inv (WInv s g L lk lh lf lo ks nK nums imm o1 o2 o3 o4 o5) _
    ⟨_, _, m, hs, nH, [], nF, [], nO, [], es, ρ, [], [], rfl, rfl, F, em.1, em.2.1, em.2.2, N, hoff, hE, hH, (show IntsAre [] [] from .nil), .nil, hI, hle⟩ ?_
  clear F N hE hH hI hoff em hle
  rintro n s' ⟨h, tk, m, hs, nH, fs, nF, fds, nO, imm', es, ρ, force, found, rfl, rfl, F, em1, em2, em3, N, hoff, hE, hH, hfs, hfd, hI, hle⟩
  replace F := fputs [(Str.ofString "heap", _), (Str.ofString "force", _), (Str.ofString "found", _)] F ⟨em1, em2, em3, trivial⟩
  simp only [bput] at F
  walk_at "wk"
  have hlen9 : hs.length ≤ 9 := by rw [hE.len]; exact hle
  refine PyProof.Rows.len_list (News.isList N (.head _)) (by simp; omega) ?_
  rw [List.size_toArray]
  dsimp only
  generalize tk + _ = t0
  walk_at "wk"
  rotate_left
  · rename ¬ _ < _ => hz
    have hs0 : hs = [] := List.length_eq_zero_iff.mp (by omega)
    subst hs0
    cases hE
    refine wpAny_execs_nil ?_
    exact k h _ _ lh lo fds nH nO nF fs imm' found ρ force F rfl rfl N hfd hI hoff hd
  cases hE with
  | nil => rename (0 : Int) < _ => hz; simp at hz
  | @cons v0 e0 ht et x0 hEt => ?_
  obtain ⟨a0, kv, tk0, tw0, n0, rfl, hm0, hk0⟩ := id x0
  have hm0' : (a0, lst [kv, .int (e0.1 : Nat) tk0, .int (e0.2 : Nat) tw0] n0) ∈ (lk, lst ks nK) :: cells5 L o1 o2 o3 o4 o5 (imm' ++ imm) := .tail _ (mem_cells hm0)
  have N1 : News g L h ((a0, lst [kv, .int (e0.1 : Nat) tk0, .int (e0.2 : Nat) tw0] n0) :: (lh, lst (.ref a0 :: ht) nH) :: (lf, lst fs nF) :: (lo, lst fds nO) :: (lk, lst ks nK) :: cells5 L o1 o2 o3 o4 o5 (imm' ++ imm)) := fun p hp => by
    rcases List.mem_cons.mp hp with rfl | hp
    · exact N _ (.tail _ (.tail _ (.tail _ hm0')))
    · exact N _ hp
  clear N
  refine item_at 0 (News.isList N1 (.tail _ (.head _))) rfl (Nat.zero_lt_succ _) (Nat.lt_of_le_of_lt hlen9 (by decide)) ?_
  show wpAny _ _ _ _ _ _
  rw [show (Value.ref a0 :: ht).getD 0 .none = .ref a0 from rfl]
  walk_at "wk"
  rename Fr _ _ _ _ => F
  rename News _ _ _ _ => N
  refine unpackL F N (News.isList N (.head _)) hh rfl rfl ?_
  clear F N
  intro h₁ F N
  walk_at "wi"
  rename Fr _ _ _ _ => F
  rename News _ _ _ _ => N
  have hv0 := (turn_facts hI (heapEv_min hH)).1.1
  have hkv : kv = ks.getD (keyIdx e0) .none := by rw [List.getD_eq_getElem?_getD, hk0]; rfl
  replace F := fputs [(Str.ofString "heap", _), (Str.ofString "force", _), (Str.ofString "found", _), (Str.ofString "top", _), (Str.ofString "key", _), (Str.ofString "kind", _), (Str.ofString "which", _)] F ⟨rfl, rfl, rfl, rfl, rfl, rfl, rfl, trivial⟩
  simp only [bput] at F
  refine mid (WMid s g L lk lh lf lo a0 ks nK nums imm imm' o1 o2 o3 o4 o5 ρ) ?_ ?_
  · walk1
    refine evalMid (fun b s' => ∃ h tk, ∃ m2 : Str → Option Value, s' = { s with heap := h, toks := tk } ∧ b = (decide (e0.1 = 1) && decide (markD nums (5 + 2 * e0.2) < markD nums (6 + 2 * e0.2))) ∧ Fr g L h (fun x => if x = Str.ofString "heap" then some (.ref lh) else if x = Str.ofString "force" then some (.ref lf) else if x = Str.ofString "found" then some (.ref lo) else if x = Str.ofString "top" then some (.ref a0) else if x = Str.ofString "key" then some kv else if x = Str.ofString "kind" then some (.int (e0.1 : Nat) tk0) else if x = Str.ofString "which" then some (.int (e0.2 : Nat) tw0) else m2 x) ∧
      News g L h ((a0, lst [kv, .int (e0.1 : Nat) tk0, .int (e0.2 : Nat) tw0] n0) :: (lh, lst (.ref a0 :: ht) nH) :: (lf, lst fs nF) :: (lo, lst fds nO) :: (lk, lst ks nK) :: cells5 L o1 o2 o3 o4 o5 (imm' ++ imm))) ?_ ?_
    · walk_at "wk"
      · rename ((e0.1 : Nat) : Int) = 1 => h1
        have h1' : e0.1 = 1 := by omega
        have h2' : e0.2 < 4 := by unfold valid at hv0; omega
        refine item_at (6 + 2 * e0.2) (News.isList N (.tail _ (.tail _ (.tail _ (.tail _ (.head _)))))) (by omega) (by rw [KI.1]; omega) (by rw [KI.1]; decide) ?_
        have hke : keyIdx e0 = 5 + 2 * e0.2 := by unfold keyIdx; rw [if_pos h1']
        rw [hkv, hke]
        refine key_ltIn K (imm := imm' ++ imm) (fun p hp => (N p (.tail _ (.tail _ (.tail _ (.tail _ (.tail _ (mem_cells hp))))))).1) (KI.mono fun p hp => List.mem_append_right _ hp) (by omega) (by omega) prog A _ _ _ (fun c o e => e) (by omega) ?_
        rw [hkv, hke] at F N
        walk_at "wk"
        · exact ⟨_, _, _, rfl, by simp [h1', *], F, N⟩
        · exact ⟨_, _, _, rfl, by simp [h1', *], F, N⟩
      · rename ((e0.1 : Nat) : Int) ≠ 1 => h1
        have h1' : e0.1 ≠ 1 := by omega
        exact ⟨_, _, _, rfl, by simp [h1'], F, N⟩
    · clear F N
      rintro b s' ⟨h, tk, m2, rfl, hb, F, N⟩
      cases b with
      | true =>
        rw [if_pos rfl]
        obtain ⟨hb1, hb2⟩ := Bool.and_eq_true_iff.mp hb.symm
        replace hb1 := of_decide_eq_true hb1
        replace hb2 := of_decide_eq_true hb2
        have h2' : e0.2 < 4 := by unfold valid at hv0; omega
        walk_at "wk"
        rename Fr _ _ _ _ => F
        rename News _ _ _ _ => N
        refine item_at (6 + 2 * e0.2) (News.isList N (.tail _ (.tail _ (.tail _ (.tail _ (.head _)))))) (by omega) (by rw [KI.1]; omega) (by rw [KI.1]; decide) ?_
        walk_at "wk"
        rename Fr _ _ _ _ => F
        rename News _ _ _ _ => N
        rename _ ∧ _ ∧ _ ∧ _ => l1
        rename Addr => l'
        rename Heap => h₃
        have hne : ∀ p ∈ (a0, lst [kv, .int (e0.1 : Nat) tk0, .int (e0.2 : Nat) tw0] n0) :: (lh, lst (.ref a0 :: ht) nH) :: (lf, lst fs nF) :: (lo, lst fds nO) :: (lk, lst ks nK) :: cells5 L o1 o2 o3 o4 o5 (imm' ++ imm), p.1 ≠ l' := allLt_ne (d := l') l1
        have x1 : EntOk ks [(l', lst [ks.getD (6 + 2 * e0.2) .none, .int 0 (tk + 1 + 1 + 1 + 1), .int (e0.2 : Nat) tw0] 0)] (.ref l') (0, e0.2) :=
          ⟨l', _, _, tw0, 0, rfl, .head _, by show ks[6 + 2 * e0.2]? = _; rw [List.getD_eq_getElem?_getD, List.getElem?_eq_getElem (by rw [KI.1]; omega)]; rfl⟩
        have N2 : News g L h₃ ((lh, lst (.ref a0 :: ht) nH) :: (lf, lst fs nF) :: (lo, lst fds nO) :: (lk, lst ks nK) :: cells5 L o1 o2 o3 o4 o5 (((l', lst [ks.getD (6 + 2 * e0.2) .none, .int 0 (tk + 1 + 1 + 1 + 1), .int (e0.2 : Nat) tw0] 0) :: imm') ++ imm)) := fun p hp => N p (by
          revert p; walk_at "sub")
        generalize lst [ks.getD (6 + 2 * e0.2) .none, .int 0 (tk + 1 + 1 + 1 + 1), .int (e0.2 : Nat) tw0] 0 = oE at x1 N2
        clear N
        have hI1 : PInv (markD nums) ρ ((1, e0.2) :: et) force found := by
          have : e0 = (1, e0.2) := Prod.ext hb1 rfl
          rw [← this]; exact hI
        have hle1 : rank (markD nums) e0 = rank (markD nums) (1, e0.2) := by rw [show e0 = (1, e0.2) from Prod.ext hb1 rfl]
        have hmin1 : ∀ e ∈ (1, e0.2) :: et, rank (markD nums) (1, e0.2) ≤ rank (markD nums) e := by
          have : e0 = (1, e0.2) := Prod.ext hb1 rfl
          rw [← this]; exact heapEv_min hH
        have hoff2 : Off3' lh lf lo ((lk, lst ks nK) :: cells5 L o1 o2 o3 o4 o5 (((l', oE) :: imm') ++ imm)) := by
          intro p hp
          have : p ∈ (lk, lst ks nK) :: cells5 L o1 o2 o3 o4 o5 (imm' ++ imm) ∨ p.1 = l' := by
            revert p; walk_at "sub"
          rcases this with q | q
          · exact hoff p q
          · rw [q]; exact ⟨Ne.symm (hne (lh, lst (.ref a0 :: ht) nH) (by walk_at "me")), Ne.symm (hne (lf, lst fs nF) (by walk_at "me")), Ne.symm (hne (lo, lst fds nO) (by walk_at "me"))⟩
        have hsub : ∀ p ∈ imm' ++ imm, p ∈ ((l', oE) :: imm') ++ imm := fun p hp => .tail _ hp
        have z := N2 (lh, lst (.ref a0 :: ht) nH) (.head _)
        have hneh : ∀ p ∈ (lf, lst fs nF) :: (lo, lst fds nO) :: (lk, lst ks nK) :: cells5 L o1 o2 o3 o4 o5 (((l', oE) :: imm') ++ imm), p.1 ≠ lh := by
          intro p hp
          rcases List.mem_cons.mp hp with rfl | hp
          · exact Ne.symm hd.1
          · rcases List.mem_cons.mp hp with rfl | hp
            · exact Ne.symm hd.2.1
            · exact (hoff2 p hp).1
        have hb : Knows (hideAll h₃ [lh]) (((l', oE) :: imm') ++ imm) := fun p hp => hideAll_get _ (N2 p (.tail _ (.tail _ (.tail _ (.tail _ (mem_cells hp)))))).1 (by simpa using (hoff2 p (.tail _ (mem_cells hp))).1)
        have KI2 := KI.mono (imm' := ((l', oE) :: imm') ++ imm) fun p hp => List.mem_append_right _ hp
        have hE0 : Ents ks (((l', oE) :: imm') ++ imm) (.ref a0 :: ht) (e0 :: et) := .cons (x0.mono hsub) (hEt.mono hsub)
        have x1' : EntOk ks (((l', oE) :: imm') ++ imm) (.ref l') (0, e0.2) := x1.mono fun p hp => by rw [List.mem_singleton.mp hp]; exact .head _
        have hsm : ∀ e ∈ e0 :: et, small e := fun e he => ((hI.mem e).mp he).1.small
        have hHv := heap_from (mk := markD nums) (f := evH (hideAll h₃ [lh])) (hs := .ref a0 :: ht) (by rw [ents_map hb hE0]; exact hH)
        obtain ⟨q1, q2⟩ := replace_heap (fun v => rank (markD nums) (evH (hideAll h₃ [lh]) v)) (v := .ref l') hHv
        refine wpAny_call (heapreplace_spec (b := hideAll h₃ [lh]) (lt := ltr fun v => rank (markD nums) (evH (hideAll h₃ [lh]) v)) (G.keeps (stays_hide1 F z.2.2)) (fun c o e => of_hideAll _ e) (hideAll_none _ (.head _)) z.1 (Nat.zero_lt_succ _) (Nat.lt_of_le_of_lt hlen9 (by decide))
          (lt_all K hb KI2 (ents_small (.cons x1' hE0) (fun e he => by
            rcases List.mem_cons.mp he with rfl | he
            · exact (valid0 h2').small
            · exact hsm e he))) (by omega) (by omega) ?_)
        intro h₄ tk₄ k1 k2 k3
        obtain ⟨F2, N3⟩ := fr_after F N2 (Upd.head hneh) k3 k2
        obtain ⟨es', r1, r2, r3⟩ := ents_after hb (.cons x1' (hEt.mono hsub)) q2 q1
        clear F N2
        rw [show (Value.ref a0 :: ht).getD 0 .none = .ref a0 from rfl]
        have hfl : fs.length < 1000 := by
          rw [hfs.length, natInts, List.length_map]
          exact Nat.lt_of_le_of_lt (nodup_le 4 force hI.fnd fun w hw => ((hI.fmem w).mp hw).1) (by decide)
        walk_at "wk"
        rename Fr _ _ _ _ => F
        rename News _ _ _ _ => N
        refine append_in [(lh, _)] ((lo, lst fds nO) :: (lk, lst ks nK) :: cells5 L o1 o2 o3 o4 o5 (((l', oE) :: imm') ++ imm)) F N ?_ ?_ hfl ?_
        · intro p hp; rw [List.mem_singleton.mp hp]; exact hd.1
        · intro p hp
          rcases List.mem_cons.mp hp with rfl | hp
          · exact Ne.symm hd.2.2
          · exact (hoff2 p hp).2.1
        intro h₅ F N
        walk_at "wk"
        have hlen : es'.length ≤ 9 := by rw [r2.length_eq]; exact hle
        exact ⟨_, _, _, _, _, _, _, _, _, (l', oE) :: imm', es', rank (markD nums) (1, e0.2), force ++ [e0.2], found, rfl, hle1 ▸ meas_lt ((hI.mem e0).mp (.head _)), F, rfl, rfl, rfl, rfl, rfl, N, hoff2, fun p hp => .tail _ hp, r1, r3,
          (by rw [natInts, List.map_append]; exact ints_snoc hfs _ _), hfd.mono hsub, step_begin hI1 hmin1 hb2 r2, hlen⟩
      | false =>
        rw [if_neg Bool.false_ne_true]
        have N2 : News g L h ((lh, lst (.ref a0 :: ht) nH) :: (lf, lst fs nF) :: (lo, lst fds nO) :: (lk, lst ks nK) :: cells5 L o1 o2 o3 o4 o5 (imm' ++ imm)) := fun p hp => N p (.tail _ hp)
        have hna : ∀ w, e0 = (1, w) → ¬ active (markD nums) w := fun w q ha => by
          rw [q] at hb
          unfold active at ha
          simp [ha] at hb
        have hmin := heapEv_min hH
        have hsm : ∀ e ∈ e0 :: et, small e := fun e he => ((hI.mem e).mp he).1.small
        have hfl : fs.length < 64 := by
          rw [hfs.length, natInts, List.length_map]
          exact Nat.lt_of_le_of_lt (nodup_le 4 force hI.fnd fun w hw => ((hI.fmem w).mp hw).1) (by decide)
        have hms := meas_lt ((hI.mem e0).mp (.head _))
        obtain ⟨items, last, hil⟩ : ∃ items last, (Value.ref a0 :: ht) = items ++ [last] := ⟨_, _, (List.dropLast_concat_getLast (by simp)).symm⟩
        have hneh : ∀ p ∈ (lf, lst fs nF) :: (lo, lst fds nO) :: (lk, lst ks nK) :: cells5 L o1 o2 o3 o4 o5 (imm' ++ imm), p.1 ≠ lh := by
          intro p hp
          rcases List.mem_cons.mp hp with rfl | hp
          · exact Ne.symm hd.1
          · rcases List.mem_cons.mp hp with rfl | hp
            · exact Ne.symm hd.2.1
            · exact (hoff p hp).1
        clear N
        walk_at "wk"
        have z := N2 (lh, lst (.ref a0 :: ht) nH) (.head _)
        have hbk : Knows (hideAll h [lh]) (imm' ++ imm) := fun p hp => hideAll_get _ (N2 p (.tail _ (.tail _ (.tail _ (.tail _ (mem_cells hp)))))).1 (by simpa using (hoff p (.tail _ (mem_cells hp))).1)
        have KI2 := KI.mono (imm' := imm' ++ imm) fun p hp => List.mem_append_right _ hp
        have hE0 : Ents ks (imm' ++ imm) (.ref a0 :: ht) (e0 :: et) := .cons x0 hEt
        have hHv := heap_from (mk := markD nums) (f := evH (hideAll h [lh])) (hs := .ref a0 :: ht) (by rw [ents_map hbk hE0]; exact hH)
        obtain ⟨q1, q2⟩ := pop_heap (fun v => rank (markD nums) (evH (hideAll h [lh]) v)) hHv hil
        have hall : ∀ v ∈ last :: items, v ∈ Value.ref a0 :: ht := fun v hv => by
          rw [hil]
          rcases List.mem_cons.mp hv with rfl | hv
          · simp
          · exact List.mem_append_left _ hv
        refine wpAny_call (heappop_spec (b := hideAll h [lh]) (items := items) (last := last) (lt := ltr fun v => rank (markD nums) (evH (hideAll h [lh]) v)) (G.keeps (stays_hide1 F z.2.2)) (fun c o e => of_hideAll _ e) (hideAll_none _ (.head _)) (hil ▸ z.1)
          (by have := congrArg List.length hil; simp at this; have h9 := hlen9; simp at h9; omega) (fun x hx y hy => lt_all K hbk KI2 (ents_small hE0 hsm) x (hall x hx) y (hall y hy)) (by omega) (by omega) ?_)
        intro h₄ tk₄ ep' k1 k2 k3
        obtain ⟨F2, N3⟩ := fr_after F N2 (Upd.head hneh) k3 k2
        obtain ⟨es', r1, r2, r3⟩ := ents_after hbk hEt q2 q1
        generalize (if items = [] then [] else siftup (ltr fun v => rank (markD nums) (evH (hideAll h [lh]) v)) (items.set 0 last) 0) = hs' at *
        clear F N2
        rw [show (items ++ [last]).getD 0 .none = .ref a0 from by rw [← hil]; rfl]
        have hlen : es'.length ≤ 9 := by rw [r2.length_eq]; exact Nat.le_of_succ_le hle
        have hk3 : e0.1 = 0 ∨ e0.1 = 1 ∨ e0.1 = 2 := by unfold valid at hv0; omega
        rcases hk3 with hk | hk | hk
        · have he : e0 = (0, e0.2) := Prod.ext hk rfl
          have hrk : rank (markD nums) e0 = rank (markD nums) (0, e0.2) := by rw [← he]
          obtain ⟨hwf, hPI⟩ := step_end (mk := markD nums) (w := e0.2) (he ▸ hI) (he ▸ hmin) r2
          walk_at "wk"
          · rename Fr _ _ _ _ => F
            rename News _ _ _ _ => N
            refine remove_in [(lh, _)] ((lo, lst fds nO) :: (lk, lst ks nK) :: cells5 L o1 o2 o3 o4 o5 (imm' ++ imm)) F N ?_ ?_ hfs (List.mem_map_of_mem hwf) (by omega) ?_
            · intro p hp; rw [List.mem_singleton.mp hp]; exact hd.1
            · intro p hp
              rcases List.mem_cons.mp hp with rfl | hp
              · exact Ne.symm hd.2.2
              · exact (hoff p hp).2.1
            intro h₅ ys' n' F N hI'
            rw [natInts_erase] at hI'
            walk_at "wk"
            · exfalso; omega
            · walk_at "wk"
              exact ⟨_, _, _, _, _, _, _, _, _, imm', es', rank (markD nums) e0, force.erase e0.2, found, rfl, hms, F, rfl, rfl, rfl, rfl, rfl, N, hoff, fun p hp => hp, r1, r3, hI', hfd, hrk ▸ hPI, hlen⟩
          · exfalso; omega
        · have he : e0 = (1, e0.2) := Prod.ext hk rfl
          have hrk : rank (markD nums) e0 = rank (markD nums) (1, e0.2) := by rw [← he]
          have hPI := step_dead (mk := markD nums) (w := e0.2) (he ▸ hI) (he ▸ hmin) (hna _ he) r2
          walk_at "wk"
          · exfalso; omega
          · walk_at "wk"
            · exfalso; omega
            · walk_at "wk"
              rename Fr _ _ _ _ => F
              rename News _ _ _ _ => N
              exact ⟨_, _, _, _, _, _, _, _, _, imm', es', rank (markD nums) e0, force, found, rfl, hms, F, rfl, rfl, rfl, rfl, rfl, N, hoff, fun p hp => hp, r1, r3, hfs, hfd, hrk ▸ hPI, hlen⟩
        · have he : e0 = (2, e0.2) := Prod.ext hk rfl
          have hrk : rank (markD nums) e0 = rank (markD nums) (2, e0.2) := by rw [← he]
          walk_at "wk"
          · exfalso; omega
          · walk_at "wk"
            · rename Fr _ _ _ _ => F
              rename News _ _ _ _ => N
              rename IntsAre _ _ => hiv
              rename List.Perm _ (natInts force) => hpv
              rename List.Pairwise _ _ => hov
              rename _ ∧ _ ∧ _ ∧ _ => l1
              rename lh < _ ∧ _ => l1D
              obtain ⟨sf, rfl, hsp, hss⟩ := nat_back hpv hov
              obtain ⟨imm2, N2, hsub, hoff2, hfn⟩ := look_facts N l1 l1D hoff hiv
              clear N l1 l1D
              have hsub2 : ∀ p ∈ imm' ++ imm, p ∈ imm2 ++ imm := fun p hp => by
                rcases List.mem_append.mp hp with q | q
                · exact List.mem_append_left _ (hsub p q)
                · exact List.mem_append_right _ q
              have hfol : fds.length < 1000 := by
                rw [hfd.len]
                exact Nat.lt_of_le_of_lt hI.found_len (by decide)
              refine append_in [(lh, lst hs' ep'), (lf, lst fs nF)] ((lk, lst ks nK) :: cells5 L o1 o2 o3 o4 o5 (imm2 ++ imm)) F N2 ?_ ?_ hfol ?_
              · intro p hp
                revert p
                refine allC ?_ (allC ?_ allN)
                · exact hd.2.1
                · exact hd.2.2
              · intro p hp; exact (hoff2 p hp).2.2
              clear F N2
              intro h₅ F N
              walk_at "wk"
              exact ⟨_, _, _, _, _, _, _, _, _, imm2, es', rank (markD nums) e0, force, found ++ [(e0.2, sf)], rfl, hms, F, rfl, rfl, rfl, rfl, rfl, N, hoff2, hsub, r1.mono hsub2, r3, hfs, (hfd.mono hsub2).append hfn, hrk ▸ step_look (mk := markD nums) (v := e0.2) (he ▸ hI) (he ▸ hmin) r2 hsp hss, hlen⟩
            · exfalso; omega
  · clear F N
    rintro s' ⟨h, tk, m, hs, nH, fs, nF, fds, nO, imm2, es, ρ', force', found', rfl, hms, F, e1, e2, e3, e4, e5, N, hoff', hsub, hE', hH', hfs', hfd', hI', hle'⟩
    replace F := fputs [(Str.ofString "heap", _), (Str.ofString "force", _), (Str.ofString "found", _), (Str.ofString "top", _), (Str.ofString "taken", _)] F ⟨e1, e2, e3, e4, e5, trivial⟩
    simp only [bput] at F
    walk_at "wk"
    have hsub2 : ∀ p ∈ imm' ++ imm, p ∈ imm2 ++ imm := fun p hp => by
      rcases List.mem_append.mp hp with q | q
      · exact List.mem_append_left _ (hsub p q)
      · exact List.mem_append_right _ q
    obtain ⟨as, hr⟩ := ent_reads (b := h) (imm := imm2 ++ imm) (fun p hp => (N p (.tail _ (.tail _ (.tail _ (.tail _ (mem_cells hp)))))).1) (KI.mono fun p hp => List.mem_append_right _ hp) (x0.mono hsub2)
    refine SeqAt.neOverData prog w _ _ _ _ _ _ _ as as _ hr hr (ent_lay K) (ent_lay K) (by have := ent_dep K (nums := nums) (e := e0); rw [Nat.min_self]; omega) ?_
    rw [SeqAt.eqv_refl _ (ent_lay K)]
    walk_at "wk"
    exact ⟨_, hms, h, _, m, hs, nH, fs, nF, fds, nO, imm2, es, ρ', force', found', rfl, rfl, Fr.congr F (fun y => (bput_eq (l := [(Str.ofString "heap", _), (Str.ofString "force", _), (Str.ofString "found", _), (Str.ofString "top", _), (Str.ofString "taken", _)]) ⟨e1, e2, e3, e4, e5, trivial⟩ y).symm), e1, e2, e3, N, hoff', hE', hH', hfs', hfd', hI', hle'⟩
end Mine
end
section
open PySem PySem.W PyProof.Rows PySem.Calls
set_option Elab.async false
set_option maxRecDepth 100000
set_option maxHeartbeats 8000000
namespace Mine
theorem for_listT {prog : Program} {w : World} {A : Around} {R : Result → Shared → Prop} {s : Shared} {g : Heap} {L I l : Addr} {vs : List Value} {elts : List Expr} {x1 : Nat} {pos : Pos} {body : List Stmt} {env : Env} {m : Str → Option Value} {news : List (Addr × Obj)} {o₀ : Obj}
    (J : Nat → (Str → Option Value) → List (Addr × Obj) → Prop) (hh : A.handled = none)
    (hl : ∀ i m news h, J i m news → Fr g L h m → News g L h news → h.IsList l vs.toArray) (hlI : l ≠ I)
    (F : Fr g L s.heap m) (N : News g L s.heap ((I, o₀) :: news)) (hO : liObj l 0 o₀) (hne : ∀ p ∈ news, p.1 ≠ I) (hJ : J 0 m news)
    (turn : ∀ i v m news h tk o, vs[i]? = some v → J i m news → liObj l (i + 1) o → (∀ p ∈ news, p.1 ≠ I) → Fr g L h m → News g L h ((I, o) :: news) →
      wpAny (model prog w) A (assign (.Tuple elts x1 pos) env v) (fun _ s₂ => wpAny (model prog w) A (execs body env) (fun f s₃ => match f with
        | .next => FEnd g L I (liObj l (i + 1)) (J (i + 1)) s s₃
        | .cont => FEnd g L I (liObj l (i + 1)) (J (i + 1)) s s₃
        | .brk => R (.ok .next) s₃
        | .ret v => R (.ok (.ret v)) s₃) (notedBy (model prog w) A env fun e s' => R (.error e) s') s₂) (notedBy (model prog w) A env fun e s' => R (.error e) s') { s with heap := h, toks := tk })
    (done : ∀ m news h tk, J vs.length m news → Fr g L h m → News g L h news → R (.ok .next) { s with heap := h, toks := tk })
    (hv : ∀ v ∈ vs, ∃ T, v = .ref T) :
    codeAny (model prog w) A (.forLoop (.Tuple elts x1 pos) (.ref I) body [] env) R s := by
  have hLI : L ≠ I := fun q => (N _ (.head _)).2.1 q.symm
  have hgI : g.get? I = none := (N _ (.head _)).2.2
  refine codeAny_forLoop_any (fun k s' => ∃ h' tk m' news' i o, s' = { s with heap := h', toks := tk } ∧ liObj l i o ∧ Fr g L h' m' ∧ News g L h' ((I, o) :: news') ∧ (∀ p ∈ news', p.1 ≠ I) ∧ J i m' news' ∧ i ≤ vs.length ∧ k = vs.length + 1 - i) ?_ (vs.length + 1)
    ⟨s.heap, s.toks, m, news, 0, o₀, rfl, hO, F, N, hne, hJ, Nat.zero_le _, rfl⟩
  rintro k s' ⟨h', tk, m', news', i, o, rfl, hO', F', N', hne', hJ', hi, rfl⟩
  have N0 : News g L h' news' := fun p hp => N' p (.tail _ hp)
  by_cases hlt : i < vs.length
  · refine wpAny_pyNext_list_item (x := vs[i]) ⟨_, (N' _ (.head _)).1, hO'⟩ (hl i m' news' h' hJ' F' N0) (by simp [hlt]) fun h₁ hit hs => ?_
    obtain ⟨o₁, ho₁, r⟩ := hit
    have F₁ := fr_ext F' hLI hgI hs.extBut
    have N₁ := news_ext N' hne' hs.extBut ho₁
    obtain ⟨T, eT⟩ := hv vs[i] (List.getElem_mem hlt)
    dsimp only
    rw [eT]
    refine wpAny_letOwnedTupleGo_listiter ⟨_, ho₁, r⟩ ?_
    rw [← eT]
    refine wpAny_mono (turn i vs[i] m' news' h₁ _ o₁ (by simp [hlt]) hJ' r hne' F₁ N₁) (fun _ s₂ h₂ => wpAny_mono h₂ (fun f s₃ h₃ => ?_) fun _ _ e => e) fun _ _ e => e
    cases f with
    | ret v => exact h₃
    | brk => exact h₃
    | cont =>
      obtain ⟨h₄, tk₄, m₄, news₄, o₄, rfl, hO₄, F₄, N₄, hne₄, hJ₄⟩ := h₃
      exact ⟨vs.length + 1 - (i + 1), by omega, h₄, tk₄, m₄, news₄, i + 1, o₄, rfl, hO₄, F₄, N₄, hne₄, hJ₄, hlt, rfl⟩
    | next =>
      obtain ⟨h₄, tk₄, m₄, news₄, o₄, rfl, hO₄, F₄, N₄, hne₄, hJ₄⟩ := h₃
      exact ⟨vs.length + 1 - (i + 1), by omega, h₄, tk₄, m₄, news₄, i + 1, o₄, rfl, hO₄, F₄, N₄, hne₄, hJ₄, hlt, rfl⟩
  · have hin : i = vs.length := by omega
    subst hin
    refine wpAny_pyNext_list_end hh ⟨_, (N' _ (.head _)).1, hO'⟩ (hl _ m' news' h' hJ' F' N0) (by simp) fun h₁ hs => wpAny_execs_nil ?_
    exact done m' news' h₁ _ hJ' (fr_ext F' hLI hgI (by first | exact hs | exact hs.extBut)) (news_tail N' hne' (by first | exact hs | exact hs.extBut))
end Mine
end
section
open PySem PySem.W PyProof.Rows PySem.Calls
set_option Elab.async false
set_option maxRecDepth 100000
set_option maxHeartbeats 8000000
namespace Mine
def runO {α : Type} (lt : Nat → Nat → Bool) : KasT α → Option α
  | .ret a => some a
  | .ask i j k => if i < 5 ∧ j < 5 then runO lt (k (lt i j)) else none
theorem wp_runO {α : Type} {cmp : Nat → Nat → (Bool → Shared → Prop) → Shared → Prop} {lt : Nat → Nat → Bool} {s : Shared} (hc : ∀ i j, i < 5 → j < 5 → ∀ C : Bool → Shared → Prop, C (lt i j) s → cmp i j C s) {Q : α → Shared → Prop} {a : α} (hq : Q a s) :
    ∀ t : KasT α, runO lt t = some a → t.kasWp cmp Q s
  | .ret b, h => by rw [runO] at h; cases h; exact hq
  | .ask i j k, h => by
    rw [runO] at h
    split at h
    · rename_i q
      exact hc i j q.1 q.2 _ (wp_runO hc hq (k (lt i j)) h)
    · cases h
/-- five things, told by their ten comparisons -/
def tbl (a b c d e f g h i j : Bool) (x y : Nat) : Bool := match x, y with
  | 0, 1 => a | 0, 2 => b | 0, 3 => c | 0, 4 => d | 1, 2 => e | 1, 3 => f | 1, 4 => g | 2, 3 => h | 2, 4 => i | 3, 4 => j
  | 1, 0 => !a | 2, 0 => !b | 3, 0 => !c | 4, 0 => !d | 2, 1 => !e | 3, 1 => !f | 4, 1 => !g | 3, 2 => !h | 4, 2 => !i | 4, 3 => !j
  | _, _ => false
def transOk (lt : Nat → Nat → Bool) : Bool := (List.range 5).all fun x => (List.range 5).all fun y => (List.range 5).all fun z => !(lt x y && lt y z) || lt x z
def isPerm5 (l : List Nat) : Bool := l.length == 5 && (l.all fun x => decide (x < 5)) && (List.range 5).all fun x => l.contains x
def rises (lt : Nat → Nat → Bool) : List Nat → Bool
  | [] => true
  | x :: l => l.all (fun y => lt x y) && rises lt l
def chk5 (lt : Nat → Nat → Bool) : Bool := !transOk lt || (match runO lt (kas_sort 5) with | some p => isPerm5 p.toList && rises lt p.toList | none => false)
theorem sort5 : ∀ a b c d e f g h i j : Bool, chk5 (tbl a b c d e f g h i j) = true := by decide +kernel
end Mine
end
section
open PySem PySem.W PyProof.Rows PySem.Calls
set_option Elab.async false
set_option maxRecDepth 100000
set_option maxHeartbeats 8000000
namespace Mine
theorem runO_congr {α : Type} {lt lt' : Nat → Nat → Bool} (h : ∀ i j, i < 5 → j < 5 → lt i j = lt' i j) : ∀ t : KasT α, runO lt t = runO lt' t
  | .ret _ => rfl
  | .ask i j k => by
    rw [runO, runO]
    split
    · rename_i q; rw [h i j q.1 q.2, runO_congr h]
    · rfl
theorem rises_pairwise {lt : Nat → Nat → Bool} : ∀ {l : List Nat}, rises lt l = true → l.Pairwise fun a b => lt a b = true
  | [], _ => .nil
  | x :: l, h => by
    rw [rises, Bool.and_eq_true, List.all_eq_true] at h
    exact .cons (fun y hy => h.1 y hy) (rises_pairwise h.2)
theorem sort5_rank (r : Nat → Int) (hr : ∀ x y, x < 5 → y < 5 → r x = r y → x = y) :
    ∃ p : Array Nat, runO (fun x y => decide (r x < r y)) (kas_sort 5) = some p ∧ p.toList.length = 5 ∧ p.toList.Pairwise (fun a b => r a < r b) ∧ ∀ v, v ∈ p.toList ↔ v < 5 := by
  let T := tbl (decide (r 0 < r 1)) (decide (r 0 < r 2)) (decide (r 0 < r 3)) (decide (r 0 < r 4)) (decide (r 1 < r 2)) (decide (r 1 < r 3)) (decide (r 1 < r 4)) (decide (r 2 < r 3)) (decide (r 2 < r 4)) (decide (r 3 < r 4))
  have n01 : r 0 = r 1 → False := fun q => absurd (hr 0 1 (by decide) (by decide) q) (by decide)
  have n02 : r 0 = r 2 → False := fun q => absurd (hr 0 2 (by decide) (by decide) q) (by decide)
  have n03 : r 0 = r 3 → False := fun q => absurd (hr 0 3 (by decide) (by decide) q) (by decide)
  have n04 : r 0 = r 4 → False := fun q => absurd (hr 0 4 (by decide) (by decide) q) (by decide)
  have n12 : r 1 = r 2 → False := fun q => absurd (hr 1 2 (by decide) (by decide) q) (by decide)
  have n13 : r 1 = r 3 → False := fun q => absurd (hr 1 3 (by decide) (by decide) q) (by decide)
  have n14 : r 1 = r 4 → False := fun q => absurd (hr 1 4 (by decide) (by decide) q) (by decide)
  have n23 : r 2 = r 3 → False := fun q => absurd (hr 2 3 (by decide) (by decide) q) (by decide)
  have n24 : r 2 = r 4 → False := fun q => absurd (hr 2 4 (by decide) (by decide) q) (by decide)
  have n34 : r 3 = r 4 → False := fun q => absurd (hr 3 4 (by decide) (by decide) q) (by decide)
  have hT : ∀ x y, x < 5 → y < 5 → T x y = decide (r x < r y) := by
    intro x y hx hy
    have flip : ∀ a b : Int, (a = b → False) → (!decide (a < b)) = decide (b < a) := fun a b h => by
      have h' : ¬ a = b := h
      rw [← decide_not, decide_eq_decide]; omega
    have hx' : x = 0 ∨ x = 1 ∨ x = 2 ∨ x = 3 ∨ x = 4 := by omega
    have hy' : y = 0 ∨ y = 1 ∨ y = 2 ∨ y = 3 ∨ y = 4 := by omega
    rcases hx' with rfl | rfl | rfl | rfl | rfl <;> rcases hy' with rfl | rfl | rfl | rfl | rfl <;>
      first
      | rfl
      | (show false = _; symm; exact decide_eq_false (Int.lt_irrefl _))
      | (show (!decide _) = _; exact flip _ _ (by assumption))
  have h := sort5 (decide (r 0 < r 1)) (decide (r 0 < r 2)) (decide (r 0 < r 3)) (decide (r 0 < r 4)) (decide (r 1 < r 2)) (decide (r 1 < r 3)) (decide (r 1 < r 4)) (decide (r 2 < r 3)) (decide (r 2 < r 4)) (decide (r 3 < r 4))
  change chk5 T = true at h
  unfold chk5 at h
  have ht : transOk T = true := by
    unfold transOk
    simp only [List.all_eq_true, List.mem_range]
    intro x hx y hy z hz
    rw [hT x y hx hy, hT y z hy hz, hT x z hx hz]
    by_cases q : r x < r y
    · by_cases q' : r y < r z
      · have : r x < r z := by omega
        simp [q, q', this]
      · simp [q']
    · simp [q]
  rw [ht] at h
  rw [runO_congr (lt' := T) (fun i j hi hj => (hT i j hi hj).symm)]
  cases hp : runO T (kas_sort 5) with
  | none => rw [hp] at h; cases h
  | some p =>
    rw [hp] at h
    simp only [Bool.not_true, Bool.false_or, isPerm5, Bool.and_eq_true, List.all_eq_true, decide_eq_true_eq, beq_iff_eq, List.mem_range, List.contains_iff_mem] at h
    obtain ⟨⟨⟨h1, h2⟩, h3⟩, h4⟩ := h
    refine ⟨p, rfl, h1, ?_, fun v => ⟨h2 v, h3 v⟩⟩
    refine (rises_pairwise h4).imp_of_mem fun {a b} ha hb hab => ?_
    rw [hT a b (h2 a ha) (h2 b hb)] at hab
    exact of_decide_eq_true hab
theorem pair_ltOs {a b : Int} {x y : Nat} (hx : x < 8) (hy : y < 8) : ltOs [.int a, .int (x : Nat)] [.int b, .int (y : Nat)] = some (decide ((a * 3 + 2) * 8 + x < (b * 3 + 2) * 8 + y)) := by
  rw [ltOs, PyData.eqv]
  by_cases hab : a = b
  · rw [if_pos (by simp [hab]), ltOs, PyData.eqv]
    by_cases hxy : x = y
    · rw [if_pos (by simp [hxy]), ltOs]
      congr 1; symm; exact decide_eq_false (by omega)
    · rw [if_neg (by simp; omega), ltO]
      congr 1; rw [decide_eq_decide]; omega
  · rw [if_neg (by simpa using hab), ltO]
    congr 1; rw [decide_eq_decide]; omega
section
variable {prog : Program} {w : World} {A : Around} {E : Value → Shared → Prop} {s : Shared}
theorem oneLt_reads {xs ys : List PyData} {a b : Value} {as bs : List Addr} {r : Bool} {Q : Bool → Shared → Prop} (ra : Reads s.heap a (.list xs) as) (rb : Reads s.heap b (.list ys) bs)
    (hcx : PyData.canLayAll0 xs = true) (hcy : PyData.canLayAll0 ys = true) (hu : A.units + (PyData.list xs).depth < cLine) (h : ltOs xs ys = some r) (hq : Q r s) : wpAny (model prog w) A (keyLt' oneType' a b) Q E s := by
  rw [depth_list] at hu
  cases ra with
  | list h1 h2 h3 h4 =>
  cases rb with
  | list k1 k2 k3 k4 =>
  rename_i o vs nn as' a' o' vs' nn' bs'
  have n1 := readsAll_len h4
  have n2 := readsAll_len k4
  have e1 : vs.size = xs.length := by simpa using n1
  have e2 : vs'.size = ys.length := by simpa using n2
  obtain ⟨cls, dd, data, sl⟩ := o
  obtain ⟨cls2, dd2, data2, sl2⟩ := o'
  simp only at h2 h3 k2 k3
  subst h2 h3 k2 k3
  rw [keyLt'_oneType, oneLt'_eq]
  simp only [if_true]
  refine wpAny_bind (wpAny_cRoomFor (by omega) ?_)
  refine wpAny_bind (wpAny_callSpecialIfBound?_slot ⟨_, h1, rfl⟩ F.slot_list_lt (call_meets F.slot_list_lt ⟨_, h1, rfl⟩ F.entry_list_lt (F.args_list_lt_2 _ _)
    (list_ltAt _ _ vs vs' nn nn' dd dd2 sl sl2 (pEq xs ys) (pairLt xs ys)) ⟨h1, k1, fun j j1 j2 => ?_, fun j j1 j2 hp hj => ?_, ?_⟩))
  · obtain ⟨cs, r1⟩ := readsAll_at h4 j (by simpa using j1)
    obtain ⟨ds, r2⟩ := readsAll_at k4 j (by simpa using j2)
    have d1 := depth_at (xs := xs) j (by omega)
    exact SeqAt.eqAt_reads _ _ A.in1 s _ _ _ _ r1 r2 (canLay_at hcx j (by omega)) (canLay_at hcy j (by omega)) (Nat.lt_of_le_of_lt (Nat.add_le_add_left (Nat.min_le_left _ _) _) (by rw [Around.in1_units]; omega))
  · obtain ⟨cs, r1⟩ := readsAll_at h4 j (by simpa using j1)
    obtain ⟨ds, r2⟩ := readsAll_at k4 j (by simpa using j2)
    have d1 := depth_at (xs := xs) j (by omega)
    exact rcLt_reads _ _ _ A.in1 s _ _ _ _ _ (Nat.le_refl _) r1 r2 (canLay_at hcx j (by omega)) (canLay_at hcy j (by omega)) (by rw [Around.in1_units]; omega) (ltOs_cmp xs ys r h j (by omega) (by omega) hp hj)
  · rw [e1, e2, ltOs_res xs ys r h]
    exact wpAny_truthy_bool hq
end
end Mine
end
section
open PySem PySem.W PyProof.Rows PySem.Calls
set_option Elab.async false
set_option maxRecDepth 100000
set_option maxHeartbeats 8000000
namespace Mine
section
variable {prog : Program} {w : World} {A : Around} {E : Value → Shared → Prop} {s : Shared} {g : Heap} {L : Addr} {m : Str → Option Value} {news : List (Addr × Obj)}
def PairIn (mk : Nat → Int) (n : Nat) (vs : List Value) (imm : List (Addr × Obj)) : Prop := vs.length = n ∧ ∀ i, i < n → ∃ a t t' c, vs[i]? = some (.ref a) ∧ (a, lst [.int (mk i) t, .int (i : Nat) t'] c) ∈ imm
theorem sorted_pairs {l : Addr} {vs : List Value} {mk : Nat → Int} {Q : Value → Shared → Prop} (F : Fr g L s.heap m) (N : News g L s.heap news) (hl : s.heap.IsList l vs.toArray) (hP : PairIn mk 5 vs news) (hu : A.units + 100 < cLine)
    (k : ∀ h' D c (p : List Nat), Fr g L h' m → News g L h' ((D, lst (p.map fun i => vs.getD i .none) c) :: news) → (∀ q ∈ news, q.1 ≠ D) → p.length = 5 → p.Pairwise (fun a b => rank mk (2, a) < rank mk (2, b)) → (∀ v, v ∈ p ↔ v < 5) → Q (.ref D) { s with heap := h' }) :
    wpAny (model prog w) A (call (.builtin "sorted") [.ref l]) Q E s := by
  refine kas_sorted (T := .type "list") F N hl (by rw [hP.1]; decide) (by rw [hP.1]; decide) (fun h F' N' v hv => ?_) (by decide) (fun D e1 h' F' N' hlt => ?_)
  · obtain ⟨i, hi, e⟩ := List.mem_iff_getElem.mp hv
    obtain ⟨a, t, t', c, h1, h2⟩ := hP.2 i (by rw [← hP.1]; exact hi)
    rw [List.getElem?_eq_getElem hi, e] at h1
    cases h1
    intro A' Q' E' s' st hq
    exact wpAny_typeOf (T := "list") ⟨_, st _ _ (N' _ h2).1, rfl⟩ hq
  · rw [hP.1]
    obtain ⟨p, hp, p1, p2, p3⟩ := sort5_rank (fun v => rank mk (2, v)) (fun x y hx hy q => by
      have := rank_inj mk (e := (2, x)) (e' := (2, y)) (by unfold small; dsimp only; omega) (by unfold small; dsimp only; omega) q
      exact congrArg Prod.snd this)
    refine wp_runO (lt := fun x y => decide (rank mk (2, x) < rank mk (2, y))) (fun i j hi hj C hC => ?_) ?_ _ hp
    · obtain ⟨a, t, t', c, h1, h2⟩ := hP.2 i hi
      obtain ⟨b, u, u', d, k1, k2⟩ := hP.2 j hj
      unfold kas_ask
      rw [List.getD_eq_getElem?_getD, h1, List.getD_eq_getElem?_getD, k1]
      refine oneLt_reads (xs := [.int (mk i), .int (i : Nat)]) (ys := [.int (mk j), .int (j : Nat)]) (r := decide (rank mk (2, i) < rank mk (2, j))) (reads_lst (N' _ (.tail _ h2)).1 (.cons (.int _ _) (.cons (.int _ _) .nil))) (reads_lst (N' _ (.tail _ k2)).1 (.cons (.int _ _) (.cons (.int _ _) .nil))) rfl rfl ?_ (pair_ltOs (by omega) (by omega)) hC
      have : (PyData.list [.int (mk i), .int (i : Nat)]).depth = 1 := rfl
      rw [this]
      simp only [Around.in1_units]
      omega
    · refine KasFin.intro F' N' ?_ (fun h'' c F'' N'' => ?_) (g := fun o => (D, o) :: news)
      · exact .head fun q hq => Nat.ne_of_lt (hlt q hq)
      · exact k h'' D c p.toList F'' N'' (fun q hq => Nat.ne_of_lt (hlt q hq)) p1 p2 p3
end
end Mine
end
section
open PySem PySem.W PyProof.Rows PySem.Calls
open LCg (NsObj)
set_option Elab.async false
set_option maxRecDepth 100000
set_option maxHeartbeats 8000000
namespace Mine
local macro_rules | `(tactic| walk_at "me") => `(tactic| repeat (first | exact memH | refine memT ?_))
local macro_rules | `(tactic| walk_at "sub") => `(tactic| repeat (first | exact fun _ h => h | (refine subC ?_ ?_; focus (walk_at "me"; done)) | (refine allC ?_ ?_; focus (first | (refine Or.inl ?_; walk_at "me"; done) | exact Or.inr rfl | exact Or.inr (Or.inl rfl) | exact Or.inr (Or.inr rfl))) | refine orI ?_ | refine subT ?_))
local macro_rules | `(tactic| walk_at "wk") => `(tactic| repeat ((try dsimp only); (fail_if_success (with_reducible show wpAny _ _ (exec (Stmt.While _ _ _ _) _) _ _ _)); (fail_if_success (with_reducible show wpAny _ _ (exec (Stmt.For _ _ _ _ _) _) _ _ _)); walk1))
theorem fillL7 : PySem.Challenge.rw_mq0156_01 = PySem.Challenge.rw_mq0156_01 ∧ Mine.hd.heap_39 = Mine.hd.heap_39 := by k_fill; exact ⟨rfl, rfl⟩
theorem PairIn.mono {mk : Nat → Int} {n : Nat} {vs : List Value} {imm imm' : List (Addr × Obj)} (h : PairIn mk n vs imm) (s : ∀ p ∈ imm, p ∈ imm') : PairIn mk n vs imm' :=
  ⟨h.1, fun i hi => by obtain ⟨a, t, t', c, h1, h2⟩ := h.2 i hi; exact ⟨a, t, t', c, h1, s _ h2⟩⟩
theorem PairIn.snoc {mk : Nat → Int} {n : Nat} {vs : List Value} {imm : List (Addr × Obj)} {a : Addr} {t t' : Tok} {c : Nat} (h : PairIn mk n vs imm) : PairIn mk (n + 1) (vs ++ [.ref a]) ((a, lst [.int (mk n) t, .int (n : Nat) t'] c) :: imm) := by
  refine ⟨by simp [h.1], fun i hi => ?_⟩
  by_cases e : i < n
  · obtain ⟨a', u, u', d, h1, h2⟩ := h.2 i e
    exact ⟨a', u, u', d, by rw [List.getElem?_append_left (by rw [h.1]; exact e)]; exact h1, .tail _ h2⟩
  · obtain rfl : i = n := by omega
    exact ⟨a, t, t', c, by rw [← h.1]; simp, .head _⟩
theorem st_for {prog : Program} {w : World} {A : Around} {E : Value → Shared → Prop} {s : Shared} {g : Heap} {L a lm ld : Addr} {cd : Value} {sc : Scope} {st : Stmt} {Q : Flow → Shared → Prop} {ms : List Value} {nM nD : Nat} {nums : List Int} {rest : List (Addr × Obj)} {o1 o2 o3 o4 o5 : Obj} {m : Str → Option Value}
    (hsc : lawScope = some sc) (hst : lawStmt 10 = some st) (G : Gd w g) (hh : A.handled = none) (hu : A.units + 1000 < cLine) (hroom : A.depth + 10 < recursionLimit)
    (F : Fr g L s.heap m) (em : m (Str.ofString "due") = some (.ref ld))
    (N : News g L s.heap ((ld, lst [] nD) :: (lm, lst ms nM) :: cells5 L o1 o2 o3 o4 o5 rest)) (hoff : offCells L rest) (hld : ∀ p ∈ (lm, lst ms nM) :: cells5 L o1 o2 o3 o4 o5 rest, p.1 ≠ ld) (hlm : lm ≠ L + 5)
    (d4 : o4.data = .cell (some (.ref lm))) (d5 : o5.data = .cell none) (hM : MarkIn nums 13 ms)
    (k : ∀ h tk m' ld dus nD o5 (p : List Nat) imm2, Fr g L h m' → (∀ y, y ≠ Str.ofString "place" → m' y = m y) → News g L h ((ld, lst dus nD) :: (lm, lst ms nM) :: cells5 L o1 o2 o3 o4 o5 (imm2 ++ rest)) → m (Str.ofString "due") = some (.ref ld) →
      p.Pairwise (fun a b => rank (markD nums) (2, a) < rank (markD nums) (2, b)) → (∀ v, v ∈ p ↔ v < 5) → Founds imm2 dus (p.map fun v => (v, dueOf (markD nums) v)) → Q .next { s with heap := h, toks := tk }) :
    WpC (model prog w) A (exec st (lenv sc L a cd)) Q E s := by
  refine ⟨wpC_any ?_⟩
  obtain rfl : _ = st := Option.some.inj (show some _ = some st from hst)
  obtain rfl : _ = sc := Option.some.inj (show some _ = some sc from hsc)
  obtain ⟨mean, mg, mb, T⟩ := id G.T
  have X := G.K
  refine wpAny_For ?_
  walk1
  walk1
  walk1
  walk1
  refine evalMid (fun v s' => ∃ D ps nP h' tk imm2, v = .ref D ∧ s' = { s with heap := h', toks := tk } ∧ Fr g L h' m ∧ News g L h' ((D, lst ps nP) :: (ld, lst [] nD) :: (lm, lst ms nM) :: cells5 L o1 o2 o3 o4 o5 (imm2 ++ rest)) ∧
    offCells L (imm2 ++ rest) ∧ (∀ p ∈ (lm, lst ms nM) :: cells5 L o1 o2 o3 o4 o5 (imm2 ++ rest), p.1 ≠ ld) ∧ PairIn (markD nums) 5 ps imm2) ?_ ?_
  · refine wpAny_evalComp (by with_unfolding_all rfl) rfl (by decide) ?_
    walk_at "wk"
    rename Fr _ _ _ _ => F
    rename News _ _ _ _ => N
    rename IsRange _ _ _ _ _ _ _ _ => hr
    refine wpAny_pyIter_range hr (by decide) ?_
    rename Heap => h₂
    dsimp only
    rw [show Builtin.Range.rangeSize 0 5 1 = ((5 : Nat) : Int) from by decide]
    have N1 := N.grown (h' := h₂.push (rgIt 0 5 1)) fun _ _ e => Heap.get?_push_of_some _ e
    have F1 := F.keeps (h' := h₂.push (rgIt 0 5 1)) fun _ _ e => Heap.get?_push_of_some _ e
    refine comp_blockA (S := fun _ => True) (J := fun i ps news => ∃ imm2, news = (ld, lst [] nD) :: (lm, lst ms nM) :: cells5 L o1 o2 o3 o4 o5 (imm2 ++ rest) ∧ offCells L (imm2 ++ rest) ∧ (∀ p ∈ (lm, lst ms nM) :: cells5 L o1 o2 o3 o4 o5 (imm2 ++ rest), p.1 ≠ ld) ∧ PairIn (markD nums) i ps imm2)
      (LCg.range_walks hh 0 5) (by decide) (fun i h st => ⟨_, st⟩) LCg.range_st (fun _ _ _ _ => trivial) (by decide) rfl (by rfl) ?_ ?_ F1 N1 (Nat.ne_of_lt F.ns.lt) (next_is_new F) (fun p hp => Nat.ne_of_lt (Heap.lt_size (N p hp).1)) ?_ ?_ ?_
    · exact Heap.get?_push_size _ rfl
    · intro b hb; rw [List.mem_singleton.mp hb]; show h₂.objs.size < (h₂.push _).objs.size; rw [Heap.size_push]; exact Nat.lt_succ_self _
    · exact ⟨[], rfl, hoff, hld, rfl, fun j hj => absurd hj (Nat.not_lt_zero _)⟩
    · rintro i v ps nP oI C oC D m₂ news h tk E' hi ⟨tv, rfl⟩ ⟨imm2, rfl, hoff2, hld2, hP⟩ hoC hm₂ F N off hIC hID hCD
      refine wpAny_tests_nil ?_
      rw [if_pos rfl]
      obtain ⟨tm, em⟩ := hM.2 i (by omega)
      walk_at "wk"
      refine item_at i (News.isList N (.tail _ (.tail _ (.tail _ (.tail _ (.head _)))))) (by omega) (by rw [hM.1]; omega) (by rw [hM.1]; decide) ?_
      rw [List.getD_eq_getElem?_getD, em]
      show wpAny _ _ _ _ _ _
      dsimp only [Option.getD_some]
      walk_at "wk"
      rename _ ∧ _ ∧ _ ∧ _ => l1
      rename News _ _ _ _ => N
      rename Fr _ _ _ _ => F
      rename Addr => l'
      rename Heap => hE
      have hne : ∀ p ∈ (h₂.objs.size, oI) :: (C, oC) :: (D, lst ps nP) :: (ld, lst [] nD) :: (lm, lst ms nM) :: cells5 L o1 o2 o3 o4 o5 (imm2 ++ rest), p.1 ≠ l' := allLt_ne (d := l') l1
      have N2 : News g L hE ((l', lst [.int (markD nums i) tm, .int (i : Nat) tv] 0) :: (h₂.objs.size, oI) :: (C, oC) :: (D, lst ps nP) :: (ld, lst [] nD) :: (lm, lst ms nM) :: cells5 L o1 o2 o3 o4 o5 (imm2 ++ rest)) := by
        rw [Int.zero_add] at N; exact N
      clear N
      generalize hoE : lst [.int (markD nums i) tm, .int (i : Nat) tv] 0 = oE at N2
      have hne' : ∀ p ∈ (lm, lst ms nM) :: cells5 L o1 o2 o3 o4 o5 (imm2 ++ rest), p.1 ≠ l' := fun p hp => hne p (.tail _ (.tail _ (.tail _ (.tail _ hp))))
      refine ⟨_, _, (ld, lst [] nD) :: (lm, lst ms nM) :: cells5 L o1 o2 o3 o4 o5 ((l', oE) :: (imm2 ++ rest)), rfl, F, fun p hp => N2 p ?_, ?_, (l', oE) :: imm2, rfl, off_cells (fun p hp => hne' p (.tail _ hp)) hoff2, ?_, by rw [← hoE]; exact hP.snoc⟩
      · revert p; walk_at "sub"
      · intro p hp
        have : p ∈ (ld, lst [] nD) :: (lm, lst ms nM) :: cells5 L o1 o2 o3 o4 o5 (imm2 ++ rest) ∨ p.1 = l' := by
          revert p; walk_at "sub"
        rcases this with h | h
        · exact off p h
        · rw [h]
          exact ⟨Ne.symm (hne (h₂.objs.size, oI) (by walk_at "me")), Ne.symm (hne (C, oC) (by walk_at "me")), Ne.symm (hne (D, lst ps nP) (by walk_at "me"))⟩
      · intro p hp
        have : p ∈ (lm, lst ms nM) :: cells5 L o1 o2 o3 o4 o5 (imm2 ++ rest) ∨ p.1 = l' := by
          revert p; walk_at "sub"
        rcases this with h | h
        · exact hld2 p h
        · rw [h]; exact Ne.symm (hne (ld, lst [] nD) (by walk_at "me"))
    · rintro D C oC m' ps nP h tk news ⟨imm2, rfl, hoff2, hld2, hP⟩ hoC F N off hCD
      refine post_eval hoC F N off hCD ?_
      intro h' F N off'
      exact ⟨D, ps, nP, h', _, imm2, rfl, rfl, F, N, hoff2, hld2, hP⟩
  · clear F N
    rintro _ _ ⟨D, ps, nP, h, tk, imm2, rfl, rfl, F, N, hoff2, hld2, hP⟩
    walk1
    refine sorted_pairs F N (News.isList N (.head _)) (hP.mono fun p hp => .tail _ (.tail _ (.tail _ (mem_cells (List.mem_append_left _ hp))))) (by omega) ?_
    clear F N
    intro h D2 c p F N hne2 hp5 hpw hpm
    refine wpAny_pyIter_list (News.isList N (.head _)) ?_
    dsimp only
    have hsz : D2 < h.objs.size := Heap.lt_size (N _ (.head _)).1
    have hI : ∀ q ∈ (D2, lst (p.map fun i => ps.getD i .none) c) :: (ld, lst [] nD) :: (lm, lst ms nM) :: cells5 L o1 o2 o3 o4 o5 (imm2 ++ rest), q.1 ≠ h.objs.size := fun q hq => by
      rcases List.mem_cons.mp hq with rfl | hq
      · exact Nat.ne_of_lt hsz
      · exact Nat.ne_of_lt (Heap.lt_size (N q (.tail _ (.tail _ hq))).1)
    have N1 := News.push F N ({ cls := .type "list_iterator", data := .fields #[.ref D2, .int 0 0] } : Obj)
    have F1 := F.push ({ cls := .type "list_iterator", data := .fields #[.ref D2, .int 0 0] } : Obj)
    generalize hIe : h.objs.size = I at *
    refine for_listT (o₀ := { cls := .type "list_iterator", data := .fields #[.ref D2, .int 0 0] }) (l := D2) (vs := p.map fun i => ps.getD i .none) (fun i m' news => ∃ imm3 dus nD o5, news = (D2, lst (p.map fun i => ps.getD i .none) c) :: (ld, lst dus nD) :: (lm, lst ms nM) :: cells5 L o1 o2 o3 o4 o5 (imm3 ++ (imm2 ++ rest)) ∧
      (∀ q ∈ (lm, lst ms nM) :: cells5 L o1 o2 o3 o4 o5 (imm3 ++ (imm2 ++ rest)), q.1 ≠ D2 ∧ q.1 ≠ ld) ∧ D2 ≠ ld ∧ offCells L (imm3 ++ (imm2 ++ rest)) ∧ (∃ v, o5.data = .cell v) ∧ (∀ y, y ≠ Str.ofString "place" → m' y = m y) ∧
      Founds imm3 dus ((p.take i).map fun v => (v, dueOf (markD nums) v))) hh ?_ (Nat.ne_of_lt hsz) F1 (fun q hq => N1 q ?_) ⟨rfl, rfl⟩ hI ?_ ?_ ?_ ?_
    · rintro i m' news h ⟨imm3, dus, nD, o5, rfl, _⟩ F N
      exact News.isList N (.head _)
    · rcases List.mem_cons.mp hq with rfl | hq
      · exact .head _
      · rcases List.mem_cons.mp hq with rfl | hq
        · exact .tail _ (.head _)
        · exact .tail _ (.tail _ (.tail _ hq))
    · exact ⟨[], [], nD, o5, rfl, fun q hq => ⟨hne2 q (.tail _ (.tail _ hq)), hld2 q hq⟩, Ne.symm (hne2 (ld, lst [] nD) (by walk_at "me")), hoff2, ⟨_, d5⟩, fun y hy => rfl, .nil⟩
    · rintro i v m' news h tk o hv ⟨imm3, dus, nD, o5, rfl, hq2, hDl, hoff3, ⟨v5, d5⟩, hm', hfd⟩ hO hne F N
      have hi : i < p.length := by
        rcases Nat.lt_or_ge i p.length with q | q
        · exact q
        · rw [List.getElem?_eq_none (by rw [List.length_map]; exact q)] at hv; cases hv
      have hpi : p[i] < 5 := (hpm _).mp (List.getElem_mem hi)
      obtain ⟨a, ta, tb, ca, ha1, ha2⟩ := hP.2 p[i] hpi
      rw [List.getElem?_map, List.getElem?_eq_getElem hi, Option.map_some, List.getD_eq_getElem?_getD, ha1] at hv
      cases hv
      have htk : (p.take (i + 1)).map (fun v => (v, dueOf (markD nums) v)) = (p.take i).map (fun v => (v, dueOf (markD nums) v)) ++ [(p[i], dueOf (markD nums) p[i])] := by
        rw [List.take_add_one, List.getElem?_eq_getElem hi, List.map_append]; rfl
      generalize hpv : p[i] = pv at *
      have e1 := hm' (Str.ofString "due") (by decide)
      rw [em] at e1
      have Na := N (a, lst [.int (markD nums pv) ta, .int (pv : Nat) tb] ca) (.tail _ (.tail _ (.tail _ (.tail _ (mem_cells (List.mem_append_right _ (List.mem_append_left _ ha2)))))))
      have N2 : News g L h ((a, lst [.int (markD nums pv) ta, .int (pv : Nat) tb] ca) :: (I, o) :: (D2, lst (p.map fun i => ps.getD i .none) c) :: (ld, lst dus nD) :: (lm, lst ms nM) :: cells5 L o1 o2 o3 o4 o5 (imm3 ++ (imm2 ++ rest))) := fun q hq => by
        rcases List.mem_cons.mp hq with rfl | hq
        · exact Na
        · exact N q hq
      replace F := fputs [(Str.ofString "due", _)] F ⟨e1, trivial⟩
      simp only [bput] at F
      refine unpackL F N2 (News.isList N2 (.head _)) hh rfl rfl ?_
      clear F N2
      intro h₁ F N2
      walk1
      dsimp only
      walk1
      replace N2 : News g L h₁ ((I, o) :: (D2, lst (p.map fun i => ps.getD i .none) c) :: (ld, lst dus nD) :: (lm, lst ms nM) :: cells5 L o1 o2 o3 o4 o5 (imm3 ++ (imm2 ++ rest))) := fun q hq => N2 q (.tail _ hq)
      refine store_cell [(I, o), (D2, lst (p.map fun i => ps.getD i .none) c), (ld, lst dus nD), (lm, lst ms nM), (L + 1, o1), (L + 2, o2), (L + 3, o3), (L + 4, o4)] (imm3 ++ (imm2 ++ rest)) F N2 ?_ ?_ d5 rfl (by rfl) (by rfl) ?_
      · intro q hq
        revert q
        refine allC ?_ (allC ?_ (allC ?_ (allC ?_ (allC ?_ (allC ?_ (allC ?_ (allC ?_ allN)))))))
        · exact Ne.symm (hne (L + 5, o5) (by walk_at "me"))
        · exact Ne.symm (hq2 (L + 5, o5) (by walk_at "me")).1
        · exact Ne.symm (hq2 (L + 5, o5) (by walk_at "me")).2
        · exact hlm
        · exact add_ne (by decide)
        · exact add_ne (by decide)
        · exact add_ne (by decide)
        · exact add_ne (by decide)
      · intro q hq; exact (hoff3 q hq).2.2.2.2
      clear F N2
      intro h₂ o5' F N2 d5'
      walk_at "wk"
      rename Fr _ _ _ _ => F
      rename News _ _ _ _ => N2
      rename Heap => h₃
      replace N2 : News g L h₃ ((I, o) :: (D2, lst (p.map fun i => ps.getD i .none) c) :: (ld, lst dus nD) :: (lm, lst ms nM) :: cells5 L o1 o2 o3 o4 o5' (imm3 ++ (imm2 ++ rest))) := N2
      generalize tk + 1 = tk₃
      refine evalMid (fun v s' => ∃ DW ws nW h' tk, v = .ref DW ∧ s' = { s with heap := h', toks := tk } ∧ Fr g L h' (fun y => if y = Str.ofString "place" then some (.int (pv : Nat) tb) else if y = Str.ofString "due" then some (.ref ld) else m' y) ∧ News g L h' ((DW, lst ws nW) :: (I, o) :: (D2, lst (p.map fun i => ps.getD i .none) c) :: (ld, lst dus nD) :: (lm, lst ms nM) :: cells5 L o1 o2 o3 o4 o5' (imm3 ++ (imm2 ++ rest))) ∧ (∀ q ∈ (I, o) :: (D2, lst (p.map fun i => ps.getD i .none) c) :: (ld, lst dus nD) :: (lm, lst ms nM) :: cells5 L o1 o2 o3 o4 o5' (imm3 ++ (imm2 ++ rest)), q.1 ≠ DW) ∧ IntsAre ws (natInts (dueOf (markD nums) pv))) ?_ ?_
      · refine wpAny_evalComp (by with_unfolding_all rfl) rfl (by decide) ?_
        walk_at "wk"
        rename Fr _ _ _ _ => F
        rename News _ _ _ _ => N2
        rename IsRange _ _ _ _ _ _ _ _ => hr
        refine wpAny_pyIter_range hr (by decide) ?_
        rename Heap => h₄
        dsimp only
        rw [show Builtin.Range.rangeSize 0 4 1 = ((4 : Nat) : Int) from by decide]
        have N1 := N2.grown (h' := h₄.push (rgIt 0 4 1)) fun _ _ e => Heap.get?_push_of_some _ e
        have F1 := F.keeps (h' := h₄.push (rgIt 0 4 1)) fun _ _ e => Heap.get?_push_of_some _ e
        refine comp_blockA (S := fun _ => True) (J := fun i ws news => news = (I, o) :: (D2, lst (p.map fun i => ps.getD i .none) c) :: (ld, lst dus nD) :: (lm, lst ms nM) :: cells5 L o1 o2 o3 o4 o5' (imm3 ++ (imm2 ++ rest)) ∧ IntsAre ws (natInts ((List.range i).filter fun w => decide (markD nums (5 + 2 * w) ≤ markD nums pv) && decide (markD nums pv < markD nums (6 + 2 * w)))))
          (LCg.range_walks hh 0 4) (by decide) (fun i h st => ⟨_, st⟩) LCg.range_st (fun _ _ _ _ => trivial) (by decide) rfl (by rfl) ?_ ?_ F1 N1 (Nat.ne_of_lt F.ns.lt) (next_is_new F) (fun p hp => Nat.ne_of_lt (Heap.lt_size (N2 p hp).1)) ?_ ?_ ?_
        · exact Heap.get?_push_size _ rfl
        · intro b hb; rw [List.mem_singleton.mp hb]; show h₄.objs.size < (h₄.push _).objs.size; rw [Heap.size_push]; exact Nat.lt_succ_self _
        · exact ⟨rfl, .nil⟩
        · rintro i v ws nW oI C oC DW m₂ news h tk E' hi ⟨tv, rfl⟩ ⟨rfl, hW⟩ hoC hm₂ F N off hIC hID hCD
          clear F1 N1
          refine wpAny_tests_one ?_
          obtain ⟨t5, em5⟩ := hM.2 (5 + 2 * i) (by omega)
          obtain ⟨t6, em6⟩ := hM.2 (6 + 2 * i) (by omega)
          refine evalMid (fun b s' => ∃ h tk, s' = { s with heap := h, toks := tk } ∧ b = (decide (markD nums (5 + 2 * i) ≤ markD nums pv) && decide (markD nums pv < markD nums (6 + 2 * i))) ∧ Fr g L h (fun y => if y = Str.ofString "place" then some (.int (pv : Nat) tb) else if y = Str.ofString "due" then some (.ref ld) else m' y) ∧ News g L h ((h₄.objs.size, oI) :: (C, oC) :: (DW, lst ws nW) :: (I, o) :: (D2, lst (p.map fun i => ps.getD i .none) c) :: (ld, lst dus nD) :: (lm, lst ms nM) :: cells5 L o1 o2 o3 o4 o5' (imm3 ++ (imm2 ++ rest)))) ?_ ?_
          · walk_at "wk"
            refine item_at (5 + 2 * i) (News.isList N (.tail _ (.tail _ (.tail _ (.tail _ (.tail _ (.tail _ (.head _)))))))) (by omega) (by rw [hM.1]; omega) (by rw [hM.1]; decide) ?_
            rw [List.getD_eq_getElem?_getD, em5]
            dsimp only [Option.getD_some]
            walk_at "wk"
            · refine item_at (6 + 2 * i) (News.isList N (.tail _ (.tail _ (.tail _ (.tail _ (.tail _ (.tail _ (.head _)))))))) (by omega) (by rw [hM.1]; omega) (by rw [hM.1]; decide) ?_
              rw [List.getD_eq_getElem?_getD, em6]
              dsimp only [Option.getD_some]
              walk_at "wk"
              exact ⟨_, _, rfl, by simp [*], F, N⟩
            · exact ⟨_, _, rfl, by simp [*], F, N⟩
          · rintro b s' ⟨h, tk, rfl, hb, F, N⟩
            have hfl : (List.range (i + 1)).filter (fun w => decide (markD nums (5 + 2 * w) ≤ markD nums pv) && decide (markD nums pv < markD nums (6 + 2 * w))) = (List.range i).filter (fun w => decide (markD nums (5 + 2 * w) ≤ markD nums pv) && decide (markD nums pv < markD nums (6 + 2 * w))) ++ (if b = true then [i] else []) := by
              rw [List.range_succ, List.filter_append, hb]
              congr 1
              rw [List.filter_cons, List.filter_nil]
            cases b with
            | true =>
              rw [if_pos rfl]
              walk_at "wk"
              refine ⟨h, _, _, rfl, F, N, off, rfl, ?_⟩
              rw [hfl, if_pos rfl, natInts, List.map_append, Int.zero_add]
              exact ints_snoc hW _ _
            | false =>
              rw [if_neg Bool.false_ne_true]
              refine ⟨h, _, _, rfl, F, N, off, rfl, ?_⟩
              rw [hfl, if_neg Bool.false_ne_true, List.append_nil]
              exact hW
        · rintro D C oC m' ws nW h tk news ⟨rfl, hW⟩ hoC F N off hCD
          refine post_eval hoC F N off hCD ?_
          intro h' F N off'
          exact ⟨D, ws, nW, h', _, rfl, rfl, F, N, off', hW⟩
      · clear F N2
        rintro _ _ ⟨DW, ws, nW, h, tk, rfl, rfl, F, N, hDW, hW⟩
        walk_at "wk"
        rename _ ∧ _ ∧ _ ∧ _ => l1
        rename Fr _ _ _ _ => F
        rename News _ _ _ _ => N
        rename Addr => l'
        rename Heap => h₅
        have hnl := allLt_ne (d := l') (l := (DW, lst ws nW) :: (I, o) :: (D2, lst (p.map fun i => ps.getD i .none) c) :: (ld, lst dus nD) :: (lm, lst ms nM) :: cells5 L o1 o2 o3 o4 o5' (imm3 ++ (imm2 ++ rest))) l1
        have N3 : News g L h₅ ([(I, o), (D2, lst (p.map fun i => ps.getD i .none) c)] ++ (ld, lst dus nD) :: ((lm, lst ms nM) :: cells5 L o1 o2 o3 o4 o5' (((l', lst [.int (pv : Nat) tb, .ref DW] 0) :: (DW, lst ws nW) :: imm3) ++ (imm2 ++ rest)))) := fun q hq => N q (by
          revert q; walk_at "sub")
        have hcase : ∀ q ∈ (lm, lst ms nM) :: cells5 L o1 o2 o3 o4 o5' (((l', lst [.int (pv : Nat) tb, .ref DW] 0) :: (DW, lst ws nW) :: imm3) ++ (imm2 ++ rest)), (q ∈ (lm, lst ms nM) :: cells5 L o1 o2 o3 o4 o5' (imm3 ++ (imm2 ++ rest))) ∨ q.1 = l' ∨ q.1 = DW := fun q hq => by
          revert q; walk_at "sub"
        have hold : ∀ q ∈ (lm, lst ms nM) :: cells5 L o1 o2 o3 o4 o5' (imm3 ++ (imm2 ++ rest)), q.1 ≠ D2 ∧ q.1 ≠ ld ∧ q.1 ≠ I := fun q hq => by
          have e : ∀ q ∈ (lm, lst ms nM) :: cells5 L o1 o2 o3 o4 o5' (imm3 ++ (imm2 ++ rest)), ∃ q', q' ∈ (lm, lst ms nM) :: cells5 L o1 o2 o3 o4 o5 (imm3 ++ (imm2 ++ rest)) ∧ q'.1 = q.1 := by
            refine allC ⟨(lm, lst ms nM), by walk_at "me", rfl⟩ (allC ⟨(L + 1, o1), by walk_at "me", rfl⟩ (allC ⟨(L + 2, o2), by walk_at "me", rfl⟩ (allC ⟨(L + 3, o3), by walk_at "me", rfl⟩ (allC ⟨(L + 4, o4), by walk_at "me", rfl⟩ (allC ⟨(L + 5, o5), by walk_at "me", rfl⟩ ?_)))))
            exact fun q hq => ⟨q, .tail _ (mem_cells hq), rfl⟩
          obtain ⟨q', h1, h2⟩ := e q hq
          rw [← h2]
          exact ⟨(hq2 q' h1).1, (hq2 q' h1).2, hne q' (.tail _ (.tail _ h1))⟩
        have hlI : l' ≠ I ∧ l' ≠ D2 ∧ l' ≠ ld := ⟨Ne.symm (hnl (I, o) (by walk_at "me")), Ne.symm (hnl (D2, lst (p.map fun i => ps.getD i .none) c) (by walk_at "me")), Ne.symm (hnl (ld, lst dus nD) (by walk_at "me"))⟩
        have hDI : DW ≠ I ∧ DW ≠ D2 ∧ DW ≠ ld := ⟨Ne.symm (hDW (I, o) (by walk_at "me")), Ne.symm (hDW (D2, lst (p.map fun i => ps.getD i .none) c) (by walk_at "me")), Ne.symm (hDW (ld, lst dus nD) (by walk_at "me"))⟩
        have hall : ∀ q ∈ (lm, lst ms nM) :: cells5 L o1 o2 o3 o4 o5' (((l', lst [.int (pv : Nat) tb, .ref DW] 0) :: (DW, lst ws nW) :: imm3) ++ (imm2 ++ rest)), q.1 ≠ D2 ∧ q.1 ≠ ld ∧ q.1 ≠ I := fun q hq => by
          rcases hcase q hq with h | h | h
          · exact hold q h
          · rw [h]; exact ⟨hlI.2.1, hlI.2.2, hlI.1⟩
          · rw [h]; exact ⟨hDI.2.1, hDI.2.2, hDI.1⟩
        have hfol : dus.length < 1000 := by
          rw [hfd.len, List.length_map, List.length_take]
          exact Nat.lt_of_le_of_lt (Nat.le_trans (Nat.min_le_right _ _) (Nat.le_of_eq hp5)) (by decide)
        refine append_in [(I, o), (D2, lst (p.map fun i => ps.getD i .none) c)] _ F N3 ?_ ?_ hfol ?_
        · intro q hq
          revert q
          refine allC ?_ (allC ?_ allN)
          · exact Ne.symm (hne (ld, lst dus nD) (by walk_at "me"))
          · exact hDl
        · intro q hq; exact (hall q hq).2.1
        clear F N N3
        intro h₆ F N
        walk_at "wk"
        refine ⟨h₆, _, _, (D2, lst (p.map fun i => ps.getD i .none) c) :: (ld, lst (dus ++ [Value.ref l']) (nD + 1)) :: (lm, lst ms nM) :: cells5 L o1 o2 o3 o4 o5' (((l', lst [.int (pv : Nat) tb, .ref DW] 0) :: (DW, lst ws nW) :: imm3) ++ (imm2 ++ rest)), o, rfl, hO, F, N, ?_, ((l', lst [.int (pv : Nat) tb, .ref DW] 0) :: (DW, lst ws nW) :: imm3), _, _, o5', rfl, fun q hq => ⟨(hall q hq).1, (hall q hq).2.1⟩, hDl, ?_, ⟨_, d5'⟩, ?_, ?_⟩
        · intro q hq
          rcases List.mem_cons.mp hq with rfl | hq
          · exact hne (D2, lst (p.map fun i => ps.getD i .none) c) (by walk_at "me")
          · rcases List.mem_cons.mp hq with rfl | hq
            · exact hne (ld, lst dus nD) (by walk_at "me")
            · exact (hall q hq).2.2
        · exact off_cells (o1 := o1) (o2 := o2) (o3 := o3) (o4 := o4) (o5 := o5') (fun q hq => by
            rcases List.mem_cons.mp hq with rfl | hq
            · exact hnl (L + 1, o1) (by walk_at "me")
            · rcases List.mem_cons.mp hq with rfl | hq
              · exact hnl (L + 2, o2) (by walk_at "me")
              · rcases List.mem_cons.mp hq with rfl | hq
                · exact hnl (L + 3, o3) (by walk_at "me")
                · rcases List.mem_cons.mp hq with rfl | hq
                  · exact hnl (L + 4, o4) (by walk_at "me")
                  · rcases List.mem_cons.mp hq with rfl | hq
                    · exact hnl (L + 5, o5') (by walk_at "me")
                    · rcases List.mem_cons.mp hq with rfl | hq
                      · exact hnl (DW, lst ws nW) (by walk_at "me")
                      · exact hnl q (.tail _ (.tail _ (.tail _ (.tail _ (.tail _ (mem_cells hq))))))) (off_cells (o1 := o1) (o2 := o2) (o3 := o3) (o4 := o4) (o5 := o5') (fun q hq => hDW q (.tail _ (.tail _ (.tail _ (.tail _ hq))))) hoff3)
        · intro y hy
          dsimp only
          rw [if_neg hy]
          split
          · rename_i q; rw [q, em]
          · exact hm' y hy
        · rw [htk]
          exact (hfd.mono fun q hq => .tail _ (.tail _ hq)).append (.cons (.head _) (.tail _ (.head _)) hW .nil)
    · rintro m' news h tk ⟨imm3, dus, nD, o5, rfl, hq2, hDl, hoff3, hd5, hm', hfd⟩ F N
      rw [List.length_map, List.take_length] at hfd
      exact k h tk m' ld dus nD o5 p (imm3 ++ imm2) F hm' (fun q hq => N q (.tail _ (by rw [List.append_assoc] at hq; exact hq))) em hpw hpm (hfd.mono fun q hq => List.mem_append_left _ hq)
    · intro v hv
      obtain ⟨i, hi, rfl⟩ := List.mem_map.mp hv
      obtain ⟨a, ta, tb, ca, ha1, ha2⟩ := hP.2 i ((hpm i).mp hi)
      exact ⟨a, by rw [List.getD_eq_getElem?_getD, ha1]; rfl⟩
end Mine
end
section
open PySem PySem.W PyProof.Rows PySem.Calls
set_option Elab.async false
set_option maxRecDepth 100000
set_option maxHeartbeats 8000000
namespace Mine
local macro_rules | `(tactic| walk_at "wk") => `(tactic| repeat ((try dsimp only); (fail_if_success (with_reducible show wpAny _ _ (exec (Stmt.While _ _ _ _) _) _ _ _)); (fail_if_success (with_reducible show wpAny _ _ (exec (Stmt.For _ _ _ _ _) _) _ _ _)); walk1))
theorem fillE1 : PySem.Challenge.rw_mq0156_01 = PySem.Challenge.rw_mq0156_01 ∧ Mine.hd.heap_39 = Mine.hd.heap_39 := by k_fill; exact ⟨rfl, rfl⟩
theorem caught_next {M : Model} {A : Around} {E : Value → Shared → Prop} {s : Shared} {base : Heap} {env : Env} {outer : List Env} {L e : Addr} {cls : Value} {Q : Unit → Shared → Prop}
    (hfr : A.frames = some (env :: outer)) (hl : s.heap.FunFrames base (env :: outer)) (hf : env.frame = some L) (ht : s.heap.Traced base e cls) (hkb : base.StaysIn s.heap) (hen : base.get? e = none)
    (h : ∀ h', Heap.Left base (env :: outer) e cls s.heap h' → Q () { s with heap := h' }) :
    wpAny M A (noteFrame (.ref e) env) (fun _ s₂ => wpAny M A (setFlight (.ref e) none) Q E s₂) E s := by
  obtain ⟨oe, vs, T, oT, ts, he, hcls, hd, h1, hnT, hTe, hT, hdT, h3⟩ := ht
  subst hcls
  unfold noteFrame
  simp only [hf]
  refine wpAny_bind (wpAny_field he hd h1 ?_)
  rw [if_pos (show (Value.ref T != Value.none) = true from by simp)]
  refine wpAny_bind (wpAny_field hT hdT h3 ?_)
  rw [if_neg (show ¬ ((Value.none == rawInt L) = true) from by simp [rawInt])]
  refine wpAny_bind (wpAny_setField hT hdT (Array.getElem?_eq_some_iff.mp h3).1 ?_)
  have other : ∀ b, b ≠ T → (s.heap.update T (Obj.mapFields (·.setIfInBounds 3 Value.none))).get? b = s.heap.get? b := fun b hb => Heap.get?_update_other _ _ (Ne.symm hb)
  have noRec : ∀ b o, s.heap.get? b = some o → (∀ vs, o.data ≠ .fields vs) → b ≠ T := fun b o hb hnf q => by
    rw [q, hT] at hb; injection hb with hb; subst hb; exact hnf ts hdT
  refine wpAny_newEntry hfr (hl.of_keeps fun b o hb hnf => ⟨o, (other b (noRec b o hb hnf)).trans hb, rfl⟩) hf ((other e (Ne.symm hTe)).trans he)
    (fun b o hbo => (other b fun q => by rw [q, hnT] at hbo; cases hbo).trans (hkb b o hbo)) hen hd (Array.getElem?_eq_some_iff.mp h1).1
    fun h' ⟨x1, x2, x3, x4⟩ => h h' ⟨x1, x2, x3, fun b o hb hnf => x4 b o ((other b (noRec b o hb hnf)).trans hb) hnf⟩

/-- the arm of an exception that a call has let through; one frame, its own -/
theorem arm_called {prog : Program} {w : World} {A : Around} {E : Value → Shared → Prop} {s : Shared} {g h : Heap} {L e : Addr} {m : Str → Option Value} {news : List (Addr × Obj)} {env : Env} {cls : String} {t : Expr} {b₀ : Stmt} {suite : List Stmt} {pos : Pos} {Q : Flow → Shared → Prop}
    (hfr : A.frames = some [env]) (hf : env.frame = some L) (F : Fr g L h m) (N : News g L h news)
    (hid : List Addr) (hid0 : ∀ a ∈ hid, g.get? a = none) (hidn : ∀ p ∈ news, p.1 ∉ hid) (fly : Heap.Flying (hideAll h (L :: hid)) [env] e (.type cls) s.heap) (hsl : ∀ o, h.get? L = some o → ∃ sl, s.heap.get? L = some { o with slots := sl })
    (hexc : isSubtype (.type cls) (.type "BaseException") = pure true) (hnt : isSubtype (.type ((Manifest.find? cls).elim "type" fun x => x.metatype)) (.type "tuple") = pure false) (hsub : isSubtype (.type cls) (.type cls) = pure true)
    (hev : ∀ h' (Q : Value → Shared → Prop) (E : Value → Shared → Prop), Fr g L h' m → News g L h' news → (∀ tk, Q (.type cls) { s with heap := h', toks := tk }) →
      wpAny (model prog w) (A.mark (some (.ref e))) (eval t env) Q E { s with heap := h' })
    (hrest : ∀ h' tk, Fr g L h' m → News g L h' news → wpAny (model prog w) (A.mark (some (.ref e))) (execs (b₀ :: suite) env) Q (notedBy (model prog w) (A.mark (some (.ref e))) env (cameBackBy (model prog w) A env E)) { s with heap := h', toks := tk }) :
    wpAny (model prog w) A (noteFrame (.ref e) env) (fun _ s₂ => wpAny (model prog w) A (setFlight (.ref e) none) (fun _ s₃ => wpAny (model prog w) A (handleBy (.ref e) env [.ExceptHandler (some t) none (b₀ :: suite) pos]) Q E s₃) E s₂) E s := by
  obtain ⟨f1, f2, f3, f4⟩ := fly
  obtain ⟨oL, esL, epL, hoL, hdL, _⟩ := id F.ns
  have hLnf : ∀ vs, oL.data ≠ .fields vs := fun vs q => by rw [hdL] at q; cases q
  refine caught_next hfr f3 hf f4 f1 f2 fun h₁ hL => ?_
  obtain ⟨k1, _, kT, k3⟩ := hL
  obtain ⟨sl, eL⟩ := hsl oL hoL
  obtain ⟨slL, eL1⟩ := k3 L _ eL hLnf
  have keep : ∀ c o, c ≠ L → c ∉ hid → h.get? c = some o → h₁.get? c = some o := fun c o q1 q2 q => k1 c o (hideAll_get _ q (by simp [q1, q2]))
  have ghid : ∀ c o, g.get? c = some o → c ≠ L ∧ c ∉ hid := fun c o q => ⟨fun r => by rw [r] at q; exact absurd (Heap.lt_size q) (Nat.not_lt.mpr F.above), fun r => by rw [hid0 c r] at q; cases q⟩
  have gk : g.StaysIn h₁ := fun c o q => keep c o (ghid c o q).1 (ghid c o q).2 (F.keep c o q)
  have F₁ : Fr g L h₁ m := fr_slots F hoL eL1 gk
  have N₁ : News g L h₁ news := fun p hp => ⟨keep _ _ (N p hp).2.1 (hidn p hp) (N p hp).1, (N p hp).2⟩
  obtain ⟨oe, vs, T, oT, ts, he1, hc1, hd1, hv1, hbT, hTe, hT, hdT, ht3⟩ := kT
  refine wpAny_handleBy_builtin hexc hnt hsub (hev h₁ _ _ F₁ N₁ fun tk => ⟨rfl, ?_, ?_⟩)
  · exact ⟨_, he1, hc1⟩
  · rw [if_pos rfl]
    refine wpAny_setFlight_none he1 hd1 hv1 hT hdT (Array.getElem?_eq_some_iff.mp ht3).1 ?_
    have hTL : T ≠ L := fun q => by rw [q, eL1] at hT; injection hT with hT; subst hT; exact hLnf _ hdT
    have other : ∀ c o, c ≠ T → h₁.get? c = some o → (h₁.update T (Obj.mapFields (·.setIfInBounds 3 .none))).get? c = some o := fun c o q e => by
      rw [Heap.get?_update_other _ _ (Ne.symm q)]; exact e
    have hgT : ∀ c o, h.get? c = some o → c ∉ hid → c ≠ T := fun c o q q2 r => by
      by_cases q1 : c = L
      · exact hTL (r.symm.trans q1)
      · rw [← r, hideAll_get _ q (by simp [q1, q2])] at hbT; cases hbT
    refine hrest _ tk ⟨F₁.ns.at' fun o q => other _ _ (Ne.symm hTL) q, fun c o q => other c o (hgT c o (F.keep c o q) (ghid c o q).2) (gk c o q), F₁.above⟩ fun p hp' => ?_
    have P := N₁ p hp'
    exact ⟨other _ _ (hgT _ _ (N p hp').1 (hidn p hp')) P.1, P.2⟩

theorem heappop_empty {prog : Program} {w : World} {A : Around} {R : Result → Shared → Prop} {s : Shared} {b : Heap} {l L0 : Addr} {o0 : Obj} {envL : Env} {ep : Nat}
    (G : Gd w b) (st : b.StaysIn s.heap) (hb0 : b.get? L0 = none) (h0 : s.heap.get? L0 = some o0) (h0d : ∀ vs, o0.data ≠ .fields vs) (hfr : A.frames = some [envL]) (hf0 : envL.frame = some L0) (hk0 : envL.scope.kind ≠ .module)
    (hl : s.heap.get? l = some (lst [] ep)) (hne : l ≠ L0) (hu : A.units + 400 < cLine) (hroom : A.depth + 2 < recursionLimit) (hh : A.handled = none)
    (hR : ∀ h' tk e, Heap.Flying (hideAll s.heap [L0]) [envL] e (.type "IndexError") h' → (∃ sl, h'.get? L0 = some { o0 with slots := sl }) → R (.error (.ref e)) { s with heap := h', toks := tk }) :
    codeAny (model prog w) A (.call (.ref 51) ⟨[.ref l], []⟩) R s := by
  refine callF (as := [L0]) G st (by simp [hb0]) (by with_unfolding_all rfl) (by with_unfolding_all rfl) (by omega) (BindsTo.of_eq rfl) (locs rfl) (fun L h₁ eL F hk G' => ?_) (by decide)
  have hL : L0 ≠ L := by rw [eL]; exact Nat.ne_of_lt (Heap.lt_size h0)
  have N : News (hideAll s.heap [L0]) L h₁ [(L0, o0)] := by
    intro p hp
    obtain rfl := List.mem_singleton.mp hp
    exact ⟨hk _ _ h0, hL, hideAll_none _ (by simp)⟩
  have hlg : (hideAll s.heap [L0]).get? l = some (lst [] ep) := hideAll_get _ hl (by simpa using hne)
  obtain ⟨mean, mg, mb, T⟩ := G'.T
  have X := G'.K
  generalize hg : hideAll s.heap [L0] = g at *
  clear eL hk G'
  replace F : Fr g L h₁ (fun y => if y = Str.ofString "heap" then some (Value.ref l) else none) := F
  generalize s.toks + _ = t0
  have hl1 := F.keep _ _ hlg
  have z0 := N (L0, o0) (.head _)
  walk1
  walk1
  walk1
  walk1
  refine getMethod_builtin (T := "list") ⟨_, hl1, rfl⟩ PySem.F.plainAttrs_list PySem.F.slot_list_pop PySem.F.type_list_pop (fun a e => by cases e; exact ⟨_, hl1, rfl⟩) ?_
  walk1
  obtain ⟨oL, esL, epL, hoL, hdL, _⟩ := id F.ns
  have hLnf : ∀ vs, oL.data ≠ .fields vs := fun vs q => by rw [hdL] at q; cases q
  refine call_meets PySem.F.slot_list_pop ⟨_, hl1, rfl⟩ PySem.F.entry_list_pop (PySem.F.args_list_pop_1 _) (AutoSeq1.list_pop_list_0 l #[] ep rfl) ⟨hl1, by exact hh, fun h₂ tk e x => ?_⟩
  obtain ⟨ob, tp, he, hcls, hd⟩ := x.there
  have hkb : g.StaysIn h₂ := fun c o q => x.keeps c o (F.keep c o q)
  have hen : g.get? e = none := by
    cases hq : g.get? e with
    | none => rfl
    | some o' => have := F.keep e o' hq; rw [x.new] at this; cases this
  show wpAny _ _ (leaving _ (.ref e)) _ _ _
  refine wpAny_leaving_first (base := g) (outer := [envL]) (L := L) (Around.frames_deeper hfr) ⟨(by intro q; cases q), ⟨L, oL, rfl, Heap.get?_none_of_le F.above, x.keeps _ _ hoL, hLnf⟩, hk0, ⟨L0, o0, hf0, z0.2.2, x.keeps _ _ z0.1, h0d⟩, trivial⟩ rfl he hkb hen hd rfl fun h₃ hL3 => ?_
  obtain ⟨k1, ⟨_, _, k2⟩, k3, k4⟩ := hL3
  exact hR h₃ _ e ⟨k1, hen, k2, by rw [← hcls]; exact k3⟩ (k4 L0 o0 (x.keeps _ _ z0.1) h0d)
end Mine
end
section
open PySem PySem.W PyProof.Rows PySem.Calls
open LCg (NsObj)
set_option Elab.async false
set_option maxRecDepth 100000
set_option maxHeartbeats 8000000
namespace Mine
local macro_rules | `(tactic| walk_at "wk") => `(tactic| repeat ((try dsimp only); (fail_if_success (with_reducible show wpAny _ _ (exec (Stmt.While _ _ _ _) _) _ _ _)); (fail_if_success (with_reducible show wpAny _ _ (exec (Stmt.For _ _ _ _ _) _) _ _ _)); walk1))
theorem fillL8 : PySem.Challenge.rw_mq0156_01 = PySem.Challenge.rw_mq0156_01 ∧ Mine.hd.heap_39 = Mine.hd.heap_39 := by k_fill; exact ⟨rfl, rfl⟩
def foundD (e : Nat × List Nat) : PyData := .list [.int (e.1 : Nat), .list ((natInts e.2).map .int)]
theorem reads_ints {h : Heap} {vs : List Value} {ns : List Int} (x : IntsAre vs ns) : ReadsAll h vs (ns.map .int) [] := by
  induction x with
  | nil => exact .nil
  | cons n t _ ih => exact .cons (.int n t) ih
theorem founds_reads {h : Heap} {imm : List (Addr × Obj)} (hb : Knows h imm) {vs : List Value} {es : List (Nat × List Nat)} (x : Founds imm vs es) : ∃ as, ReadsAll h vs (es.map foundD) as := by
  induction x with
  | nil => exact ⟨_, .nil⟩
  | cons h1 h2 h3 _ ih =>
    obtain ⟨as, r⟩ := ih
    exact ⟨_, .cons (reads_lst (hb _ h1) (.cons (.int _ _) (.cons (reads_lst (hb _ h2) (reads_ints h3)) .nil))) r⟩
theorem lay_ints : ∀ ns : List Int, PyData.canLayAll0 (ns.map .int) = true
  | [] => rfl
  | n :: ns => by show (PyData.canLay0 (.int n) && PyData.canLayAll0 (ns.map .int)) = true; rw [lay_ints ns]; rfl
theorem lay_founds : ∀ es : List (Nat × List Nat), PyData.canLayAll0 (es.map foundD) = true
  | [] => rfl
  | e :: es => by
    show (PyData.canLay0 (foundD e) && PyData.canLayAll0 (es.map foundD)) = true
    rw [lay_founds es]
    unfold foundD
    simp only [PyData.canLay0, PyData.canLayAll0, lay_ints, Bool.and_true, Bool.and_self]
theorem dep_ints : ∀ ns : List Int, PyData.depthAll (ns.map .int) = 0
  | [] => rfl
  | n :: ns => by show max (PyData.depth (.int n)) (PyData.depthAll (ns.map .int)) = 0; rw [dep_ints ns]; rfl
theorem dep_founds : ∀ es : List (Nat × List Nat), PyData.depthAll (es.map foundD) ≤ 2
  | [] => Nat.zero_le _
  | e :: es => by
    show max (PyData.depth (foundD e)) (PyData.depthAll (es.map foundD)) ≤ 2
    have := dep_founds es
    have : PyData.depth (foundD e) ≤ 2 := by
      unfold foundD
      simp only [PyData.depth, PyData.depthAll, dep_ints]
      omega
    omega
theorem st_try {prog : Program} {w : World} {A : Around} {E : Value → Shared → Prop} {s : Shared} {g : Heap} {L a lh lo ld : Addr} {cd : Value} {sc : Scope} {st : Stmt} {Q : Flow → Shared → Prop} {nH nO nD : Nat} {fds dus : List Value} {fd : List (Nat × List Nat)} {imm : List (Addr × Obj)} {m : Str → Option Value}
    (hsc : lawScope = some sc) (hst : lawStmt 11 = some st) (G : Gd w g) (hh : A.handled = none) (hfr : A.frames = some [lenv sc L a cd]) (hu : A.units + 1000 < cLine) (hroom : A.depth + 10 < recursionLimit)
    (F : Fr g L s.heap m) (e1 : m (Str.ofString "heap") = some (.ref lh)) (e2 : m (Str.ofString "found") = some (.ref lo)) (e3 : m (Str.ofString "due") = some (.ref ld))
    (N : News g L s.heap ((lh, lst [] nH) :: (lo, lst fds nO) :: (ld, lst dus nD) :: imm)) (hf : Founds imm fds fd) (hg : Founds imm dus fd) (hl : fd.length ≤ 5)
    (k : ∀ h tk, g.StaysIn h → Q (.ret (.bool true)) { s with heap := h, toks := tk }) :
    WpC (model prog w) A (exec st (lenv sc L a cd)) Q E s := by
  obtain rfl : _ = st := Option.some.inj (show some _ = some st from hst)
  obtain rfl : _ = sc := Option.some.inj (show some _ = some sc from hsc)
  obtain ⟨mean, mg, mb, T⟩ := id G.T
  have X := G.K
  replace F := fputs [(Str.ofString "heap", _), (Str.ofString "found", _), (Str.ofString "due", _)] F ⟨e1, e2, e3, trivial⟩
  simp only [bput] at F
  refine ⟨wpC_Try (wpC_any ?_)⟩
  walk_at "wk"
  obtain ⟨oL, esL, epL, hoL, hdL, _⟩ := id F.ns
  have hLnf : ∀ vs, oL.data ≠ .fields vs := fun vs q => by rw [hdL] at q; cases q
  have z := N (lh, lst [] nH) (.head _)
  refine wpAny_call (heappop_empty (b := g) (L0 := L) (o0 := oL) G F.keep (Heap.get?_none_of_le F.above) hoL hLnf hfr rfl (by intro q; cases q) z.1 z.2.1 (by omega) (by omega) hh ?_)
  intro h₁ tk e fly hsl
  have N2 : News g L s.heap ((lo, lst fds nO) :: (ld, lst dus nD) :: imm) := fun p hp => N p (.tail _ hp)
  refine arm_called hfr rfl F N2 [] (by simp) (by simp) fly (fun o ho => ?_) (by rw [isSubtype_type]; kernel_rfl) (by rw [isSubtype_type]; kernel_rfl) (by rw [isSubtype_type]; kernel_rfl) ?_ ?_
  · rw [hoL] at ho; cases ho; exact hsl
  · clear F N N2
    intro h' Q' E' F N kk
    walk1
    exact kk _
  · clear F N N2
    intro h' tk' F N
    walk1
    walk1
    walk1
    walk1
    walk1
    have hb : Knows h' imm := fun p hp => (N p (.tail _ (.tail _ hp))).1
    obtain ⟨as, r1⟩ := founds_reads hb hf
    obtain ⟨bs, r2⟩ := founds_reads hb hg
    have hlay : (PyData.list (fd.map foundD)).canLay0 = true := by rw [PyData.canLay0]; exact lay_founds fd
    refine SeqAt.eqOverData prog w _ _ _ _ _ (.list (fd.map foundD)) (.list (fd.map foundD)) _ _ _ (reads_lst (N (lo, lst fds nO) (.head _)).1 r1) (reads_lst (N (ld, lst dus nD) (.tail _ (.head _))).1 r2) hlay hlay (by have := dep_founds fd; rw [depth_list, Nat.min_self]; show A.units + _ < _; omega) ?_
    rw [SeqAt.eqv_refl _ hlay]
    exact k _ _ F.keep
end Mine
end
section
open PySem PySem.W PyProof.Rows PySem.Calls
open LCg (NsObj)
set_option Elab.async false
set_option maxRecDepth 100000
set_option maxHeartbeats 8000000
namespace Mine
local macro_rules | `(tactic| walk_at "wk") => `(tactic| repeat ((try dsimp only); (fail_if_success (with_reducible show wpAny _ _ (exec (Stmt.While _ _ _ _) _) _ _ _)); (fail_if_success (with_reducible show wpAny _ _ (exec (Stmt.For _ _ _ _ _) _) _ _ _)); walk1))
theorem fillL6 : PySem.Challenge.rw_mq0156_01 = PySem.Challenge.rw_mq0156_01 ∧ Mine.hd.heap_39 = Mine.hd.heap_39 := by k_fill; exact ⟨rfl, rfl⟩
/-- a statement that binds a name to a new empty list -/
theorem st_empty {prog : Program} {w : World} {A : Around} {E : Value → Shared → Prop} {s : Shared} {g : Heap} {L a : Addr} {cd : Value} {sc : Scope} {st : Stmt} {Q : Flow → Shared → Prop} {m : Str → Option Value} {news : List (Addr × Obj)} (n : Nat) (x : Str) (hn : n = 6 ∧ x = Str.ofString "force" ∨ n = 7 ∧ x = Str.ofString "found" ∨ n = 9 ∧ x = Str.ofString "due")
    (hsc : lawScope = some sc) (hst : lawStmt n = some st) (F : Fr g L s.heap m) (N : News g L s.heap news)
    (k : ∀ h tk lf, Fr g L h (fun y => if y = x then some (.ref lf) else m y) → News g L h ((lf, lst [] 0) :: news) → (∀ p ∈ news, p.1 ≠ lf) → Q .next { s with heap := h, toks := tk }) :
    WpC (model prog w) A (exec st (lenv sc L a cd)) Q E s := by
  refine ⟨wpC_any ?_⟩
  obtain rfl : _ = sc := Option.some.inj (show some _ = some sc from hsc)
  rcases hn with ⟨rfl, rfl⟩ | ⟨rfl, rfl⟩ | ⟨rfl, rfl⟩
  all_goals
    obtain rfl : _ = st := Option.some.inj (show some _ = some st from hst)
    have hnew : ∀ p ∈ news, p.1 ≠ s.heap.objs.size := fun p hp => Nat.ne_of_lt (Heap.lt_size (N p hp).1)
    walk_at "wk"
    rename Fr _ _ _ _ => F
    rename News _ _ _ _ => N
    exact k _ _ _ F N hnew
end Mine
end
section
open PySem PySem.W PyProof.Rows PySem.Calls
set_option Elab.async false
set_option maxRecDepth 100000
set_option maxHeartbeats 8000000
namespace Mine
local macro_rules | `(tactic| walk_at "me") => `(tactic| repeat (first | exact memH | refine memT ?_))
local macro_rules | `(tactic| walk_at "sub") => `(tactic| repeat (first | exact fun _ h => h | (refine subC ?_ ?_; focus (walk_at "me"; done)) | (refine allC ?_ ?_; focus (first | (refine Or.inl ?_; walk_at "me"; done) | exact Or.inr rfl | exact Or.inr (Or.inl rfl) | exact Or.inr (Or.inr rfl))) | refine orI ?_ | refine subT ?_))
theorem founds_sub {imm : List (Addr × Obj)} {vs : List Value} {es : List (Nat × List Nat)} (h : Founds imm vs es) : ∃ imm', (∀ p ∈ imm', p ∈ imm) ∧ (∀ p ∈ imm', ∃ xs n, p.2 = lst xs n) ∧ Founds imm' vs es := by
  induction h with
  | nil => exact ⟨[], (fun p hp => nomatch hp), (fun p hp => nomatch hp), .nil⟩
  | @cons a b t n n' sv v fs vs es h1 h2 h3 _ ih =>
    obtain ⟨imm', x, y, z⟩ := ih
    refine ⟨(a, lst [.int (v : Nat) t, .ref b] n) :: (b, lst sv n') :: imm', ?_, ?_, .cons (.head _) (.tail _ (.head _)) h3 (z.mono fun p hp => .tail _ (.tail _ hp))⟩
    · intro p hp
      rcases List.mem_cons.mp hp with rfl | hp
      · exact h1
      · rcases List.mem_cons.mp hp with rfl | hp
        · exact h2
        · exact x p hp
    · intro p hp
      rcases List.mem_cons.mp hp with rfl | hp
      · exact ⟨_, _, rfl⟩
      · rcases List.mem_cons.mp hp with rfl | hp
        · exact ⟨_, _, rfl⟩
        · exact y p hp
theorem VerIn.mono {nums : List Int} {ys : List Value} {imm imm' : List (Addr × Obj)} (h : VerIn nums ys imm) (s : ∀ p ∈ imm, p ∈ imm') : VerIn nums ys imm' :=
  ⟨h.1, fun j hj => by obtain ⟨r, o, a, b, c⟩ := h.2 j hj; exact ⟨r, o, a, s _ b, c⟩⟩
theorem lawSt_some (n : Nat) (h : n < 12) : lawStmt n = some (lawSt n) := by
  have : n = 0 ∨ n = 1 ∨ n = 2 ∨ n = 3 ∨ n = 4 ∨ n = 5 ∨ n = 6 ∨ n = 7 ∨ n = 8 ∨ n = 9 ∨ n = 10 ∨ n = 11 := by omega
  rcases this with rfl | rfl | rfl | rfl | rfl | rfl | rfl | rfl | rfl | rfl | rfl | rfl <;> rfl
theorem chainC {prog : Program} {w : World} {A : Around} {E : Value → Shared → Prop} {s : Shared} {env : Env} {st : Stmt} {rest : List Stmt} {Q : Flow → Shared → Prop}
    (h : WpC (model prog w) A (exec st env) (fun f s' => match f with | .next => WpC (model prog w) A (execs rest env) Q E s' | f => Q f s') E s) : WpC (model prog w) A (execs (st :: rest) env) Q E s :=
  ⟨wpC_execs (wpC_mono h.h (fun f s' hf => by cases f <;> first | exact hf.h | exact hf) fun _ _ e => e)⟩
theorem law_body {keyD : Int → List PyData} (K : KeyLaw keyD) : LawBody := by
  intro prog w A E s g L a ax cd vs ns o1 o2 o3 o4 o5 G F N C hl hI hlen hh hfr hu hroom
  have hsc := lawSc_eq
  have hst := lawSt_some
  rw [lawBody_eq]
  refine chainC (st_own hsc (hst 0 (by decide)) G hh (by omega) (by omega) F N C.d1 C.d2 C.d3 C.d4 C.d5 ?_)
  clear F N
  intro h tk lo os o2' F N hlo d2 hos
  dsimp only
  refine chainC (st_versions hsc (hst 1 (by decide)) G hh (by omega) (by omega) F N C.d1 d2 hlo hos hl hI hlen ?_)
  clear F N
  intro h tk lv ys nD imm nums F N hoff hlv hnl hV
  dsimp only
  refine chainC (st_keys hsc (hst 2 (by decide)) G hh hfr (by omega) (by omega) K.text F N hoff hlv C.d3 hnl hV ?_)
  clear F N
  intro h tk lk ks nK o3' imm2 F N hoff2 hlk d3 KI
  dsimp only
  refine chainC (st_marks hsc (hst 3 (by decide)) G hh (by omega) (by omega) F N hoff2 hlv hlk C.d4 hnl (hV.mono fun p hp => List.mem_append_right _ hp) ?_)
  clear F N
  intro h tk lm ms nM o4' F N hlm d4 hM
  dsimp only
  have hoff3 : offCells L ((lm, lst ms nM) :: (imm2 ++ imm)) := by
    intro p hp
    rcases List.mem_cons.mp hp with rfl | hp
    · exact hlm
    · exact hoff2 p hp
  have N2 : News g L h ((lk, lst ks nK) :: cells5 L o1 o2' o3' o4' o5 ((lm, lst ms nM) :: (imm2 ++ imm))) := fun p hp => N p (by
    revert p; walk_at "sub")
  clear N
  refine chainC (st_heap hsc (hst 4 (by decide)) G hh (by omega) (by omega) F N2 hoff3 hlk d3 KI.1 ?_)
  clear F N2
  intro h tk lh hs nH imm3 F N hoff4 hne hE
  dsimp only
  have hsm : ∀ e ∈ evs0, small e := fun e he => ((evs0_mem e).mp he).1.small
  refine chainC (st_heapify (lk := lk) (lv := lv) (rest := (lk, lst ks nK) :: cells5 L o1 o2' o3' o4' o5 (imm3 ++ (lm, lst ms nM) :: (imm2 ++ imm))) hsc (hst 5 (by decide)) G hh (by omega) (by omega) K F N (fun p hp => .tail _ (mem_cells hp)) hne (KI.mono fun p hp => List.mem_append_right _ (.tail _ hp)) hE rfl hsm ?_)
  clear F N
  intro h tk hs' es' F N hE' hp hH
  dsimp only
  refine chainC (st_empty 6 _ (.inl ⟨rfl, rfl⟩) hsc (hst 6 (by decide)) F N ?_)
  clear F N
  intro h tk lf F N hlf
  dsimp only
  refine chainC (st_empty 7 _ (.inr (.inl ⟨rfl, rfl⟩)) hsc (hst 7 (by decide)) F N ?_)
  clear F N
  intro h tk lo' F N hlo'
  dsimp only
  obtain ⟨ρ, hPI⟩ := pinv_init (markD nums) hp
  have N2 : News g L h ((lh, lst hs' nH) :: (lf, lst [] 0) :: (lo', lst [] 0) :: (lk, lst ks nK) :: cells5 L o1 o2' o3' o4' o5 (imm3 ++ (lm, lst ms nM) :: (imm2 ++ imm))) := fun p hp => N p (by
    revert p; walk_at "sub")
  clear N
  have hd : lh ≠ lf ∧ lh ≠ lo' ∧ lf ≠ lo' := ⟨hlf (lh, lst hs' nH) (.head _), hlo' (lh, lst hs' nH) (.tail _ (.head _)), hlo' (lf, lst [] 0) (.head _)⟩
  refine chainC (st_while hsc (hst 8 (by decide)) G hh (by omega) (by omega) K F ⟨rfl, rfl, rfl⟩ N2 hd (fun p hp => ⟨hne p hp, hlf p (.tail _ hp), hlo' p (.tail _ (.tail _ hp))⟩) d3 (KI.mono fun p hp => List.mem_append_right _ (.tail _ hp)) hE' hH hPI (by rw [hp.length_eq]; exact Nat.le_refl _) ?_)
  clear F N2
  intro h tk m lh2 lo2 fds nH nO nF fs imm' found ρ' force F em1 em2 N hfd hPE hoffX hdX
  dsimp only
  refine chainC (st_empty 9 _ (.inr (.inr ⟨rfl, rfl⟩)) hsc (hst 9 (by decide)) F N ?_)
  clear F N
  intro h tk ld F N hld
  dsimp only
  obtain ⟨immF, hf1, hf2, hfd2⟩ := founds_sub hfd
  have hlmN : (lm, lst ms nM) ∈ imm' ++ (imm3 ++ (lm, lst ms nM) :: (imm2 ++ imm)) := List.mem_append_right _ (List.mem_append_right _ (.head _))
  have sub : ∀ p ∈ (lm, lst ms nM) :: cells5 L o1 o2' o3' o4' o5 ((lh2, lst [] nH) :: (lo2, lst fds nO) :: immF), p ∈ (lh2, lst [] nH) :: (lf, lst fs nF) :: (lo2, lst fds nO) :: (lk, lst ks nK) :: cells5 L o1 o2' o3' o4' o5 (imm' ++ (imm3 ++ (lm, lst ms nM) :: (imm2 ++ imm))) := by
    have mc : ∀ q, q ∈ imm' ++ (imm3 ++ (lm, lst ms nM) :: (imm2 ++ imm)) → q ∈ (lh2, lst [] nH) :: (lf, lst fs nF) :: (lo2, lst fds nO) :: (lk, lst ks nK) :: cells5 L o1 o2' o3' o4' o5 (imm' ++ (imm3 ++ (lm, lst ms nM) :: (imm2 ++ imm))) := fun q hq => .tail _ (.tail _ (.tail _ (.tail _ (mem_cells hq))))
    refine subC (mc _ hlmN) ?_
    iterate 7 (refine subC ?_ ?_; focus (walk_at "me"; done))
    exact fun p hp => mc _ (hf1 p hp)
  have N3 : News g L h ((ld, lst [] 0) :: (lm, lst ms nM) :: cells5 L o1 o2' o3' o4' o5 ((lh2, lst [] nH) :: (lo2, lst fds nO) :: immF)) := fun p hp => N p (by
    rcases List.mem_cons.mp hp with rfl | hp
    · exact .head _
    · exact .tail _ (sub p hp))
  have hld2 : ∀ p ∈ (lm, lst ms nM) :: cells5 L o1 o2' o3' o4' o5 ((lh2, lst [] nH) :: (lo2, lst fds nO) :: immF), p.1 ≠ ld := fun p hp => hld p (sub p hp)
  have cellNe : ∀ r o c oc, (r, o) ∈ (lm, lst ms nM) :: cells5 L o1 o2' o3' o4' o5 ((lh2, lst [] nH) :: (lo2, lst fds nO) :: immF) → (c, oc) ∈ (lm, lst ms nM) :: cells5 L o1 o2' o3' o4' o5 ((lh2, lst [] nH) :: (lo2, lst fds nO) :: immF) → (∃ xs n, o = lst xs n) → (∃ y, oc.data = .cell y) → r ≠ c := by
    rintro r o c oc h1 h2 ⟨xs, n, rfl⟩ ⟨y, hy⟩ rfl
    have a := (N3 _ (.tail _ h1)).1
    have b := (N3 _ (.tail _ h2)).1
    rw [a] at b
    obtain rfl := Option.some.inj b
    cases hy
  have off3 : offCells L ((lh2, lst [] nH) :: (lo2, lst fds nO) :: immF) := by
    intro p hp
    have hl : ∃ xs n, p.2 = lst xs n := by
      rcases List.mem_cons.mp hp with rfl | hp
      · exact ⟨_, _, rfl⟩
      · rcases List.mem_cons.mp hp with rfl | hp
        · exact ⟨_, _, rfl⟩
        · exact hf2 p hp
    have hm : (p.1, p.2) ∈ (lm, lst ms nM) :: cells5 L o1 o2' o3' o4' o5 ((lh2, lst [] nH) :: (lo2, lst fds nO) :: immF) := .tail _ (mem_cells hp)
    exact ⟨cellNe _ _ _ o1 hm (by walk_at "me") hl ⟨_, C.d1⟩, cellNe _ _ _ o2' hm (by walk_at "me") hl ⟨_, d2⟩, cellNe _ _ _ o3' hm (by walk_at "me") hl ⟨_, d3⟩, cellNe _ _ _ o4' hm (by walk_at "me") hl ⟨_, d4⟩, cellNe _ _ _ o5 hm (by walk_at "me") hl ⟨_, C.d5⟩⟩
  clear N sub
  refine chainC (st_for hsc (hst 10 (by decide)) G hh (by omega) (by omega) F (by rw [if_pos rfl]) N3 off3 hld2 hlm.2.2.2.2 d4 C.d5 hM ?_)
  clear F N3
  intro h tk m2 ld' dus nD' o5' p imm2' F hm2 N edue hpw hpm hfd3
  dsimp only
  have hfo : found = p.map (fun v => (v, dueOf (markD nums) v)) := pinv_end hPE hpw hpm
  have hlen5 : (p.map fun v => (v, dueOf (markD nums) v)).length ≤ 5 := by
    rw [List.length_map]
    have hnd : p.Nodup := by
      refine List.Pairwise.imp ?_ hpw
      intro a b x e
      subst e
      exact absurd x (Int.lt_irrefl _)
    exact nodup_le 5 p hnd fun v hv => (hpm v).mp hv
  rw [hfo] at hfd2
  have N4 : News g L h ((lh2, lst [] nH) :: (lo2, lst fds nO) :: (ld', lst dus nD') :: (imm2' ++ immF)) := fun q hq => N q (by
    revert q
    have z : ∀ q ∈ imm2' ++ ((lh2, lst [] nH) :: (lo2, lst fds nO) :: immF), q ∈ (ld', lst dus nD') :: (lm, lst ms nM) :: cells5 L o1 o2' o3' o4' o5' (imm2' ++ ((lh2, lst [] nH) :: (lo2, lst fds nO) :: immF)) := by walk_at "sub"
    refine subC (z _ (List.mem_append_right _ (.head _))) (subC (z _ (List.mem_append_right _ (.tail _ (.head _)))) (subC (.head _) ?_))
    intro q hq
    rcases List.mem_append.mp hq with hq | hq
    · exact z _ (List.mem_append_left _ hq)
    · exact z _ (List.mem_append_right _ (.tail _ (.tail _ hq))))
  refine chainC (st_try hsc (hst 11 (by decide)) G hh hfr (by omega) (by omega) F ((hm2 _ (by decide)).trans ?_) ((hm2 _ (by decide)).trans ?_) ((hm2 _ (by decide)).trans edue) N4 (hfd2.mono fun q hq => List.mem_append_right _ hq) (hfd3.mono fun q hq => List.mem_append_left _ hq) hlen5 ?_)
  · rw [if_neg (by decide)]
    exact em1
  · rw [if_neg (by decide)]
    exact em2
  · intro h tk hs
    exact ⟨rfl, hs, rfl, rfl⟩
end Mine
end
section
open PySem PySem.W PyProof.Rows PySem.Calls
set_option Elab.async false
set_option maxRecDepth 100000
set_option maxHeartbeats 4000000
namespace Mine
inductive Pc
  | w (i : Fin 12)
  | n (v : Nat)
def pcStages : List Int := [0, 0, 10, 40, 20, 20, 30, 30, 50, 50, 200, 200]
def wordI (i : Fin 12) : Str := Str.ofString (lvWords.getD i.1 "")
def stageI (i : Fin 12) : Int := pcStages.getD i.1 0
def placeI (i : Fin 12) : Int := lvPlaces.getD i.1 0
def keyPc : Pc → List PyData
  | .w i => [.int (stageI i), .str (wordI i)]
  | .n v => [.int 100, .int (v : Nat)]
def placePc : Pc → Int
  | .w i => placeI i
  | .n v => 11 + (v : Nat)
def okPc : Pc → Prop
  | .w _ => True
  | .n v => (v : Int) < 10 ^ 30
def keyL (ps : List Pc) : List PyData := ps.flatMap keyPc
theorem ww1 : ∀ i j : Fin 12, (stageI i = stageI j ∧ wordI i = wordI j) ↔ placeI i = placeI j := by decide
theorem ww2 : ∀ i j : Fin 12, stageI i = stageI j → (decide ((wordI i).cps.toList < (wordI j).cps.toList)) = decide (placeI i < placeI j) := by decide
theorem ww3 : ∀ i j : Fin 12, stageI i ≠ stageI j → decide (stageI i < stageI j) = decide (placeI i < placeI j) := by decide
theorem wn1 : ∀ i : Fin 12, (stageI i < 100 ∧ placeI i < 11) ∨ (100 < stageI i ∧ 11 + 10 ^ 30 ≤ placeI i) := by decide
theorem eqv_int (a b : Int) : PyData.eqv (.int a) (.int b) = decide (a = b) := by
  unfold PyData.eqv; exact Bool.eq_iff_iff.mpr (by rw [beq_iff_eq, decide_eq_true_iff])
theorem eqv_str (a b : Str) : PyData.eqv (.str a) (.str b) = decide (a = b) := by
  unfold PyData.eqv; exact Bool.eq_iff_iff.mpr (by rw [beq_iff_eq, decide_eq_true_iff])
theorem ltO_int (a b : Int) : ltO (.int a) (.int b) = some (decide (a < b)) := by rw [ltO]
theorem ltO_str (a b : Str) : ltO (.str a) (.str b) = some (decide (a.cps.toList < b.cps.toList)) := by rw [ltO]
theorem pc_lt (p q : Pc) (hp : okPc p) (hq : okPc q) (R S : List PyData) :
    ltOs (keyPc p ++ R) (keyPc q ++ S) = if placePc p = placePc q then ltOs R S else some (decide (placePc p < placePc q)) := by
  cases p with
  | w i =>
    cases q with
    | w j =>
      show ltOs (.int (stageI i) :: .str (wordI i) :: R) (.int (stageI j) :: .str (wordI j) :: S) = if placeI i = placeI j then _ else some (decide (placeI i < placeI j))
      rw [ltOs, eqv_int, ltO_int, ltOs, eqv_str, ltO_str]
      have h1 := ww1 i j
      by_cases hs : stageI i = stageI j
      · have h2 := ww2 i j hs
        by_cases hw : wordI i = wordI j
        · have h3 := h1.mp ⟨hs, hw⟩
          simp [hs, hw, h3]
        · have h3 : ¬ placeI i = placeI j := fun e => hw (h1.mpr e).2
          rw [if_pos (decide_eq_true hs), if_neg (by simpa using hw), if_neg h3, h2]
      · have h2 := ww3 i j hs
        have h3 : ¬ placeI i = placeI j := fun e => hs (h1.mpr e).1
        simp [hs, h3, h2]
    | n v =>
      show ltOs (.int (stageI i) :: .str (wordI i) :: R) (.int 100 :: .int (v : Nat) :: S) = if placeI i = 11 + (v : Int) then _ else some (decide (placeI i < 11 + (v : Int)))
      have hv : (v : Int) < 10 ^ 30 := hq
      rw [ltOs, eqv_int, ltO_int]
      have h1 := wn1 i
      have hs : ¬ stageI i = 100 := by omega
      have h3 : ¬ placeI i = 11 + (v : Int) := by omega
      have h2 : decide (stageI i < 100) = decide (placeI i < 11 + (v : Int)) := by
        rcases h1 with h | h
        · rw [decide_eq_true h.1, decide_eq_true (by omega : placeI i < 11 + (v : Int))]
        · rw [decide_eq_false (by omega : ¬ stageI i < 100), decide_eq_false (by omega : ¬ placeI i < 11 + (v : Int))]
      simp [hs, h3, h2]
  | n u =>
    have hu : (u : Int) < 10 ^ 30 := hp
    cases q with
    | w j =>
      show ltOs (.int 100 :: .int (u : Nat) :: R) (.int (stageI j) :: .str (wordI j) :: S) = if 11 + (u : Int) = placeI j then _ else some (decide (11 + (u : Int) < placeI j))
      rw [ltOs, eqv_int, ltO_int]
      have h1 := wn1 j
      have hs : ¬ 100 = stageI j := by omega
      have h3 : ¬ 11 + (u : Int) = placeI j := by omega
      have h2 : decide (100 < stageI j) = decide (11 + (u : Int) < placeI j) := by
        rcases h1 with h | h
        · rw [decide_eq_false (by omega : ¬ 100 < stageI j), decide_eq_false (by omega : ¬ 11 + (u : Int) < placeI j)]
        · rw [decide_eq_true h.1, decide_eq_true (by omega : 11 + (u : Int) < placeI j)]
      simp [hs, h3, h2]
    | n v =>
      show ltOs (.int 100 :: .int (u : Nat) :: R) (.int 100 :: .int (v : Nat) :: S) = if 11 + (u : Int) = 11 + (v : Int) then _ else some (decide (11 + (u : Int) < 11 + (v : Int)))
      rw [ltOs, eqv_int, ltO_int, ltOs, eqv_int, ltO_int]
      by_cases h : (u : Int) = v
      · have h3 : 11 + (u : Int) = 11 + (v : Int) := by omega
        rw [if_pos (by simp), if_pos (by simpa using h), if_pos h3]
      · have h3 : ¬ 11 + (u : Int) = 11 + (v : Int) := by omega
        have h2 : decide ((u : Int) < v) = decide (11 + (u : Int) < 11 + (v : Int)) := by
          apply Bool.eq_iff_iff.mpr; rw [decide_eq_true_iff, decide_eq_true_iff]; omega
        rw [if_pos (by simp), if_neg (by simpa using h), if_neg h3, h2]
theorem pc_eq (p q : Pc) (hp : okPc p) (hq : okPc q) (R S : List PyData) :
    PyData.eqvAll (keyPc p ++ R) (keyPc q ++ S) = (decide (placePc p = placePc q) && PyData.eqvAll R S) := by
  cases p with
  | w i =>
    cases q with
    | w j =>
      show PyData.eqvAll (.int (stageI i) :: .str (wordI i) :: R) (.int (stageI j) :: .str (wordI j) :: S) = (decide (placeI i = placeI j) && _)
      rw [PyData.eqvAll, eqv_int, PyData.eqvAll, eqv_str]
      have h1 := ww1 i j
      by_cases h3 : placeI i = placeI j
      · have := h1.mpr h3; simp [this.1, this.2, h3]
      · by_cases hs : stageI i = stageI j
        · have hw : ¬ wordI i = wordI j := fun e => h3 (h1.mp ⟨hs, e⟩)
          simp [hw, h3]
        · simp [hs, h3]
    | n v =>
      show PyData.eqvAll (.int (stageI i) :: .str (wordI i) :: R) (.int 100 :: .int (v : Nat) :: S) = (decide (placeI i = 11 + (v : Int)) && _)
      have hv : (v : Int) < 10 ^ 30 := hq
      have h1 := wn1 i
      have hs : ¬ stageI i = 100 := by omega
      have h3 : ¬ placeI i = 11 + (v : Int) := by omega
      rw [PyData.eqvAll, eqv_int]
      simp [hs, h3]
  | n u =>
    have hu : (u : Int) < 10 ^ 30 := hp
    cases q with
    | w j =>
      show PyData.eqvAll (.int 100 :: .int (u : Nat) :: R) (.int (stageI j) :: .str (wordI j) :: S) = (decide (11 + (u : Int) = placeI j) && _)
      have h1 := wn1 j
      have hs : ¬ 100 = stageI j := by omega
      have h3 : ¬ 11 + (u : Int) = placeI j := by omega
      rw [PyData.eqvAll, eqv_int]
      simp [hs, h3]
    | n v =>
      show PyData.eqvAll (.int 100 :: .int (u : Nat) :: R) (.int 100 :: .int (v : Nat) :: S) = (decide (11 + (u : Int) = 11 + (v : Int)) && _)
      rw [PyData.eqvAll, eqv_int, PyData.eqvAll, eqv_int]
      by_cases h : (u : Int) = v
      · have h3 : 11 + (u : Int) = 11 + (v : Int) := by omega
        rw [decide_eq_true h, decide_eq_true h3]; simp
      · have h3 : ¬ 11 + (u : Int) = 11 + (v : Int) := by omega
        rw [decide_eq_false h, decide_eq_false h3]; simp
/-- digits of base 10^31 -/
def valL : Nat → List Pc → Int
  | 0, _ => 0
  | _ + 1, [] => 0
  | n + 1, p :: ps => placePc p * (10 ^ 31) ^ n + valL n ps
theorem place_pos (p : Pc) (h : okPc p) : 1 ≤ placePc p ∧ placePc p < 10 ^ 31 := by
  cases p with
  | w i =>
    have := (by decide : ∀ i : Fin 12, 1 ≤ placeI i ∧ placeI i < 10 ^ 31) i
    exact this
  | n v =>
    have hv : (v : Int) < 10 ^ 30 := h
    show 1 ≤ 11 + (v : Int) ∧ 11 + (v : Int) < 10 ^ 31
    omega
theorem pow31 (n : Nat) : (0 : Int) < (10 ^ 31) ^ n := Int.pow_pos (by decide)
theorem val_bound : ∀ (n : Nat) (ps : List Pc), (∀ p ∈ ps, okPc p) → 0 ≤ valL n ps ∧ valL n ps < (10 ^ 31) ^ n
  | 0, ps, _ => by cases ps <;> exact ⟨Int.le_refl _, pow31 0⟩
  | n + 1, [], _ => ⟨Int.le_refl _, pow31 (n + 1)⟩
  | n + 1, p :: ps, h => by
    have a := place_pos p (h p (.head _))
    have b := val_bound n ps fun q hq => h q (.tail _ hq)
    have c := pow31 n
    rw [valL, show ((10 : Int) ^ 31) ^ (n + 1) = (10 ^ 31) ^ n * 10 ^ 31 from Int.pow_succ _ _]
    generalize placePc p = x at *
    generalize valL n ps = y at *
    generalize (10 ^ 31 : Int) ^ n = z at *
    have d : 0 ≤ x * z := Int.mul_nonneg (by omega) (by omega)
    have e : (x + 1) * z ≤ 10 ^ 31 * z := Int.mul_le_mul_of_nonneg_right (by omega) (by omega)
    rw [Int.add_mul, Int.one_mul] at e
    rw [Int.mul_comm z]
    omega
theorem lex_val : ∀ (n : Nat) (ps qs : List Pc), ps.length ≤ n → qs.length ≤ n → (∀ p ∈ ps, okPc p) → (∀ q ∈ qs, okPc q) →
    ltOs (keyL ps) (keyL qs) = some (decide (valL n ps < valL n qs)) ∧ PyData.eqvAll (keyL ps) (keyL qs) = decide (valL n ps = valL n qs)
  | 0, [], [], _, _, _, _ => by exact ⟨by show ltOs [] [] = _; rw [ltOs]; rfl, by show PyData.eqvAll [] [] = _; rw [PyData.eqvAll]; rfl⟩
  | 0, _ :: _, _, h, _, _, _ => absurd h (by simp)
  | 0, _, _ :: _, _, h, _, _ => absurd h (by simp)
  | n + 1, [], [], _, _, _, _ => by exact ⟨by show ltOs [] [] = _; rw [ltOs, valL]; rfl, by show PyData.eqvAll [] [] = _; rw [PyData.eqvAll, valL]; rfl⟩
  | n + 1, [], q :: qs, _, _, _, hq => by
    have a := place_pos q (hq q (.head _))
    have b := val_bound n qs fun r hr => hq r (.tail _ hr)
    have c := pow31 n
    have d : 0 < placePc q * (10 ^ 31) ^ n := Int.mul_pos (by omega) c
    rw [valL, valL]
    have e : (0 : Int) < placePc q * (10 ^ 31) ^ n + valL n qs := by omega
    rw [decide_eq_true e, decide_eq_false (by omega)]
    cases q with
    | w i => exact ⟨by show ltOs [] (_ :: _) = _; rw [ltOs], by show PyData.eqvAll [] (_ :: _) = _; rw [PyData.eqvAll]; all_goals (intros; simp)⟩
    | n i => exact ⟨by show ltOs [] (_ :: _) = _; rw [ltOs], by show PyData.eqvAll [] (_ :: _) = _; rw [PyData.eqvAll]; all_goals (intros; simp)⟩
  | n + 1, p :: ps, [], _, _, hp, _ => by
    have a := place_pos p (hp p (.head _))
    have b := val_bound n ps fun r hr => hp r (.tail _ hr)
    have c := pow31 n
    have d : 0 < placePc p * (10 ^ 31) ^ n := Int.mul_pos (by omega) c
    rw [valL, valL]
    rw [decide_eq_false (by omega), decide_eq_false (by omega)]
    cases p with
    | w i => exact ⟨by show ltOs (_ :: _) [] = _; rw [ltOs], by show PyData.eqvAll (_ :: _) [] = _; rw [PyData.eqvAll]; all_goals (intros; simp)⟩
    | n i => exact ⟨by show ltOs (_ :: _) [] = _; rw [ltOs], by show PyData.eqvAll (_ :: _) [] = _; rw [PyData.eqvAll]; all_goals (intros; simp)⟩
  | n + 1, p :: ps, q :: qs, h1, h2, hp, hq => by
    have ih := lex_val n ps qs (by simpa using h1) (by simpa using h2) (fun r hr => hp r (.tail _ hr)) (fun r hr => hq r (.tail _ hr))
    have bp := val_bound n ps fun r hr => hp r (.tail _ hr)
    have bq := val_bound n qs fun r hr => hq r (.tail _ hr)
    have c := pow31 n
    have kp : keyL (p :: ps) = keyPc p ++ keyL ps := by simp [keyL]
    have kq : keyL (q :: qs) = keyPc q ++ keyL qs := by simp [keyL]
    rw [kp, kq, pc_lt p q (hp p (.head _)) (hq q (.head _)), pc_eq p q (hp p (.head _)) (hq q (.head _)), ih.1, ih.2, valL, valL]
    generalize placePc p = x at *
    generalize placePc q = y at *
    generalize valL n ps = u at *
    generalize valL n qs = v at *
    generalize (10 ^ 31 : Int) ^ n = z at *
    rcases Int.lt_trichotomy x y with hxy | rfl | hxy
    · have e : (x + 1) * z ≤ y * z := Int.mul_le_mul_of_nonneg_right (by omega) (by omega)
      rw [Int.add_mul, Int.one_mul] at e
      rw [if_neg (by omega), decide_eq_true hxy, decide_eq_true (by omega : x * z + u < y * z + v), decide_eq_false (by omega : ¬ x = y), decide_eq_false (by omega : ¬ x * z + u = y * z + v)]
      exact ⟨rfl, rfl⟩
    · rw [if_pos rfl]
      constructor
      · congr 1; apply Bool.eq_iff_iff.mpr; rw [decide_eq_true_iff, decide_eq_true_iff]; omega
      · rw [decide_eq_true rfl, Bool.true_and]; apply Bool.eq_iff_iff.mpr; rw [decide_eq_true_iff, decide_eq_true_iff]; omega
    · have e : (y + 1) * z ≤ x * z := Int.mul_le_mul_of_nonneg_right (by omega) (by omega)
      rw [Int.add_mul, Int.one_mul] at e
      rw [if_neg (by omega), decide_eq_false (by omega : ¬ x < y), decide_eq_false (by omega : ¬ x * z + u < y * z + v), decide_eq_false (by omega : ¬ x = y), decide_eq_false (by omega : ¬ x * z + u = y * z + v)]
      exact ⟨rfl, rfl⟩
end Mine
end
section
open PySem PySem.W PyProof.Rows PySem.Calls
set_option Elab.async false
set_option maxRecDepth 100000
set_option maxHeartbeats 4000000
namespace Mine
def pcAt (num : Int) (k : Nat) : List Pc := if kindZ num k = 9 then [] else if kindZ num k > 2 then [.w ⟨lvIdx num k % 12, Nat.mod_lt _ (by decide)⟩] else [.n (lvVal num k).toNat]
def pcs (num : Int) : List Pc := pcAt num 0 ++ (pcAt num 1 ++ pcAt num 2)
def keyD (num : Int) : List PyData := keyL (pcs num)
theorem lvIdx_lt {num : Int} {k : Nat} (h : ¬ kindZ num k = 9) : lvIdx num k < 12 := by
  have := kindZ_lt num k
  have := turnZ_lt num k
  unfold lvIdx
  omega
theorem pcAt_none {num : Int} {k : Nat} (h : kindZ num k = 9) : pcAt num k = [] := by unfold pcAt; rw [if_pos h]
def shapePc : Pc → String
  | .w _ => "word"
  | .n _ => "number"
def bodyPc (z : Bool) : Pc → Str
  | .w i => wordI i
  | .n v => if z then Str.ofString "0" ++ Str.ofString (toString ((v : Nat) : Int)) else Str.ofString (toString ((v : Nat) : Int))
theorem pcAt_some {num : Int} {k : Nat} (h : ¬ kindZ num k = 9) : ∃ p z, pcAt num k = [p] ∧ okPc p ∧ placePc p = lvPlace num k ∧ lvShape num k = shapePc p ∧ lvPiece num k = bodyPc z p := by
  by_cases hk : kindZ num k > 2
  · have hi := lvIdx_lt h
    refine ⟨.w ⟨lvIdx num k % 12, Nat.mod_lt _ (by decide)⟩, false, by unfold pcAt; rw [if_neg h, if_pos hk], trivial, ?_, by unfold lvShape; rw [if_pos hk]; rfl, ?_⟩
    · unfold lvPlace; rw [if_pos hk]; show lvPlaces.getD (lvIdx num k % 12) 0 = _; rw [Nat.mod_eq_of_lt hi]
    · unfold lvPiece; rw [if_pos hk]; show _ = Str.ofString (lvWords.getD (lvIdx num k % 12) ""); rw [Nat.mod_eq_of_lt hi]
  · have hv := lvVal_lt num k
    have e : (((lvVal num k).toNat : Nat) : Int) = lvVal num k := by omega
    refine ⟨.n (lvVal num k).toNat, decide (kindZ num k ≠ 1 ∧ turnZ num k % 2 = 1), by unfold pcAt; rw [if_neg h, if_neg hk], ?_, ?_, by unfold lvShape; rw [if_neg hk]; rfl, ?_⟩
    · show (((lvVal num k).toNat : Nat) : Int) < 10 ^ 30; rw [e]; exact hv.2
    · unfold lvPlace; rw [if_neg hk]; show 11 + (((lvVal num k).toNat : Nat) : Int) = _; rw [e]
    · unfold lvPiece; rw [if_neg hk]; unfold bodyPc; dsimp only; rw [e]
      by_cases hc : kindZ num k ≠ 1 ∧ turnZ num k % 2 = 1
      · rw [if_pos hc, decide_eq_true hc, if_pos rfl]
      · rw [if_neg hc, decide_eq_false hc]; rfl
theorem pcAt_len (num : Int) (k : Nat) : (pcAt num k).length ≤ 1 ∧ ∀ p ∈ pcAt num k, okPc p := by
  by_cases h : kindZ num k = 9
  · rw [pcAt_none h]; exact ⟨by simp, fun p hp => nomatch hp⟩
  · obtain ⟨p, z, e, ok, _⟩ := pcAt_some h
    rw [e]; exact ⟨by simp, fun q hq => by rw [List.mem_singleton.mp hq]; exact ok⟩
theorem pcs_len (num : Int) : (pcs num).length ≤ 3 := by
  have a := (pcAt_len num 0).1
  have b := (pcAt_len num 1).1
  have c := (pcAt_len num 2).1
  unfold pcs; rw [List.length_append, List.length_append]; omega
theorem pcs_ok (num : Int) : ∀ p ∈ pcs num, okPc p := by
  intro p hp
  unfold pcs at hp
  rcases List.mem_append.mp hp with h | h
  · exact (pcAt_len num 0).2 p h
  · rcases List.mem_append.mp h with h | h
    · exact (pcAt_len num 1).2 p h
    · exact (pcAt_len num 2).2 p h
theorem lvUp_mark (num : Int) : (lvUp num 3).mark = valL 3 (pcs num) := by
  have r0 : (10 : Int) ^ 62 / 10 ^ 31 = 10 ^ 31 := by decide
  have r1 : (10 : Int) ^ 31 / 10 ^ 31 = 1 := by decide
  have p2 : ((10 : Int) ^ 31) ^ 2 = 10 ^ 62 := by decide
  have p1 : ((10 : Int) ^ 31) ^ 1 = 10 ^ 31 := by decide
  have p0 : ((10 : Int) ^ 31) ^ 0 = 1 := by decide
  have v1 : ∀ p : Pc, valL 3 [p] = placePc p * 10 ^ 62 := fun p => by rw [valL, valL, p2]; exact Int.add_zero _
  have v2 : ∀ p q : Pc, valL 3 [p, q] = placePc p * 10 ^ 62 + placePc q * 10 ^ 31 := fun p q => by rw [valL, valL, valL, p2, p1]; rw [Int.add_zero]
  have v3 : ∀ p q r : Pc, valL 3 [p, q, r] = placePc p * 10 ^ 62 + (placePc q * 10 ^ 31 + placePc r) := fun p q r => by rw [valL, valL, valL, valL, p2, p1, p0, Int.mul_one, Int.add_zero]
  have st : ∀ k v, lvStep num k v = if kindZ num k = 9 then v else ⟨v.text ++ (lvSign num k v.last ++ lvPiece num k), v.mark + lvPlace num k * v.room, Str.ofString (lvShape num k), v.room / 10 ^ 31⟩ := fun k v => rfl
  show (lvStep num 2 (lvStep num 1 (lvStep num 0 ⟨Str.ofString "", 0, Str.ofString "", 10 ^ 62⟩))).mark = _
  unfold pcs
  by_cases h0 : kindZ num 0 = 9 <;> by_cases h1 : kindZ num 1 = 9 <;> by_cases h2 : kindZ num 2 = 9
  · rw [pcAt_none h0, pcAt_none h1, pcAt_none h2, st 2, if_pos h2, st 1, if_pos h1, st 0, if_pos h0]; rfl
  · obtain ⟨p, z, e, _, pl, _⟩ := pcAt_some h2
    rw [pcAt_none h0, pcAt_none h1, e, st 2, if_neg h2, st 1, if_pos h1, st 0, if_pos h0]
    show 0 + lvPlace num 2 * 10 ^ 62 = valL 3 [p]
    rw [v1, pl, Int.zero_add]
  · obtain ⟨p, z, e, _, pl, _⟩ := pcAt_some h1
    rw [pcAt_none h0, e, pcAt_none h2, st 2, if_pos h2, st 1, if_neg h1, st 0, if_pos h0]
    show 0 + lvPlace num 1 * 10 ^ 62 = valL 3 [p]
    rw [v1, pl, Int.zero_add]
  · obtain ⟨p, z, e, _, pl, _⟩ := pcAt_some h1
    obtain ⟨q, z', e', _, pl', _⟩ := pcAt_some h2
    rw [pcAt_none h0, e, e', st 2, if_neg h2, st 1, if_neg h1, st 0, if_pos h0]
    show 0 + lvPlace num 1 * 10 ^ 62 + lvPlace num 2 * (10 ^ 62 / 10 ^ 31) = valL 3 [p, q]
    rw [v2, pl, pl', r0, Int.zero_add]
  · obtain ⟨p, z, e, _, pl, _⟩ := pcAt_some h0
    rw [e, pcAt_none h1, pcAt_none h2, st 2, if_pos h2, st 1, if_pos h1, st 0, if_neg h0]
    show 0 + lvPlace num 0 * 10 ^ 62 = valL 3 [p]
    rw [v1, pl, Int.zero_add]
  · obtain ⟨p, z, e, _, pl, _⟩ := pcAt_some h0
    obtain ⟨q, z', e', _, pl', _⟩ := pcAt_some h2
    rw [e, pcAt_none h1, e', st 2, if_neg h2, st 1, if_pos h1, st 0, if_neg h0]
    show 0 + lvPlace num 0 * 10 ^ 62 + lvPlace num 2 * (10 ^ 62 / 10 ^ 31) = valL 3 [p, q]
    rw [v2, pl, pl', r0, Int.zero_add]
  · obtain ⟨p, z, e, _, pl, _⟩ := pcAt_some h0
    obtain ⟨q, z', e', _, pl', _⟩ := pcAt_some h1
    rw [e, e', pcAt_none h2, st 2, if_pos h2, st 1, if_neg h1, st 0, if_neg h0]
    show 0 + lvPlace num 0 * 10 ^ 62 + lvPlace num 1 * (10 ^ 62 / 10 ^ 31) = valL 3 [p, q]
    rw [v2, pl, pl', r0, Int.zero_add]
  · obtain ⟨p, z, e, _, pl, _⟩ := pcAt_some h0
    obtain ⟨q, z', e', _, pl', _⟩ := pcAt_some h1
    obtain ⟨r, z'', e'', _, pl'', _⟩ := pcAt_some h2
    rw [e, e', e'', st 2, if_neg h2, st 1, if_neg h1, st 0, if_neg h0]
    show 0 + lvPlace num 0 * 10 ^ 62 + lvPlace num 1 * (10 ^ 62 / 10 ^ 31) + lvPlace num 2 * (10 ^ 62 / 10 ^ 31 / 10 ^ 31) = valL 3 [p, q, r]
    rw [v3, pl, pl', pl'', r0, r1, Int.zero_add, Int.mul_one, Int.add_assoc]
theorem words_ok : ∀ i : Fin 12, PyData.strOk (wordI i) = true := by decide +kernel
theorem keyL_lay : ∀ ps : List Pc, PyData.canLayAll0 (keyL ps) = true
  | [] => rfl
  | .w i :: ps => by show PyData.canLayAll0 (.int _ :: .str _ :: keyL ps) = true; simp [PyData.canLayAll0, PyData.canLay0, keyL_lay ps, words_ok i]
  | .n v :: ps => by show PyData.canLayAll0 (.int _ :: .int _ :: keyL ps) = true; simp [PyData.canLayAll0, PyData.canLay0, keyL_lay ps]
theorem keyL_dep : ∀ ps : List Pc, PyData.depthAll (keyL ps) ≤ 1
  | [] => by decide
  | .w i :: ps => by
    have := keyL_dep ps
    show PyData.depthAll (.int _ :: .str _ :: keyL ps) ≤ 1; simp only [PyData.depthAll, PyData.depth]; omega
  | .n v :: ps => by
    have := keyL_dep ps
    show PyData.depthAll (.int _ :: .int _ :: keyL ps) ≤ 1; simp only [PyData.depthAll, PyData.depth]; omega
theorem key_law_of (ht : ∀ num, TextOk (lvUp num 3).text (keyD num)) : KeyLaw keyD where
  text := ht
  lay := fun num => keyL_lay _
  dep := fun num => keyL_dep _
  lt := fun a b => by
    unfold mkOf; rw [lvUp_mark, lvUp_mark]
    exact (lex_val 3 _ _ (pcs_len a) (pcs_len b) (pcs_ok a) (pcs_ok b)).1
  eq := fun a b => by
    unfold mkOf; rw [lvUp_mark, lvUp_mark]
    exact (lex_val 3 _ _ (pcs_len a) (pcs_len b) (pcs_ok a) (pcs_ok b)).2
end Mine
end
section
open PySem PySem.W PyProof.Rows PySem.Calls
set_option Elab.async false
set_option maxRecDepth 100000
set_option maxHeartbeats 4000000
namespace Mine
def tk1 (c : Nat) : Bool := Sre.isDigit c || isSep c
def plainL (w : List Nat) : Prop := ∀ c ∈ w, tk1 c = false
def digL (d : List Nat) : Prop := ∀ c ∈ d, Sre.isDigit c = true
def notDig : List Nat → Prop
  | [] => True
  | c :: _ => Sre.isDigit c = false
inductive Spl : List Nat → List (List Nat) → Prop
  | nil {w} : plainL w → Spl w [w]
  | sep {w c l ts} : plainL w → isSep c = true → Spl l ts → Spl (w ++ c :: l) (w :: [c] :: ts)
  | num {w d l ts} : plainL w → digL d → d ≠ [] → notDig l → Spl l ts → Spl (w ++ (d ++ l)) (w :: d :: ts)
theorem spl_word {w l : List Nat} {ts : List (List Nat)} (hw : plainL w) (h : Spl l ([] :: ts)) : Spl (w ++ l) (w :: ts) := by
  generalize e : ([] :: ts : List (List Nat)) = us at h
  cases h with
  | nil h1 => cases e; rw [List.append_nil]; exact .nil hw
  | sep h1 h2 h3 => cases e; exact .sep hw h2 h3
  | num h1 h2 h3 h4 h5 => cases e; exact .num hw h2 h3 h4 h5
theorem spl_sep {c : Nat} {l : List Nat} {ts : List (List Nat)} (hc : isSep c = true) (h : Spl l ts) : Spl (c :: l) ([] :: [c] :: ts) :=
  Spl.sep (w := []) (fun c hc => nomatch hc) hc h
theorem spl_num {d l : List Nat} {ts : List (List Nat)} (hd : digL d) (hn : d ≠ []) (hl : notDig l) (h : Spl l ts) : Spl (d ++ l) ([] :: d :: ts) :=
  Spl.num (w := []) (fun c hc => nomatch hc) hd hn hl h
theorem sep_notdig {c : Nat} (h : isSep c = true) : Sre.isDigit c = false := by
  unfold isSep at h; unfold Sre.isDigit; simp at h; simp; omega
/-- the search -/
theorem first_at (T : Array Nat) : ∀ (w r : List Nat) (p f : Nat), T.toList.drop p = w ++ r → plainL w → w.length < f → (∀ c, r.head? = some c → tk1 c = true) → r ≠ [] → firstTok T f p = some (p + w.length)
  | [], r, p, f, e, _, hf, hr, hn => by
    obtain ⟨f, rfl⟩ : ∃ g, f = g + 1 := ⟨f - 1, by simp at hf; omega⟩
    obtain ⟨c, r, rfl⟩ := List.exists_cons_of_ne_nil hn
    have hc : T.getD p 0 = c := by
      have := congrArg List.head? e
      rw [List.head?_drop] at this
      rw [Array.getD_eq_getD_getElem?, ← Array.getElem?_toList, this]; rfl
    rw [firstTok, tokAt, hc, if_pos (show (Sre.isDigit c || isSep c) = true from hr c rfl)]; rfl
  | x :: w, r, p, f, e, hw, hf, hr, hn => by
    obtain ⟨f, rfl⟩ : ∃ g, f = g + 1 := ⟨f - 1, by simp at hf; omega⟩
    have hc : T.getD p 0 = x := by
      have := congrArg List.head? e
      rw [List.head?_drop] at this
      rw [Array.getD_eq_getD_getElem?, ← Array.getElem?_toList, this]; rfl
    have hx := hw x (.head _)
    unfold tk1 at hx
    rw [firstTok, tokAt, hc, if_neg (by rw [hx]; exact Bool.false_ne_true)]
    rw [first_at T w r (p + 1) f (by rw [← List.tail_drop, e]; rfl) (fun c h => hw c (.tail _ h)) (by simpa using hf) hr hn]
    simp; omega
theorem first_none (T : Array Nat) : ∀ (w : List Nat) (p f : Nat), T.toList.drop p = w → plainL w → f ≤ w.length → firstTok T f p = none
  | w, p, 0, _, _, _ => rfl
  | [], p, f + 1, e, _, h => absurd h (by simp)
  | x :: w, p, f + 1, e, hw, hf => by
    have hc : T.getD p 0 = x := by
      have := congrArg List.head? e
      rw [List.head?_drop] at this
      rw [Array.getD_eq_getD_getElem?, ← Array.getElem?_toList, this]; rfl
    have hx := hw x (.head _)
    unfold tk1 at hx
    rw [firstTok, tokAt, hc, if_neg (by rw [hx]; exact Bool.false_ne_true)]
    exact first_none T w (p + 1) f (by rw [← List.tail_drop, e]; rfl) (fun c h => hw c (.tail _ h)) (by simpa using hf)
theorem cnt_at (T : Array Nat) : ∀ (d l : List Nat) (p f : Nat), T.toList.drop p = d ++ l → digL d → notDig l → d.length ≤ f → f ≤ (d ++ l).length → cnt T f p = d.length
  | [], l, p, f, e, _, hl, hf, hg => by
    cases f with
    | zero => rfl
    | succ f =>
      cases l with
      | nil => simp at hg
      | cons c l =>
        have hc : T.getD p 0 = c := by
          have := congrArg List.head? e
          rw [List.head?_drop] at this
          rw [Array.getD_eq_getD_getElem?, ← Array.getElem?_toList, this]; rfl
        rw [cnt, hc, if_neg (by rw [show Sre.isDigit c = false from hl]; exact Bool.false_ne_true)]; rfl
  | x :: d, l, p, f, e, hd, hl, hf, hg => by
    obtain ⟨f, rfl⟩ : ∃ g, f = g + 1 := ⟨f - 1, by simp at hf; omega⟩
    have hc : T.getD p 0 = x := by
      have := congrArg List.head? e
      rw [List.head?_drop] at this
      rw [Array.getD_eq_getD_getElem?, ← Array.getElem?_toList, this]; rfl
    rw [cnt, hc, if_pos (hd x (.head _)), cnt_at T d l (p + 1) f (by rw [← List.tail_drop, e]; rfl) (fun c h => hd c (.tail _ h)) hl (by simpa using hf) (by simpa using hg)]; rfl
theorem extract_at {T : Array Nat} {p : Nat} {a b : List Nat} (e : T.toList.drop p = a ++ b) : T.extract p (p + a.length) = a.toArray := by
  apply Array.toList_inj.mp
  rw [Array.toList_extract, List.extract_eq_take_drop, e]
  simp
theorem splF_of {T : Array Nat} (hT : T.size < 2 ^ 20) : ∀ {l : List Nat} {ts : List (List Nat)}, Spl l ts → ∀ (f p : Nat), T.toList.drop p = l → l.length < f → p ≤ T.size → splF T f p = ts.map fun t => ⟨t.toArray⟩ := by
  intro l ts h
  induction h with
  | @nil w hw =>
    intro f p e hf hp
    have hlen : T.size - p = w.length := by rw [← e, List.length_drop, Array.length_toList]
    obtain ⟨f, rfl⟩ : ∃ g, f = g + 1 := ⟨f - 1, by omega⟩
    rw [splF, first_none T w p _ e hw (by omega)]
    have := extract_at (a := w) (b := []) (by rw [e, List.append_nil])
    rw [show p + w.length = T.size from by omega] at this
    rw [this]; rfl
  | @sep w c l ts hw hc _ ih =>
    intro f p e hf hp
    have hlen : T.size - p = w.length + (l.length + 1) := by rw [← Array.length_toList, ← List.length_drop, e, List.length_append]; rfl
    obtain ⟨f, rfl⟩ : ∃ g, f = g + 1 := ⟨f - 1, by omega⟩
    have e2 : T.toList.drop (p + w.length) = [c] ++ l := by rw [← List.drop_drop, e, List.drop_left]; rfl
    have e3 : T.toList.drop (p + w.length + 1) = l := by rw [← List.drop_drop, e2]; rfl
    have hg : T.getD (p + w.length) 0 = c := by
      have := congrArg List.head? e2
      rw [List.head?_drop] at this
      rw [Array.getD_eq_getD_getElem?, ← Array.getElem?_toList, this]; rfl
    rw [splF, first_at T w (c :: l) p _ e hw (by omega) (fun x hx => by cases hx; unfold tk1; rw [hc, Bool.or_true]) (by simp)]
    have he : tokEnd T (p + w.length) = p + w.length + 1 := by
      rw [tokEnd, hg, if_neg (by rw [sep_notdig hc]; exact Bool.false_ne_true)]
    dsimp only
    rw [he, extract_at e, ih f _ e3 (by simp at hf; omega) (by omega)]
    have := extract_at (a := [c]) e2
    rw [show p + w.length + [c].length = p + w.length + 1 from rfl] at this
    rw [this]; rfl
  | @num w d l ts hw hd hn hl _ ih =>
    intro f p e hf hp
    have hlen : T.size - p = w.length + (d.length + l.length) := by rw [← Array.length_toList, ← List.length_drop, e, List.length_append, List.length_append]
    obtain ⟨f, rfl⟩ : ∃ g, f = g + 1 := ⟨f - 1, by omega⟩
    have hd0 : 0 < d.length := List.length_pos_iff.mpr hn
    have e2 : T.toList.drop (p + w.length) = d ++ l := by rw [← List.drop_drop, e, List.drop_left]
    have e3 : T.toList.drop (p + w.length + d.length) = l := by rw [← List.drop_drop, e2, List.drop_left]
    obtain ⟨c, d', hcd⟩ := List.exists_cons_of_ne_nil hn
    have hg : T.getD (p + w.length) 0 = c := by
      have := congrArg List.head? e2
      rw [List.head?_drop] at this
      rw [Array.getD_eq_getD_getElem?, ← Array.getElem?_toList, this, hcd]; rfl
    have hdc : Sre.isDigit c = true := hd c (by rw [hcd]; exact .head _)
    rw [splF, first_at T w (d ++ l) p _ e hw (by omega) (fun x hx => by rw [hcd] at hx; cases hx; unfold tk1; rw [hdc, Bool.true_or]) (by simp [hn])]
    have he : tokEnd T (p + w.length) = p + w.length + d.length := by
      rw [tokEnd, hg, if_pos hdc, cnt_at T d l _ _ e2 hd hl (by omega) (by rw [List.length_append]; omega)]
    dsimp only
    rw [he, extract_at e, ih f _ e3 (by simp at hf; omega) (by omega), extract_at e2]; rfl
end Mine
end
section
open PySem PySem.W PyProof.Rows PySem.Calls PySem.NumText
set_option Elab.async false
set_option maxRecDepth 100000
set_option maxHeartbeats 4000000
namespace Mine
/-- what each token gives -/
def kt (y : Str) : List PyData := match stages.find? (fun z => Str.ofString z.1 == y) with
  | some z => [.int z.2, .str y]
  | none => if sepTok y then [] else match PySem.intText? y with
    | some n => [.int 100, .int n]
    | none => []
def mk (l : List Nat) : Str := ⟨l.toArray⟩
theorem kt_empty : kt (mk []) = [] ∧ sepTok (mk []) = true := by decide +kernel
theorem kt_sep : ∀ c ∈ [43, 45, 46, 95], kt (mk [c]) = [] ∧ sepTok (mk [c]) = true := by decide +kernel
theorem isSep_in {c : Nat} (h : isSep c = true) : c ∈ [43, 45, 46, 95] := by
  unfold isSep at h; simp at h; simp; omega
theorem words_stage : ∀ i : Fin 12, stages.find? (fun z => Str.ofString z.1 == wordI i) = some (lvWords.getD i.1 "", stageI i) := by decide +kernel
theorem words_in : ∀ i : Fin 12, (lvWords.getD i.1 "", stageI i) ∈ stages := by decide +kernel
theorem words_plain : ∀ i : Fin 12, (wordI i).cps.toList.all (fun c => !(tk1 c)) = true ∧ (wordI i).cps.toList ≠ [] := by decide +kernel
theorem kt_word (i : Fin 12) : kt (wordI i) = keyPc (.w i) ∧ Tok3 (wordI i) (kt (wordI i)) := by
  have h : kt (wordI i) = keyPc (.w i) := by unfold kt; rw [words_stage i]; rfl
  rw [h]
  exact ⟨rfl, .word _ _ (words_in i)⟩
theorem stages_first : stages.all (fun z => match (Str.ofString z.1).cps.toList with | [] => false | c :: _ => !(Sre.isDigit c)) = true := by decide +kernel
theorem marks_first : ∀ i : Fin 4, Sre.isDigit ((Str.ofString "._+-").cps.getD i.1 0) = false := by decide +kernel
theorem occ_none {c : Nat} {d : List Nat} (hc : Sre.isDigit c = true) : sepTok (mk (c :: d)) = false := by
  have h : ∀ i, (decide (i + (mk (c :: d)).length ≤ 4) && Builtin.Str.subAt (Str.ofString "._+-") (mk (c :: d)) i) = false := by
    intro i
    apply Bool.eq_false_iff.mpr
    intro q
    rw [Bool.and_eq_true, decide_eq_true_iff] at q
    obtain ⟨q1, q2⟩ := q
    have hl : (mk (c :: d)).length = d.length + 1 := rfl
    unfold Builtin.Str.subAt at q2
    have q3 : (Str.ofString "._+-").cps.extract i (i + (mk (c :: d)).length) = (mk (c :: d)).cps := by simpa using q2
    have q4 : ((Str.ofString "._+-").cps.extract i (i + (mk (c :: d)).length)).getD 0 0 = (mk (c :: d)).cps.getD 0 0 := congrArg (fun a => a.getD 0 0) q3
    have e1 : (mk (c :: d)).cps.getD 0 0 = c := rfl
    have hz : (Str.ofString "._+-").cps.size = 4 := by decide +kernel
    have e2 : ((Str.ofString "._+-").cps.extract i (i + (mk (c :: d)).length)).getD 0 0 = (Str.ofString "._+-").cps.getD i 0 := by
      rw [Array.getD_eq_getD_getElem?, Array.getD_eq_getD_getElem?, Array.getElem?_extract, if_pos (by omega), Nat.add_zero]
    rw [e1, e2] at q4
    have : Sre.isDigit ((Str.ofString "._+-").cps.getD i 0) = false := marks_first ⟨i, by omega⟩
    rw [q4, hc] at this
    cases this
  unfold sepTok Builtin.Str.occurrences
  simp only [Bool.and_assoc, h, Bool.and_false, if_neg Bool.false_ne_true]
  decide +kernel
theorem dig_all {d : List Nat} (h : digL d) : AllDigits d := fun c hc => by
  have := h c hc; unfold Sre.isDigit at this; simpa using this
theorem kt_num {d : List Nat} (h : digL d) (hn : d ≠ []) (hl : d.length ≤ 640) : kt (mk d) = [.int 100, .int ((digitsVal d : Nat) : Int)] ∧ Tok3 (mk d) (kt (mk d)) := by
  obtain ⟨c, d', e⟩ := List.exists_cons_of_ne_nil hn
  have hc : Sre.isDigit c = true := h c (by rw [e]; exact .head _)
  have hs : sepTok (mk d) = false := by rw [e]; exact occ_none hc
  have hi : PySem.intText? (mk d) = some ((digitsVal d : Nat) : Int) := intText_digits (x := mk d) (dig_all h) hn (Nat.le_trans hl (by decide))
  have hf : stages.find? (fun z => Str.ofString z.1 == mk d) = none := by
    rw [List.find?_eq_none]
    intro z hz q
    have q2 : Str.ofString z.1 = mk d := by simpa using q
    have := List.all_eq_true.mp stages_first z hz
    rw [q2] at this
    show False
    have e2 : (mk d).cps.toList = c :: d' := by show d.toArray.toList = _; rw [e]
    rw [e2] at this
    simp [hc] at this
  have hk : kt (mk d) = [.int 100, .int ((digitsVal d : Nat) : Int)] := by
    unfold kt; rw [hf]; dsimp only; rw [hs, hi]; rfl
  exact ⟨hk, by rw [hk]; exact .num _ _ hs hl hi⟩
theorem body_num (z : Bool) (v : Nat) (hv : (v : Int) < 10 ^ 30) : digL (bodyPc z (.n v)).cps.toList ∧ (bodyPc z (.n v)).cps.toList ≠ [] ∧ digitsVal (bodyPc z (.n v)).cps.toList = v ∧ (bodyPc z (.n v)).cps.toList.length ≤ 640 := by
  have hl : (Str.ofString (toString ((v : Nat) : Int))).length ≤ 30 := toString_length_le (by omega) (by decide) hv
  have hd : digL (Str.ofString (toString ((v : Nat) : Int))).cps.toList := by
    intro c hc
    rw [KIN.signs_num] at hc
    obtain ⟨ch, hch, e⟩ := List.mem_map.mp hc
    have r := digit_range (Nat.isDigit_of_mem_toDigits (by decide) (by decide) hch)
    rw [← e]
    unfold Sre.isDigit
    simpa using r
  have hne : (Str.ofString (toString ((v : Nat) : Int))).cps.toList ≠ [] := by
    rw [KIN.signs_num]
    intro e
    have h := toDigits_len_ge 10 v
    rw [List.map_eq_nil_iff.mp e] at h
    exact absurd h (by decide)
  have hv : digitsVal (Str.ofString (toString ((v : Nat) : Int))).cps.toList = v := by rw [KIN.signs_num, KIN.val_back]
  have hl2 : (Str.ofString (toString ((v : Nat) : Int))).cps.toList.length ≤ 30 := hl
  cases z with
  | false => exact ⟨hd, hne, hv, Nat.le_trans hl2 (by decide)⟩
  | true =>
    have e : (bodyPc true (.n v)).cps.toList = 48 :: (Str.ofString (toString ((v : Nat) : Int))).cps.toList := by
      show (Str.ofString "0" ++ Str.ofString (toString ((v : Nat) : Int))).cps.toList = _
      exact Array.toList_append
    rw [e]
    refine ⟨fun c hc => ?_, by simp, by rw [digitsVal_zero]; exact hv, by simp only [List.length_cons]; omega⟩
    rcases List.mem_cons.mp hc with rfl | hc
    · rfl
    · exact hd c hc
end Mine
end
section
open PySem PySem.W PyProof.Rows PySem.Calls PySem.NumText
set_option Elab.async false
set_option maxRecDepth 100000
set_option maxHeartbeats 4000000
namespace Mine
structure Item where
  pc : Pc
  z : Bool
  sg : List Nat
def textL : List Item → List Nat
  | [] => []
  | x :: its => x.sg ++ ((bodyPc x.z x.pc).cps.toList ++ textL its)
def signOk (last : Str) (x : Item) : Prop := x.sg = [] ∧ last ≠ Str.ofString (shapePc x.pc) ∨ ∃ c, isSep c = true ∧ x.sg = [c]
def goodL : Str → List Item → Prop
  | _, [] => True
  | last, x :: its => okPc x.pc ∧ signOk last x ∧ goodL (Str.ofString (shapePc x.pc)) its
def lastL : Str → List Item → Str
  | last, [] => last
  | _, x :: its => lastL (Str.ofString (shapePc x.pc)) its
theorem good_snoc : ∀ (its : List Item) (last : Str) (x : Item), goodL last its → okPc x.pc → signOk (lastL last its) x → goodL last (its ++ [x])
  | [], last, x, _, a, b => ⟨a, b, trivial⟩
  | y :: its, last, x, h, a, b => ⟨h.1, h.2.1, good_snoc its _ x h.2.2 a b⟩
theorem last_snoc : ∀ (its : List Item) (last : Str) (x : Item), lastL last (its ++ [x]) = Str.ofString (shapePc x.pc)
  | [], _, _ => rfl
  | _ :: its, _, x => last_snoc its _ x
theorem text_snoc : ∀ (its : List Item) (x : Item), textL (its ++ [x]) = textL its ++ (x.sg ++ (bodyPc x.z x.pc).cps.toList)
  | [], x => by show x.sg ++ (_ ++ []) = _; rw [List.append_nil]; rfl
  | y :: its, x => by show y.sg ++ (_ ++ textL (its ++ [x])) = y.sg ++ (_ ++ textL its) ++ _; rw [text_snoc its x]; simp
theorem toks_of : ∀ (its : List Item) (last : Str), goodL last its → ∃ ts, Spl (textL its) ts ∧ (∀ t ∈ ts, Tok3 (mk t) (kt (mk t))) ∧ (ts.flatMap fun t => kt (mk t)) = keyL (its.map Item.pc) ∧
    (last = Str.ofString "number" → notDig (textL its)) ∧ (last = Str.ofString "word" → ∃ ts', ts = [] :: ts')
  | [], last, _ => ⟨[[]], .nil (fun c hc => nomatch hc), (fun t ht => by rw [List.mem_singleton.mp ht, kt_empty.1]; exact .sep _ kt_empty.2), by show kt (mk []) ++ [] = []; rw [kt_empty.1]; rfl, fun _ => trivial, fun _ => ⟨[], rfl⟩⟩
  | x :: its, last, h => by
    obtain ⟨ok, sg, g⟩ := h
    obtain ⟨ts, s1, s2, s3, s4, s5⟩ := toks_of its _ g
    have hk : keyL ((x :: its).map Item.pc) = keyPc x.pc ++ keyL (its.map Item.pc) := by simp [keyL]
    have tE : Tok3 (mk []) (kt (mk [])) := by rw [kt_empty.1]; exact .sep _ kt_empty.2
    -- the body and what follows
    have hb : ∃ us, Spl ((bodyPc x.z x.pc).cps.toList ++ textL its) us ∧ (∀ t ∈ us, Tok3 (mk t) (kt (mk t))) ∧ (us.flatMap fun t => kt (mk t)) = keyL ((x :: its).map Item.pc) ∧
        (Str.ofString (shapePc x.pc) = Str.ofString "word" → notDig ((bodyPc x.z x.pc).cps.toList ++ textL its)) ∧ (Str.ofString (shapePc x.pc) = Str.ofString "number" → ∃ us', us = [] :: us') := by
      rw [hk]
      cases hp : x.pc with
      | w i =>
        rw [hp] at s5
        obtain ⟨ts', rfl⟩ := s5 rfl
        have hw := words_plain i
        have hpl : plainL (wordI i).cps.toList := fun c hc => by
          have := List.all_eq_true.mp hw.1 c hc
          simpa using this
        have hm : mk (wordI i).cps.toList = wordI i := rfl
        refine ⟨(wordI i).cps.toList :: ts', spl_word hpl s1, ?_, ?_, fun _ => ?_, fun q => absurd (show Str.ofString "word" = Str.ofString "number" from q) (by decide)⟩
        · intro t ht
          rcases List.mem_cons.mp ht with rfl | ht
          · rw [hm]; exact (kt_word i).2
          · exact s2 t (.tail _ ht)
        · show kt (mk (wordI i).cps.toList) ++ _ = _
          rw [hm, (kt_word i).1, ← s3]
          show _ = keyPc (.w i) ++ (kt (mk []) ++ _)
          rw [kt_empty.1]; rfl
        · obtain ⟨c, d, e⟩ := List.exists_cons_of_ne_nil hw.2
          show notDig ((wordI i).cps.toList ++ _)
          have := hpl c (by rw [e]; exact .head _)
          rw [e]
          unfold tk1 at this
          exact (Bool.or_eq_false_iff.mp this).1
      | n v =>
        rw [hp] at s4 ok
        obtain ⟨b1, b2, b3, b4⟩ := body_num x.z v ok
        have kn := kt_num b1 b2 b4
        refine ⟨[] :: (bodyPc x.z (.n v)).cps.toList :: ts, spl_num b1 b2 (s4 rfl) s1, ?_, ?_, fun q => absurd (show Str.ofString "number" = Str.ofString "word" from q) (by decide), fun _ => ⟨_, rfl⟩⟩
        · intro t ht
          rcases List.mem_cons.mp ht with rfl | ht
          · exact tE
          · rcases List.mem_cons.mp ht with rfl | ht
            · exact kn.2
            · exact s2 t ht
        · show kt (mk []) ++ (kt (mk (bodyPc x.z (.n v)).cps.toList) ++ ts.flatMap fun t => kt (mk t)) = _
          rw [kt_empty.1, kn.1, b3, s3]; rfl
    obtain ⟨us, u1, u2, u3, u4, u5⟩ := hb
    rcases sg with ⟨e, hne⟩ | ⟨c, hc, e⟩
    · show ∃ ts, Spl (x.sg ++ _) ts ∧ _ ∧ _ ∧ (_ → notDig (x.sg ++ _)) ∧ _
      rw [e]
      refine ⟨us, u1, u2, u3, fun q => u4 ?_, fun q => u5 ?_⟩
      · cases hp : x.pc with
        | w i => rfl
        | n v => rw [hp, q] at hne; exact absurd rfl hne
      · cases hp : x.pc with
        | w i => rw [hp, q] at hne; exact absurd rfl hne
        | n v => rfl
    · show ∃ ts, Spl (x.sg ++ _) ts ∧ _ ∧ _ ∧ (_ → notDig (x.sg ++ _)) ∧ _
      rw [e]
      have ks := kt_sep c (isSep_in hc)
      refine ⟨[] :: [c] :: us, spl_sep hc u1, ?_, ?_, fun _ => sep_notdig hc, fun _ => ⟨_, rfl⟩⟩
      · intro t ht
        rcases List.mem_cons.mp ht with rfl | ht
        · exact tE
        · rcases List.mem_cons.mp ht with rfl | ht
          · rw [ks.1]; exact .sep _ ks.2
          · exact u2 t ht
      · show kt (mk []) ++ (kt (mk [c]) ++ us.flatMap fun t => kt (mk t)) = _
        rw [kt_empty.1, ks.1, u3]; rfl
theorem signs_at : ∀ n : Fin 5, (Str.ofString (lvSigns.getD n.1 "")).cps.toList = [] ∧ lvSigns.getD n.1 "" = "" ∨ ∃ c ∈ [43, 45, 46, 95], isSep c = true ∧ (Str.ofString (lvSigns.getD n.1 "")).cps.toList = [c] := by decide +kernel
theorem lvSign_ok (num : Int) (k : Nat) (last : Str) : (lvSign num k last).cps.toList = [] ∧ last ≠ Str.ofString (lvShape num k) ∨ ∃ c, isSep c = true ∧ (lvSign num k last).cps.toList = [c] := by
  unfold lvSign
  split
  · exact .inr ⟨46, by decide, by decide +kernel⟩
  · rename_i hn
    have ht := turnZ_lt num k
    rcases signs_at ⟨(turnZ num k / 2).toNat, by omega⟩ with ⟨a, b⟩ | ⟨c, _, a, b⟩
    · exact .inl ⟨a, fun e => hn ⟨congrArg Str.ofString b, e⟩⟩
    · exact .inr ⟨c, a, b⟩
def UpIs (v : LV) (ps : List Pc) : Prop := ∃ its, goodL (Str.ofString "") its ∧ v.text.cps.toList = textL its ∧ lastL (Str.ofString "") its = v.last ∧ its.map Item.pc = ps
theorem up_step {num : Int} {k : Nat} {v : LV} {ps : List Pc} (h : UpIs v ps) : UpIs (lvStep num k v) (ps ++ pcAt num k) := by
  unfold lvStep
  by_cases h9 : kindZ num k = 9
  · rw [if_pos h9, pcAt_none h9, List.append_nil]; exact h
  · obtain ⟨p, z, e, ok, pl, sh, bd⟩ := pcAt_some h9
    obtain ⟨its, a, b, c, d⟩ := h
    rw [if_neg h9, e]
    have so : signOk (lastL (Str.ofString "") its) ⟨p, z, (lvSign num k v.last).cps.toList⟩ := by
      have := lvSign_ok num k v.last
      rw [sh] at this
      rw [c]
      exact this
    refine ⟨its ++ [⟨p, z, (lvSign num k v.last).cps.toList⟩], good_snoc its _ _ a ok so, ?_, ?_, ?_⟩
    · rw [text_snoc, ← b]
      show (v.text.cps ++ ((lvSign num k v.last).cps ++ (lvPiece num k).cps)).toList = _
      rw [Array.toList_append, Array.toList_append, bd]
    · rw [last_snoc]; show _ = Str.ofString (lvShape num k); rw [sh]
    · rw [List.map_append, d]; rfl
theorem up_is (num : Int) : UpIs (lvUp num 3) (pcs num) := by
  have h0 : UpIs (lvUp num 0) [] := ⟨[], trivial, rfl, rfl, rfl⟩
  have := up_step (num := num) (k := 2) (up_step (num := num) (k := 1) (up_step (num := num) (k := 0) h0))
  unfold pcs
  rw [List.nil_append, List.append_assoc] at this
  exact this
theorem keyL_len : ∀ ps : List Pc, (keyL ps).length = 2 * ps.length
  | [] => rfl
  | .w i :: ps => by show (keyL ps).length + 1 + 1 = _; rw [keyL_len ps]; simp; omega
  | .n v :: ps => by show (keyL ps).length + 1 + 1 = _; rw [keyL_len ps]; simp; omega
theorem text_ok (num : Int) : TextOk (lvUp num 3).text (keyD num) := by
  have hl := lvText_len num 3 (by decide)
  have hz : (lvUp num 3).text.cps.size ≤ 96 := hl
  obtain ⟨its, a, b, c, d⟩ := up_is num
  obtain ⟨ts, s1, s2, s3, _⟩ := toks_of its _ a
  rw [← b] at s1
  have hs := splF_of (T := (lvUp num 3).text.cps) (by omega) s1 ((lvUp num 3).text.cps.size + 1) 0 rfl (by rw [Array.length_toList]; omega) (Nat.zero_le _)
  refine ⟨by omega, ?_, kt, ?_, ?_⟩
  · unfold keyD; rw [keyL_len]; have := pcs_len num; omega
  · rw [hs]
    intro y hy
    obtain ⟨t, ht, rfl⟩ := List.mem_map.mp hy
    exact s2 t ht
  · rw [hs, List.flatMap_map, keyD, ← d, ← s3]; rfl
theorem key_law : KeyLaw keyD := key_law_of text_ok
end Mine
end
theorem PySem.Challenge.cw_mq0156_01_holds : PySem.Challenge.rw_mq0156_01.Holds :=
  Mine.law_of_body (Mine.law_body Mine.key_law)
