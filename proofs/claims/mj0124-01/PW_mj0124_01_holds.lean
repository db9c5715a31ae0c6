import PyProof.Rows.All
import Wide.All
import OpenK.AllK
import Wide.FinOn
import KE.KIntText
import PySem.Challenge.RW_mj0124_01
set_option Elab.async false
section
open PySem PySem.W PyProof.Rows PySem.Calls
open Sem (wp)
set_option maxRecDepth 100000
namespace Mine

/-- the claim's own caller stands somewhere on the stack -/
def HasC (Γ : Ctx) : Prop := Γ.code.isCaller = true ∨ Γ.below.any (fun x => x.1.isCaller) = true
def BelowC (Γ : Ctx) : Prop := Γ.below.any (fun x => x.1.isCaller) = true

def wpC {α : Type} (M : Model) (A : Around) (t : Sem α) (Q : α → Shared → Prop) (E : Value → Shared → Prop) (s : Shared) : Prop :=
  ∀ Γ p, Γ.In A → HasC Γ → wp M Γ t (fun a _ s' => Q a s') (fun e _ s' => E e s') p s
def codeC (M : Model) (A : Around) (c : Code) (R : Result → Shared → Prop) (s : Shared) : Prop :=
  ∀ Γ p, Γ.code = c → Γ.Below A → BelowC Γ → wpCode M Γ R p s

section
variable {α β : Type} {M : Model} {A : Around} {E : Value → Shared → Prop} {s : Shared}
theorem wpC_of {t : Sem α} {Q : α → Shared → Prop} (h : wpAny M A t Q E s) : wpC M A t Q E s := fun Γ p hΓ _ => h Γ p hΓ
theorem codeC_of {c : Code} {R : Result → Shared → Prop} (h : codeAny M A c R s) : codeC M A c R s := fun Γ p hc hΓ _ => h Γ p hc hΓ
theorem wpC_pure {a : α} {Q : α → Shared → Prop} (h : Q a s) : wpC M A (pure a) Q E s := fun _ _ _ _ => h
theorem wpC_mono {t : Sem α} {Q Q' : α → Shared → Prop} {E' : Value → Shared → Prop} (h : wpC M A t Q E s)
    (hQ : ∀ a s, Q a s → Q' a s) (hE : ∀ e s, E e s → E' e s) : wpC M A t Q' E' s :=
  fun Γ p hΓ hC => Sem.wp_mono M Γ t (fun a _ s => hQ a s) (fun e _ s => hE e s) p s (h Γ p hΓ hC)
theorem wpC_bind {m : Sem α} {f : α → Sem β} {Q : β → Shared → Prop} (h : wpC M A m (fun a s' => wpC M A (f a) Q E s') E s) :
    wpC M A (m >>= f) Q E s := fun Γ p hΓ hC => by
  rw [Sem.wp_bind']
  exact Sem.wp_mono M Γ m (fun a p' s' h' => h' Γ p' hΓ hC) (fun _ _ _ h' => h') p s (h Γ p hΓ hC)
theorem wpC_holding {vs : List Value} {m : Sem α} {Q : α → Shared → Prop} (h : wpC M A m Q E s) : wpC M A (holding vs m) Q E s :=
  fun Γ p hΓ hC => by rw [Sem.wp_holding]; exact h Γ p hΓ hC
theorem wpC_onRaise {m : Sem α} {k : Value → Sem Unit} {Q : α → Shared → Prop}
    (h : wpC M A m Q (fun e s' => wpC M A (k e) (fun _ s'' => E e s'') E s') s) : wpC M A (m.onRaise k) Q E s := fun Γ p hΓ hC => by
  rw [Sem.wp_onRaise]
  exact Sem.wp_mono M Γ m (fun _ _ _ h' => h') (fun e p' s' h' => h' Γ p' hΓ hC) p s (h Γ p hΓ hC)
theorem wpC_attempt {m : Sem α} {Q : Except Value α → Shared → Prop} (h : wpC M A m (fun a => Q (.ok a)) (fun e => Q (.error e)) s) :
    wpC M A m.attempt Q E s := fun Γ p hΓ hC => by rw [Sem.wp_attempt]; exact h Γ p hΓ hC
theorem wpC_ite {c : Prop} [Decidable c] {a b : Sem α} {Q : α → Shared → Prop} (h : if c then wpC M A a Q E s else wpC M A b Q E s) :
    wpC M A (if c then a else b) Q E s := by split <;> simp_all
theorem HasC.enter {Γ : Ctx} (h : HasC Γ) (c : Code) (hd : Option Value) (p : Pos) : BelowC (Γ.enter c hd p) := by
  show ((Γ.code, p) :: Γ.below).any (fun x => x.1.isCaller) = true
  rw [List.any_cons]
  rcases h with h | h
  · show (Γ.code.isCaller || _) = true; rw [h]; rfl
  · rw [h, Bool.or_true]
theorem BelowC.has {Γ : Ctx} (h : BelowC Γ) : HasC Γ := .inr h
theorem wpC_run {c : Code} {h : Option Value} {Q : Flow → Shared → Prop}
    (hc : codeC M (A.mark h) c (fun r s' => match r with | .ok f => Q f s' | .error e => E e s') s) (hnb : h ≠ some byPass := by intro x; cases x) :
    wpC M A (run c h) Q E s :=
  fun Γ p hΓ hC => by rw [Sem.wp_run]; exact hc _ p rfl (hΓ.enter c h p hnb) (hC.enter c h p)
theorem wpC_runValue {c : Code} {Q : Value → Shared → Prop}
    (hc : codeC M A c (fun r s' => match r with | .ok (.ret v) => Q v s' | .ok _ => False | .error e => E e s') s) :
    wpC M A (runValue c) Q E s := fun Γ p hΓ hC => by rw [Sem.wp_runValue]; exact hc _ p rfl (hΓ.enter c none p (by intro x; cases x)) (hC.enter c none p)
theorem wpC_call {f : Value} {pos : List Value} {kw : List (Str × Value)} {Q : Value → Shared → Prop}
    (hc : codeC M A (.call f ⟨pos, kw⟩) (fun r s' => match r with | .ok (.ret v) => Q v s' | .ok _ => False | .error e => E e s') s) :
    wpC M A (call f pos kw) Q E s := wpC_runValue hc
theorem codeC_of_tree {c : Code} {R : Result → Shared → Prop}
    (h : wpC M (A.under c) (M.den c) (fun fin s' => match fin with | .done f => R (.ok f) s' | .again c' => c'.quiet = true ∧ codeC M A c' R s')
      (fun e s' => R (.error e) s') s) : codeC M A c R s := fun Γ p hc hΓ hC => by
  rw [wpCode_iff_wp, hc]
  refine Sem.wp_mono M Γ _ (fun fin p' s' h' => ?_) (fun _ _ _ h' => h') p s (h Γ p (hc ▸ hΓ.in) hC.has)
  cases fin with
  | done f => exact h'
  | again c' => exact ⟨h'.1, h'.2 (Γ.goto c') p' rfl (hΓ.goto c') hC⟩
theorem codeC_mono {c : Code} {R R' : Result → Shared → Prop} (h : codeC M A c R s) (hR : ∀ r s, R r s → R' r s) : codeC M A c R' s :=
  fun Γ p hc hΓ hC => wpCode_mono hR (h Γ p hc hΓ hC)
theorem codeC_loop {c : Code} {R : Result → Shared → Prop} (hq : c.quiet = true) (I : Nat → Shared → Prop)
    (turn : ∀ n s, I n s → wpC M (A.under c) (M.den c)
      (fun fin s' => match fin with | .done f => R (.ok f) s' | .again c' => c' = c ∧ ∃ m, m < n ∧ I m s') (fun e s' => R (.error e) s') s)
    (n : Nat) (h : I n s) : codeC M A c R s := by
  induction n using Nat.strongRecOn generalizing s with
  | ind n ih =>
    refine codeC_of_tree (wpC_mono (turn n s h) (fun fin s' hf => ?_) fun _ _ h' => h')
    cases fin with
    | done f => exact hf
    | again c' => obtain ⟨rfl, m, hm, hI⟩ := hf; exact ⟨hq, ih m hm hI⟩
theorem no_mark {Γ : Ctx} (h : HasC Γ) (own : List String) (p : Pos) : pythonCodeMadeTheCall own (((Γ.code, p) :: Γ.below).map (·.1)) = false := by
  have e : (((Γ.code, p) :: Γ.below).map (·.1)).any Code.isCaller = true := by
    rw [List.map_cons, List.any_cons]
    rcases h with h | h
    · show (Γ.code.isCaller || _) = true; rw [h]; rfl
    · rw [List.any_map]
      have : (Γ.below.any (Code.isCaller ∘ fun x => x.1)) = true := h
      rw [this, Bool.or_true]
  show (!((((Γ.code, p) :: Γ.below).map (·.1)).any Code.isCaller) && _ && _) = false
  rw [e]; rfl
/-- under a claim a refusal is not marked -/
theorem wpC_refusal {own : List String} {e : Value} {Q : Unit → Shared → Prop} (h : Q () s) : wpC M A (markTheRefusal own e) Q E s := fun Γ p hΓ hC => by
  show wp M Γ (if pythonCodeMadeTheCall own (((Γ.code, p) :: Γ.below).map (·.1)) = true then _ else pure ()) _ _ p s
  rw [no_mark hC, if_neg Bool.false_ne_true]
  exact h
end
end Mine
end

section
open PySem PySem.W PyProof.Rows PySem.Calls
open Sem (wp)
set_option maxRecDepth 100000
namespace Mine

abbrev callerΓ : Ctx := ⟨.builtin "claim.caller" {}, none, none, [], none⟩
theorem callerΓ_has : HasC callerΓ := .inl (by decide +kernel)

theorem wp_of_wpC_done {M : Model} {t : Sem Fin} {R : Result → Shared → Prop} {s : Shared}
    (h : wpC M callerA t (fun fin s' => ∃ f, fin = .done f ∧ R (.ok f) s') (fun e s' => R (.error e) s') s) (p : Pos) :
    wp M callerΓ t (Sem.finPost M callerΓ R) (fun e _ s' => R (.error e) s') p s := by
  refine Sem.wp_mono M callerΓ t (fun fin p' s' h' => ?_) (fun _ _ _ h' => h') p s (h callerΓ p caller_in callerΓ_has)
  obtain ⟨f, rfl, hf⟩ := h'
  exact hf

theorem thread_endsC {prog : Program} {w : World} {t : Sem Fin} {s : Shared} {R : Result → Shared → Prop} (hreg : s.asleep)
    (h : wpC (model prog w) callerA t (fun fin s' => ∃ f, fin = .done f ∧ (R (.ok f) s' ∧ leftWithCleanup s'.gens = false)) (fun e s' => R (.error e) s' ∧ leftWithCleanup s'.gens = false) s) :
    ∃ n r s' s'', runN (denote table) prog w n s ⟨t, .builtin "claim.caller" {}, default, []⟩ = .halted (outcomeOf r) s' ∧
      schedN (denote table) prog w n (.single s ⟨t, .builtin "claim.caller" {}, default, []⟩) = .halted (outcomeOf r) s' ∧ s'.forget = s''.forget ∧ R r s'' := by
  obtain ⟨n, r, s₁, s₂, hs, hn, hfo, hR⟩ := wp_halts_full (M := model prog w) (R := R) hreg (wp_of_wpC_done (R := fun r s' => R r s' ∧ leftWithCleanup s'.gens = false) h default)
  exact ⟨n, r, s₂, s₁, hn, hs, hfo, hR⟩

theorem callFrom_specC {c : ClaimW} {tree : List Value → Sem Fin} {w : World} {s : Shared} {free : Addr → Prop} {gens : Prop} {kept : Heap → Prop} (hz : s.asleep) (hgens : s.gens = #[])
    (hspec : ∀ args, c.pre args = true → WData.layableAll args = true →
      ∀ ord : List DictEntry → List DictEntry, (∀ l, (ord l).Perm l) →
      ∃ vs s₁, layAllW c.records (classAt s.heap) w.params ord args s = some (vs, s₁) ∧
        wpC (model c.prog w) callerA (tree vs) (fun fin s' => ∃ f, fin = .done f ∧ (c.Ends s args vs s₁ (.ok f) s' ∧ s'.os = s.os ∧ AllBare s'.gens ∧ kept s'.heap))
          (fun e s' => c.Ends s args vs s₁ (.error e) s' ∧ s'.os = s.os ∧ AllBare s'.gens ∧ kept s'.heap) s₁) :
    c.CallFrom (fun vs => ⟨tree vs, .builtin "claim.caller" {}, default, []⟩) w free gens kept s := by
  intro args hpre hlay ord hord
  obtain ⟨vs, s₁, hlaid, hcode⟩ := hspec args hpre hlay ord hord
  have hal := layAllW_rest _ _ _ hlaid
  obtain ⟨k, r, s', s'', hrun, hsched, hfo, hcase, hos, hkp⟩ := thread_endsC (prog := c.prog) (w := w) (t := tree vs) (s := s₁)
    (R := fun r s' => c.Ends s args vs s₁ r s' ∧ s'.os = s.os ∧ kept s'.heap)
    (Shared.asleep_of_life hal.2.2.2 hz)
    (wpC_mono hcode (by
      rintro fin s' ⟨f, e, h1, h2, h3, h4⟩
      exact ⟨f, e, ⟨h1, h2, h4⟩, leftWithCleanup_false_of_bare h3⟩) (by
      rintro e s' ⟨h1, h2, h3, h4⟩
      exact ⟨⟨h1, h2, h4⟩, leftWithCleanup_false_of_bare h3⟩))
  obtain ⟨eh, _, _, eo, _⟩ := Shared.forget_eq hfo
  have hcase := hcase.congr eh
  have hkp : kept s'.heap := by first | exact eh ▸ hkp | (rw [eh] at hkp; exact hkp) | (rw [← eh] at hkp; exact hkp)
  rw [← eo] at hos
  have hlife : s'.heap.life = s.heap.life := (runN_life _ _ _ hrun).trans hal.2.2.2
  refine ⟨vs, s₁, hlaid, k, _, s', hsched, ?_, (fun _ i x hx => by rw [hgens] at hx; simp at hx), hkp, by rw [hlife], Shared.rest_eq hos⟩
  rcases hcase with ⟨v, rfl, d1, d2, d3, d4, d5⟩ | ⟨e, ob, cls, rfl, d1, d2, d3, d4, d5⟩
  · exact .inl ⟨v, rfl, d1, d2, d3, fun b o y _ => d4 b o y, d5⟩
  · exact .inr ⟨e, ob, cls, rfl, d1, d2, d3, d4, fun b o y _ => d5 b o y⟩

/-- what a walk has to show: as the library's, for the stacks that bear the claim's own caller -/
abbrev WalkCC (q : Program) (loose : List Str) (XP : (Str → Option Value) → Heap → Prop) (YP : World → Heap → Prop) (r : RowW) (d : DefRec) (kwd : List (Str × Expr)) : Prop :=
  ∀ (w : World) (s₀ s₁ : Shared) (mg mb : Str → Option Value), Ground q loose r.records XP w s₀ mg mb s₁.heap → YP w s₁.heap → ∀ (a : Addr) (o : Obj) (pm cd doc dV kV : Value), s₁.heap.get? a = some o →
    o.data = .func { docDef d.name d.params d.body d.scope pm cd doc with defaults := dV, kwdefaults := kV } → s₁.heap.CodeRec cd d.name → Dflts mg s₁.heap d.params kwd dV kV → mg d.name = some (.ref a) → s₁.gens = #[] →
    ∀ (args : List WData) (vals : List Value) (as : List Addr), r.claim.pre args = true → WData.layableAll args = true → ReadsAllW r.records (classAt s₀.heap) s₁.heap vals args as → WellAll w.params s₁.heap vals args → (∀ a ∈ as, (a == sysModules) = false) →
      wpC (model r.prog w) callerA (PySem.call (.ref a) vals) (fun v s' => GoodWG r.claim (classAt s₀.heap) (ExcName.means s₀.heap) args s₁ (.ok (.ret v)) s')
        (fun e s' => GoodWG r.claim (classAt s₀.heap) (ExcName.means s₀.heap) args s₁ (.error e) s') s₁

theorem PySem.W.holds_open {r : OpenRow} {q : Program} {loose : List Str} {Xt : Shared → Bool} {XP : (Str → Option Value) → Heap → Prop} {α : Type} {Yf : Shared → α} {Ya : World → α} {YP : World → Heap → Prop} {d : DefRec} {kwd : List (Str × Expr)} {N : Nat}
    (left : LeftO r.prog q loose Xt Yf Ya N) (hY : ∀ w s, Yf s = Ya w → YP w s.heap) (hYk : ∀ w h h', YP w h → (∀ b o, h.get? b = some o → h'.get? b = some o) → YP w h')
    (hX : ∀ s, Xt s = true → XP (s.heap.nsMap mainGlobals) s.heap) (hXk : ∀ mg h h', XP mg h → (∀ b o, h.get? b = some o → h'.get? b = some o) → XP mg h')
    (hdef : defOf q r.name = some (d, kwd)) (hp : r.prog.theDef r.name = some (d.params, d.body, d.scope)) (hk : kwWritten? d.params.kwonlyargs d.params.kw_defaults = some kwd) (hRf : ∀ s, Xt s = true → RecFacts r.records s.heap) (hwr : (!r.writes || r.records.isEmpty) = true)
    (k1 : r.wellSaid = true) (ok : (chainsOk q && opensWell r.prog && (frees r.toRowW && r.within.isEmpty)) = true) (hb : r.prog.bare) (hw : r.toRowW.promised)
    (call : WalkCC q loose XP YP r.toRowW d kwd) : r.Holds := by
  refine ⟨k1, hw, ?_⟩
  obtain ⟨ok, k5⟩ := Bool.and_eq_true_iff.mp ok
  obtain ⟨hch, o1⟩ := Bool.and_eq_true_iff.mp ok
  obtain ⟨k5, k6⟩ := Bool.and_eq_true_iff.mp k5
  obtain ⟨hsame, hu, ha, hap, hm⟩ := frees_parts k5
  refine ⟨⟨hb, o1, by show r.toRowW.makers.map _ = []; rw [hm]; rfl⟩, hw.witness, fun w => ⟨(left.behind hX hch w).1, fun s' hs' => ?_⟩⟩
  obtain ⟨s₀, hf, hg0, s, hT, hz, hgens, hg, G00, y⟩ := (left.behind (XP := fun mg h => XP mg h ∧ RecFacts r.records h) (fun s hs => ⟨hX s hs, hRf s hs⟩) hch w).2 s' hs'
  have G0 : Ground q loose [] XP w s (s.heap.nsMap mainGlobals) (s.heap.nsMap builtinsNs) s.heap := ⟨G00.T, G00.B, G00.D, G00.TE, G00.TD, G00.W, G00.X.1, G00.cls, G00.has, G00.apart, G00.once, G00.K⟩
  have RF := G00.X.2
  have hT' := hT
  refine ⟨s₀, hf, hg0, s, hT, (fun n hn => ?_), RF.1, RF.2.1, ?_⟩
  · obtain rfl : n = r.name := by split at hn <;> simp_all
    exact pinned_of_view hg G0 hdef hp hk
  have hgens : s.gens = #[] := Array.eq_empty_of_size_eq_zero (beq_iff_eq.mp hgens)
  have G : Ground q loose r.toRowW.records XP w s _ _ s.heap := RF.ground G0
  refine callFrom_specC (c := r.toRowW.claim) hz hgens fun args hpre hlay ord hord => ?_
  obtain ⟨⟨vs, s₁⟩, hlaid⟩ := Option.isSome_iff_exists.mp (layAllW_isSome (P := w.params) (ord := ord) G.has args r.toRowW.args s (pre_splitW hpre).1)
  have keeps := layAllW_keeps _ _ _ hlaid
  have hal := layAllW_rest _ _ _ hlaid
  obtain ⟨as, hrd, hin, hold⟩ := reads_layAllW hord _ _ _ hlaid hlay s₁.heap (fun _ _ e => e)
  have L : Laid r.toRowW.records w s s₁ args vs as := ⟨⟨ord, hord, hlaid⟩, hrd, hin, hold, keeps, hal.1.trans hgens, hal.2.2.1⟩
  have G₁ := G.keeps hXk keeps
  obtain ⟨a, o, pm, cd, doc, dV, kV, h1, h2, h3, h4, h5⟩ := G₁.fn hdef
  have h := call w s s₁ _ _ G₁ (hYk _ _ _ (hY w s y) keeps) a o pm cd doc dV kV h2 h3 h4 h5 (defOf_name hdef ▸ h1) L.gens args vs as hpre hlay L.reads L.well (L.low G.low)
  have hi := ident_freeW hu ha hap
  have hwi : r.toRowW.claim.within = [] := List.isEmpty_iff.mp k6
  refine ⟨vs, s₁, hlaid, ?_⟩
  show wpC _ _ (nsGet mainNs r.name >>= _) _ _ _
  refine wpC_bind (wpC_of (wpAny_nsGet G₁.T.g ?_))
  rw [h1]
  refine wpC_bind (wpC_mono h (fun v s' g => wpC_pure ⟨_, rfl, have z := g.laid (c := r.toRowW.claim) hsame hwi hi L; ⟨z.1, z.2.1, z.2.2, fun q => ⟨namesKept_of hT' hg _ keeps g.2.1.old, noTable hwr q⟩⟩⟩) fun e s' g => have z := g.laid (c := r.toRowW.claim) hsame hwi hi L; ⟨z.1, z.2.1, z.2.2, fun q => ⟨namesKept_of hT' hg _ keeps g.2.1.old, noTable hwr q⟩⟩)
end Mine
end

section
open PySem PySem.W PyProof.Rows
set_option maxRecDepth 100000
set_option maxHeartbeats 8000000
namespace Mine
open_top hd for PySem.Challenge.rw_mj0124_01
end Mine
end

open PySem.W in
theorem Mine.calm : True := by
  w_top off
  trivial

section
open PySem PySem.W PyProof.Rows PySem.Calls
set_option maxRecDepth 100000
namespace Mine

noncomputable abbrev loose : List Str := looseW hd.view_39 [Str.ofString "_twin_re_1", Str.ofString "_ver_stages", Str.ofString "_norm_version"]
noncomputable abbrev KF (w : World) : Frag := hd.heap_39 w.params

section
variable {prog : Program} {w : World} {A : Around} {s : Shared} {base : Heap} {outs : List Env} {K : Frag}

theorem enter_def {R : Result → Shared → Prop} {name qual : Str} {params : Arguments} {body : List Stmt} {scope : Scope} {dV kV doc pm cdv ct oc : Value} {an od : Option Addr} {osl : Array (Option Value)} {f : Addr} {args : Args} {binds : List (Str × Value)}
    (X : K.In s.heap) (hlim : s.heap.NoLimit)
    (ho : K.lookup f = some ⟨oc, od, .func (fnOf name qual params body scope dV kV doc pm an cdv ct), osl⟩) (hcd : codeIn K cdv qual = true) (hroom : A.depth < recursionLimit)
    (hbind : BindsTo s (fnOf name qual params body scope dV kV doc pm an cdv ct) args binds) (hloc : ∀ y ∈ binds, scope.names.lookup y.1 = some .local)
    (h : ∀ L' h₁, Fr s.heap L' h₁ (fun y => binds.reverse.lookup y) → News s.heap L' h₁ [] →
      wpAny (model prog w) (A.deeper (envOf qual scope L' f cdv)) (execs body (envOf qual scope L' f cdv))
        (fun fl s' => R (.ok (.ret (match fl with | .ret v => v | _ => .none))) s')
        (fun e s' => wpAny (model prog w) (A.deeper (envOf qual scope L' f cdv)) (leaving (envOf qual scope L' f cdv) e) (fun _ s'' => R (.error e) s'') (fun e' s'' => R (.error e') s'') s')
        { s with heap := h₁, toks := s.toks + binds.length })
    (hco : scope.isCoroutine = false) (hgen : scope.isGenerator = false) (hk : scope.kind = .function)
    (hcell : ∀ x ∈ scope.names, x.2 ≠ .cell) : codeAny (model prog w) A (.call (.ref f) args) R s := by
  refine codeAny_call_def (fd := fnOf name qual params body scope dV kV doc pm an cdv ct) (body := body) (binds := binds) hroom (X _ _ ho) rfl hlim (codeRec_of X hcd) rfl hbind hcell hloc (fun h₁ hns hk₁ => ?_) hco hgen hk
  exact h s.heap.objs.size h₁ ⟨hns, hk₁, Nat.le_refl _⟩ News.nil
end
end Mine
namespace Mine
open PySem PySem.W PyProof.Rows PySem.Calls
section
variable {prog : Program} {w : World} {A : Around} {s : Shared} {K : Frag}
theorem enter_defC {R : Result → Shared → Prop} {name qual : Str} {params : Arguments} {body : List Stmt} {scope : Scope} {dV kV doc pm cdv ct oc : Value} {an od : Option Addr} {osl : Array (Option Value)} {f : Addr} {args : Args} {binds : List (Str × Value)}
    (X : K.In s.heap) (hlim : s.heap.NoLimit)
    (ho : K.lookup f = some ⟨oc, od, .func (fnOf name qual params body scope dV kV doc pm an cdv ct), osl⟩) (hcd : codeIn K cdv qual = true) (hroom : A.depth < recursionLimit)
    (hbind : BindsTo s (fnOf name qual params body scope dV kV doc pm an cdv ct) args binds) (hkind : (binds.all fun y => scope.names.lookup y.1 == some .local || scope.names.lookup y.1 == some .cell) = true)
    (hnd : ((cellsFrom 0 scope.names []).map (·.1)).Nodup)
    (h : ∀ L' h₁ tk cells, Fr s.heap L' h₁ (bindL (envOfC qual scope L' f cdv).kindOf binds fun _ => none) → News s.heap L' h₁ cells →
      CellsAre (bindC (envOfC qual scope L' f cdv).kindOf binds fun _ => none) (cellsFrom (L' + 1) scope.names []) cells →
      wpAny (model prog w) (A.deeper (envOfC qual scope L' f cdv)) (execs body (envOfC qual scope L' f cdv))
        (fun fl s' => R (.ok (.ret (match fl with | .ret v => v | _ => .none))) s')
        (fun e s' => wpAny (model prog w) (A.deeper (envOfC qual scope L' f cdv)) (leaving (envOfC qual scope L' f cdv) e) (fun _ s'' => R (.error e) s'') (fun e' s'' => R (.error e') s'') s')
        { s with heap := h₁, toks := tk })
    (hco : scope.isCoroutine = false) (hgen : scope.isGenerator = false) (hk : scope.kind = .function) : codeAny (model prog w) A (.call (.ref f) args) R s := by
  refine codeAny_call_function hroom (X _ _ ho) rfl hco hgen rfl (codeRec_of X hcd) (hbind _ _ _ _ ?_)
  refine wpAny_newFunctionEnv_cells hk (kindsX hkind _) fun env' he s' x => ?_
  subst he
  refine ⟨hlim.keeps x.toInCall.keep, codeAny_func ?_⟩
  obtain ⟨h₁, tk, rfl, _⟩ := x.done
  have hk₁ := x.toInCall.keep
  obtain ⟨cells, NC, Y⟩ := Cl.news (h₀ := s.heap) (Nat.le_refl _) fun n c hm => ⟨x.cell n c (lookup_of_mem_nodup (cellsFrom_names scope.names 0 (s.heap.objs.size + 1) [] [] rfl ▸ hnd) hm), x.above n c hm⟩
  exact h s.heap.objs.size h₁ tk cells ⟨x.toInCall.ns, hk₁, Nat.le_refl _⟩ NC Y
end
end Mine
end

section Walks
namespace Mine
abbrev Ar (dp un : Nat) (gd : Option (List PySem.Code)) (outs : List PySem.Env) : PySem.Around := { handled := none, depth := dp, frames := some outs, guards := gd, units := un }
end Mine
local macro_rules | `(tactic| k_room) => `(tactic| ((try simp only [PyProof.Rows.depth_under_make, PySem.W.depth_under_kw, PySem.W.depth_in1, PyProof.Rows.depth_deeper, PyProof.Rows.depth_caller]); (try dsimp only [Mine.Ar]); omega))

section
open PySem PySem.W PyProof.Rows PySem.Calls
open Sem (wp)
set_option maxRecDepth 100000
namespace Mine
section
variable {M : Model} {A : Around} {E : Value → Shared → Prop} {s : Shared} {env : Env}

theorem wpC_execs_cons {st rest} {Q : Flow → Shared → Prop}
    (h : wpC M A (exec st env) (fun f s' => match f with | .next => wpC M A (execs rest env) Q E s' | f => Q f s') E s) :
    wpC M A (execs (st :: rest) env) Q E s := fun Γ p hΓ hC => by
  rw [execs_cons, Sem.wp_bind']
  refine Sem.wp_mono M Γ _ (fun f p' s' h' => ?_) (fun _ _ _ h' => h') _ _ (h Γ p hΓ hC)
  cases f <;> first | exact h' Γ p' hΓ hC | exact h'
theorem wpC_If {test body orelse pos} {Q : Flow → Shared → Prop}
    (h : wpC M A (isTrue test env (eval test env))
      (fun b s₂ => if b then wpC M A (execs body env) Q E s₂ else wpC M A (execs orelse env) Q E s₂) E s) :
    wpC M A (exec (.If test body orelse pos) env) Q E s := fun Γ p hΓ hC => by
  simp only [exec_If, Sem.wp_bind', Sem.wp_cmd_standAt]
  refine Sem.wp_mono M Γ _ (fun b p₂ s₂ h₂ => ?_) (fun _ _ _ h' => h') _ _ (h Γ _ hΓ hC)
  cases b <;> exact h₂ Γ p₂ hΓ hC
theorem wpC_Assign_Name {x pos' value pos} {Q : Flow → Shared → Prop}
    (h : wpC M A (eval value env) (fun v s₁ => wpAny M A (storeName env x v) (fun _ => Q .next) E s₁) E s)
    (hs : swapsWith value (some (.Name x pos')) pos.line env = pure false := by rfl) :
    wpC M A (exec (.Assign [.Name x pos'] value pos) env) Q E s := fun Γ p hΓ hC => by
  simp only [exec_Assign_Name env x pos' value pos hs, Sem.wp_bind', Sem.wp_cmd_standAt, Sem.wp_bindName, Sem.wp_pure']
  exact Sem.wp_mono M Γ _ (fun v _ s₁ h₁ => h₁ Γ _ hΓ) (fun _ _ _ h' => h') _ _ (h Γ _ hΓ hC)
theorem wpC_tryStmt {body : Sem Flow} {orelse : Sem Flow} {h₀ : ExceptHandler} {hs : List ExceptHandler} {Q : Flow → Shared → Prop}
    (h : wpC M A body (fun f s₁ => match f with | .next => wpAny M A orelse Q E s₁ | f => Q f s₁)
      (fun e s₁ => wpAny M A (noteFrame e env) (fun _ s₂ => wpAny M A (setFlight e none) (fun _ s₃ => wpAny M A (handleBy e env (h₀ :: hs)) Q E s₃) E s₂) E s₁) s) :
    wpC M A (tryStmt false body (h₀ :: hs) orelse [] env) Q E s := by
  unfold tryStmt
  simp only [List.isEmpty_nil, if_true, List.isEmpty_cons, Bool.false_and, Bool.false_eq_true, if_false]
  refine wpC_bind (wpC_attempt (wpC_mono h (fun f s₁ h₁ => ?_) fun e s₁ h₁ => ?_))
  · cases f <;> first | exact wpC_of h₁ | exact wpC_pure h₁
  · exact wpC_of (wpAny_bind (wpAny_mono h₁ (fun _ _ h₂ => wpAny_bind h₂) fun _ _ x => x))
theorem wpC_Try {body orelse : List Stmt} {h₀ : ExceptHandler} {hs : List ExceptHandler} {pos : Pos} {Q : Flow → Shared → Prop}
    (h : wpC M A (execs body env) (fun f s₁ => match f with | .next => wpAny M A (execs orelse env) Q E s₁ | f => Q f s₁)
      (fun e s₁ => wpAny M A (noteFrame e env) (fun _ s₂ => wpAny M A (setFlight e none) (fun _ s₃ => wpAny M A (handleBy e env (h₀ :: hs)) Q E s₃) E s₂) E s₁) s) :
    wpC M A (exec (.Try body (h₀ :: hs) orelse [] pos) env) Q E s := by
  rw [arm_exec_Try]
  exact wpC_bind (wpC_of (wpAny_standAt (wpC_tryStmt h)))
end
section
variable {prog : Program} {w : World} {A : Around} {E : Value → Shared → Prop} {s : Shared} {env : Env} {R : Result → Shared → Prop}

theorem codeC_loop' {M : Model} {c : Code} (hq : c.quiet = true) (I : Nat → Shared → Prop)
    (turn : ∀ n s, I n s → wpC M (A.under c) (M.den c)
      (fun fin s' => match fin with
        | .done f => R (.ok f) s'
        | .again c' => (c' = c ∧ ∃ m, m < n ∧ I m s') ∨ (c'.quiet = true ∧ codeC M A c' R s')) (fun e s' => R (.error e) s') s)
    (n : Nat) (h : I n s) : codeC M A c R s := by
  induction n using Nat.strongRecOn generalizing s with
  | ind n ih =>
    refine codeC_of_tree (wpC_mono (turn n s h) (fun fin s' hf => ?_) fun _ _ h' => h')
    cases fin with
    | done f => exact hf
    | again c' =>
      rcases hf with ⟨rfl, m, hm, hI⟩ | hf
      · exact ⟨hq, ih m hm hI⟩
      · exact hf
theorem codeC_forLoop {target it body orelse} (I : Nat → Shared → Prop)
    (turn : ∀ n s, I n s → wpAny (model prog w) A (pyNext it) (fun r s₁ => match r with
      | none => wpAny (model prog w) A (execs orelse env) (fun f s₃ => R (.ok f) s₃) (fun _ _ => False) s₁
      | some v => wpAny (model prog w) A (assign target env v) (fun _ s₂ => wpC (model prog w) A (execs body env) (fun f s₃ => match f with
          | .next | .cont => ∃ m, m < n ∧ I m s₃
          | .brk => R (.ok .next) s₃
          | .ret v => R (.ok (.ret v)) s₃) (fun _ _ => False) s₂) (fun _ _ => False) s₁) (fun _ _ => False) s)
    (n : Nat) (h : I n s) (ht : ∀ v, letOwnedTupleGo target it v = pure () := by intro _; rfl) : codeC (model prog w) A (.forLoop target it body orelse env) R s := by
  refine codeC_loop' rfl I (fun n s hI => ?_) n h
  show wpC _ _ ((forTurn target it body orelse env).onRaise (fun x => do noteFrame x env; theTreesLotGoes x)) _ _ s
  refine wpC_onRaise ?_
  simp only [forTurn]
  refine wpC_bind (wpC_of (wpAny_standAt (wpC_bind (wpC_of (wpAny_onRaise (wpAny_mono (turn n s hI) (fun r s₁ h₁ => ?_) fun _ _ h' => h'.elim))))))
  cases r with
  | none => exact wpC_pure (.inr ⟨rfl, codeC_of (codeAny_block (wpAny_mono h₁ (fun _ _ x => x) fun _ _ x => x.elim))⟩)
  | some v =>
    refine wpC_bind (wpC_of (wpAny_of_eq (ht v) ?_))
    refine wpC_bind (wpC_of (wpAny_mono h₁ (fun _ s₂ h₂ => wpC_bind (wpC_mono h₂ (fun f s₃ h₃ => ?_) fun _ _ h' => h'.elim)) fun _ _ h' => h'.elim))
    cases f with
    | next => exact wpC_pure (.inl ⟨rfl, h₃⟩)
    | cont => exact wpC_pure (.inl ⟨rfl, h₃⟩)
    | brk => exact wpC_pure h₃
    | ret v => exact wpC_pure h₃
theorem wpC_For {target iter body orelse pos} {Q : Flow → Shared → Prop}
    (h : wpAny (model prog w) A (eval iter env) (fun x s₁ => wpAny (model prog w) A (pyIter x) (fun it s₂ =>
      codeC (model prog w) A (.forLoop target it body orelse env) (fun r s' => match r with | .ok f => Q f s' | .error e => False) s₂) E s₁) E s)
    (hs : ∀ x, foldedSetIterable iter env x = pure x := by intro _; rfl) :
    wpC (model prog w) A (exec (.For target iter body orelse pos) env) Q E s := by
  rw [exec_For]
  refine wpC_bind (wpC_of (wpAny_standAt (wpC_bind (wpC_of (wpAny_mono h (fun x s₁ h₁ => ?_) fun _ _ h' => h')))))
  refine wpC_bind (wpC_of (wpAny_of_eq (hs x) (wpC_bind (wpC_of (wpAny_standAt (wpC_bind (wpC_of (wpAny_holding (wpAny_mono h₁ (fun it s₂ h₂ => ?_) fun _ _ h' => h')))))))))
  unfold runOwn
  refine wpC_onRaise (wpC_run (codeC_mono h₂ fun r s' hr => ?_))
  cases r with
  | ok f => exact hr
  | error e => exact hr.elim

theorem codeC_func {body}
    (h : wpC (model prog w) (A.deeper env) (execs body env) (fun f s' => R (.ok (.ret (match f with | .ret v => v | _ => .none))) s') (fun _ _ => False) s) :
    codeC (model prog w) A (.func body env) R s := by
  refine codeC_of_tree ?_
  show wpC _ (A.deeper env) (do point; match ← (execs body env).onRaise (leaving env) with | .ret v => ret v | _ => ret .none) _ _ s
  refine wpC_bind (wpC_of (wpAny_point (wpC_bind (wpC_onRaise (wpC_mono h (fun f s' h' => ?_) fun _ _ h' => h'.elim)))))
  cases f <;> exact wpC_pure h'
theorem codeC_call_def {a : Addr} {o : Obj} {fd : FuncData} {body : List Stmt} {args : Args} {binds : List (Str × Value)}
    (hroom : A.depth < recursionLimit) (ho : s.heap.get? a = some o) (hdata : o.data = .func fd) (hlim : s.heap.NoLimit) (hcd : s.heap.CodeRec fd.code fd.qualname)
    (hbody : fd.body = .stmts body) (hbind : BindsTo s fd args binds)
    (hcell : ∀ x ∈ fd.scope.names, x.2 ≠ .cell) (hloc : ∀ x ∈ binds, fd.scope.names.lookup x.1 = some .local)
    (h : ∀ h₀, h₀.Ns s.heap.objs.size (fun x => binds.reverse.lookup x) → (∀ b o, s.heap.get? b = some o → h₀.get? b = some o) →
      wpC (model prog w) (A.deeper (callEnv fd s.heap.objs.size a)) (execs body (callEnv fd s.heap.objs.size a)) (fun f s' => R (.ok (.ret (match f with | .ret v => v | _ => .none))) s')
        (fun _ _ => False) { s with heap := h₀, toks := s.toks + binds.length })
    (hco : fd.scope.isCoroutine = false := by rfl) (hgen : fd.scope.isGenerator = false := by rfl) (hk : fd.scope.kind = .function := by rfl) :
    codeC (model prog w) A (.call (.ref a) args) R s := by
  refine codeC_of_tree ?_
  show wpC _ A.in1 (callAny (.ref a) args) _ _ s
  simp only [callAny]
  refine wpC_bind (wpC_of (wpAny_load ho ?_))
  obtain ⟨c, oc, vs, tq, hc, hoc, hdc, hq⟩ := hcd
  simp only [hdata, callFunction, hco, hgen, hbody, hc]
  refine wpC_of (wpAny_bind (m := field (.ref c) 1) (wpAny_field hoc hdc hq (wpAny_bind (wpAny_pure ?_))))
  refine wpAny_bind (hbind _ _ _ _ ?_)
  refine wpAny_bind (wpAny_newFunctionEnv hcell hloc (fun h₀ hns₀ hsb₀ => ?_) hk)
  refine wpAny_bind (wpAny_enterFrame (hlim.fresh _ hsb₀) hroom (wpAny_pure (And.intro rfl ?_)))
  have q := h h₀ hns₀ fun b o e => hsb₀.extBut b o (Nat.ne_of_lt (Heap.lt_size e)) (Heap.get?_push_of_some _ e)
  have e1 : newEnv fd.scope s.heap.objs.size fd.globals fd.closure (fd.qualname ++ Str.ofString ".<locals>.") (some a) (.ref c) none fd.builtins = callEnv fd s.heap.objs.size a := by rw [← hc]; rfl
  exact codeC_func (by first | exact q | (rw [e1]; exact q) | (simpa only [e1] using q))
end
end Mine
end

section
open PySem PySem.W PyProof.Rows PySem.Calls
open Sem (wp)
set_option maxRecDepth 100000
namespace Mine
section
variable {M : Model} {A : Around} {E : Value → Shared → Prop} {s : Shared} {env : Env}

theorem wpC_Expr {e pos} {Q : Flow → Shared → Prop} (h : wpC M A (eval e env) (fun v s' => match v with | .ref _ => False | _ => Q .next s') E s)
    (hi : interactive env = false := by rfl) (hs : swapsWith e none pos.line env = pure false := by rfl) :
    wpC M A (exec (.Expr e pos) env) Q E s := by
  rw [exec_Expr env e pos hi hs]
  refine wpC_bind (wpC_of (wpAny_standAt (wpC_bind (wpC_mono h (fun v s' h' => ?_) fun _ _ x => x))))
  have hv : ∀ a, v ≠ .ref a := fun a hva => by subst hva; exact h'
  rw [dropValue_plain hv]
  refine wpC_pure ?_
  cases v <;> first | exact h' | exact (hv _ rfl).elim
theorem wpC_keep {α : Type} {vs : List Value} {m : Sem α} {Q : α → Shared → Prop} (h : wpC M A m Q E s) : wpC M A (m.keep vs) Q E s :=
  fun Γ p hΓ hC => by rw [Sem.wp_keep]; exact h Γ p hΓ hC
theorem splicedC_nil {Q : List Value → Shared → Prop} (h : Q [] s) : wpC M A (spliced []) Q E s := wpC_pure h
theorem splicedC_cons {x : Sem Value} {rest : List (Bool × Sem Value)} {Q : List Value → Shared → Prop}
    (h : wpC M A x (fun v s₁ => wpC M A (spliced rest) (fun vs s₂ => Q (v :: vs) s₂) E s₁) E s) : wpC M A (spliced ((false, x) :: rest)) Q E s := by
  rw [spliced]
  refine wpC_bind (wpC_mono h (fun v s₁ h₁ => ?_) fun _ _ x => x)
  simp only [Bool.false_eq_true, if_false]
  exact wpC_bind (wpC_pure (wpC_bind (wpC_holding (wpC_mono h₁ (fun vs s₂ h₂ => wpC_pure h₂) fun _ _ x => x))))
theorem evalArgsC_plain {f : Value} {x : Sem Value} {rest : List (Bool × Sem Value)} {Q : Args → Shared → Prop}
    (h : wpC M A (spliced ((false, x) :: rest)) (fun vs s' => Q ⟨vs, []⟩ s') E s) : wpC M A (evalArgs f true ((false, x) :: rest) []) Q E s := by
  unfold evalArgs
  show wpC M A (spliced ((false, x) :: rest) >>= _) Q E s
  refine wpC_bind (wpC_mono h (fun vs s' h' => ?_) fun _ _ x => x)
  refine wpC_holding ?_
  exact wpC_bind (wpC_pure (wpC_bind (wpC_pure (wpC_pure h'))))
theorem wpC_TupleE {elts : List Expr} {k : Nat} {pos : Pos} {Q : Value → Shared → Prop}
    (h : wpC M A (spliced (backTo pos (starEach elts env)))
      (fun vs s₁ => vs.length ≤ sizeLine ∧ Q (.ref s₁.heap.objs.size) { s₁ with heap := s₁.heap.push { cls := .type "tuple", data := .seq vs.toArray } }) E s) : wpC M A (eval (.Tuple elts k pos) env) Q E s := by
  rw [arm_eval_Tuple]
  exact wpC_bind (wpC_of (wpAny_standAt (wpC_bind (wpC_mono h (fun vs s₁ h₁ => wpC_of (wpAny_newObj_type h₁.2 (by show vs.toArray.size ≤ sizeLine; rw [List.size_toArray]; exact h₁.1))) fun _ _ x => x))))
theorem wpC_Call_Name {id : Str} {p pos : Pos} {args : List Expr} {Q : Value → Shared → Prop}
    (h : wpAny M A (eval (.Name id p) env) (fun f s₁ => wpC M A (callWith pos f [] (backTo pos (starEach args env)) []) Q E s₁) E s) :
    wpC M A (eval (.Call (.Name id p) args [] pos) env) Q E s := by
  show wpC M A (do callWith pos (← eval (.Name id p) env) [] (backTo pos (starEach args env)) (backToKw pos (keywordEach [] env))) Q E s
  exact wpC_bind (wpC_of h)
theorem callWithC_of {pos : Pos} {f : Value} {first : List Value} {Q : Value → Shared → Prop} {P : Heap → Prop} {args : List (Bool × Sem Value)} {keywords : List (Option Str × Sem Value)} (hplain : (args.any (·.1) || keywords.any (·.1.isNone)) = false)
    (hk : ∀ h, P h → ∃ k, (k = Keeper.frame ∨ k = Keeper.machine ∨ k = Keeper.boundFrame) ∧ Looks M h (keeperOf f) k)
    (h : wpC M A (evalArgs f true args keywords) (fun a s₁ => P s₁.heap ∧ wpC M A (call f (first ++ a.pos) a.kw) Q E s₁) E s) : wpC M A (callWith pos f first args keywords) Q E s := by
  unfold callWith
  refine wpC_bind (wpC_holding (wpC_mono h (fun a s₁ h₁ => wpC_bind (wpC_of (wpAny_standAt ?_))) fun _ _ x => x))
  obtain ⟨k, hk', L⟩ := hk _ h₁.1
  simp only [hplain]
  refine wpC_bind (wpC_of (L.here ?_))
  have tail : ∀ {t : Sem Value}, wpC M A t Q E s₁ → wpC M A (t >>= fun r => holding [r] point >>= fun _ => pure r) Q E s₁ :=
    fun ht => wpC_bind (wpC_mono ht (fun r s₂ hr => wpC_bind (wpC_holding (wpC_of (wpAny_point (wpC_pure hr))))) fun _ _ x => x)
  have marked (mk : Value) : wpC M A (callMarked mk f (first ++ a.pos) a.kw) Q E s₁ := by unfold callMarked; exact wpC_keep h₁.2
  rcases hk' with rfl | rfl | rfl <;> dsimp only <;> first | exact tail h₁.2 | (split <;> first | exact tail h₁.2 | exact tail (marked _))
theorem callWithC_K {K : Frag} {pos : Pos} {f : Value} {first : List Value} {Q : Value → Shared → Prop} {e : Expr} {rest : List Expr} (hk : keepIn K f = true)
    (h : wpC M A (spliced (backTo pos (starEach (e :: rest) env))) (fun vs s₁ => K.In s₁.heap ∧ wpC M A (call f (first ++ vs)) Q E s₁) E s)
    (he : starEach (e :: rest) env = (false, eval e env) :: starEach rest env := by rfl) (hplain : (backTo pos (starEach rest env)).any (·.1) = false := by rfl) :
    wpC M A (callWith pos f first (backTo pos (starEach (e :: rest) env)) []) Q E s := by
  rw [he] at h ⊢
  exact callWithC_of (by show ((false || (backTo pos (starEach rest env)).any (·.1)) || false) = false; rw [hplain]; rfl) (keeps_K hk) (evalArgsC_plain h)
theorem callWithC_builtin {pos : Pos} {id : String} {first : List Value} {args : List (Bool × Sem Value)} {Q : Value → Shared → Prop} (hplain : args.any (·.1) = false)
    (h : wpC M A (evalArgs (.builtin id) true args []) (fun a s₁ => wpC M A (call (.builtin id) (first ++ a.pos) a.kw) Q E s₁) E s) :
    wpC M A (callWith pos (.builtin id) first args []) Q E s := by
  unfold callWith
  refine wpC_bind (wpC_holding (wpC_mono h (fun a s₁ h₁ => wpC_bind (wpC_of (wpAny_standAt ?_))) fun _ _ x => x))
  simp only [hplain, List.any_nil, Bool.or_false]
  refine wpC_bind (wpC_pure ?_)
  exact wpC_bind (wpC_mono h₁ (fun r s₂ hr => wpC_bind (wpC_holding (wpC_of (wpAny_point (wpC_pure hr))))) fun _ _ x => x)
theorem callWithC_type {pos : Pos} {T : String} {first : List Value} {args : List (Bool × Sem Value)} {Q : Value → Shared → Prop} (hplain : args.any (·.1) = false)
    (h : wpC M A (evalArgs (.type T) true args []) (fun a s₁ => wpC M A (call (.type T) (first ++ a.pos) a.kw) Q E s₁) E s) :
    wpC M A (callWith pos (.type T) first args []) Q E s := by
  unfold callWith
  refine wpC_bind (wpC_holding (wpC_mono h (fun a s₁ h₁ => wpC_bind (wpC_of (wpAny_standAt ?_))) fun _ _ x => x))
  simp only [hplain, List.any_nil, Bool.or_false]
  refine wpC_bind (wpC_pure ?_)
  exact wpC_bind (wpC_mono h₁ (fun r s₂ hr => wpC_bind (wpC_holding (wpC_of (wpAny_point (wpC_pure hr))))) fun _ _ x => x)
end
section
variable {prog : Program} {w : World} {A : Around} {E : Value → Shared → Prop} {s : Shared} {env : Env}
theorem wpC_Call_append {o elt : Expr} {apos pos : Pos} {Q : Value → Shared → Prop}
    (hbase : attributeBase o "append" env (eval o env) = eval o env)
    (hfew : ((backTo pos (starEach [elt] env)).all (fun x => !x.1) && (backToKw pos (keywordEach [] env)).all (fun x => x.1.isSome)
      && decide (([elt] : List Expr).length + ([] : List Keyword).length + (if ([] : List Keyword).isEmpty then 0 else 1) < 30)) = true)
    (hline : (apos.endLine == pos.line) = true)
    (htrees : backTo pos (starEach [elt] env) = [(false, eval elt env)])
    (h : wpAny (model prog w) A (eval o env) (fun ov s₁ => ∃ D its, ov = .ref D ∧ PlainL s₁.heap D its ∧
      wpC (model prog w) A (eval elt env) (fun y s₂ => wpAny (model prog w) A (call (.builtin "list.append") [.ref D, y]) Q E s₂) E s₁) E s) :
    wpC (model prog w) A (eval (.Call (.Attribute o "append" apos) [elt] [] pos) env) Q E s := by
  rw [arm_eval_Call, hbase]
  refine wpC_bind (wpC_of (wpAny_mono h (fun ov s₁ h₁ => ?_) fun _ _ e => e))
  obtain ⟨D, its, rfl, ⟨ob, n, hob, hc, hd, _⟩, hcall⟩ := h₁
  refine wpC_bind (wpC_of (wpAny_standAt ?_))
  have fin : wpC (model prog w) A (callWith pos (.builtin "list.append") [.ref D] (backTo pos (starEach [elt] env)) []) Q E s₁ := by
    rw [htrees]
    exact callWithC_builtin rfl (evalArgsC_plain (splicedC_cons (wpC_mono hcall (fun y s₂ h₂ => splicedC_nil (wpC_of h₂)) fun _ _ e => e)))
  have hform : methodCallForm (([elt] : List Expr).length + ([] : List Keyword).length) (backTo pos (starEach [elt] env)) (backToKw pos (keywordEach [] env)) = true := hfew
  have hpos : methodCallPos true o env apos pos = pure pos := by unfold methodCallPos; simp [hline]
  unfold methodCall
  rw [hform]
  refine wpC_bind (wpC_holding (wpC_of (Calls.getMethod_list_append hob hc hd ?_)))
  exact wpC_bind (wpC_of (wpAny_of_eq hpos fin))
end
end Mine
end

section
open PySem PySem.W PyProof.Rows PySem.Calls
open Sem (wp)
set_option maxRecDepth 100000
namespace Mine

/-- what is a list or a tuple, and what lay below `n` beside the frame `L`, stays -/
def KeepD (L n : Addr) (h h' : Heap) : Prop := ∀ b o, h.get? b = some o → ((b < n ∧ b ≠ L) ∨ ∃ vs k, o.data = .seq vs k) → h'.get? b = some o
theorem KeepD.refl (L n : Addr) (h : Heap) : KeepD L n h h := fun _ _ e _ => e
theorem KeepD.trans {L n : Addr} {h h' h'' : Heap} (x : KeepD L n h h') (y : KeepD L n h' h'') : KeepD L n h h'' := fun b o e q => y b o (x b o e q) q
theorem KeepD.of_keep {L n : Addr} {h h' : Heap} (x : ∀ b o, h.get? b = some o → h'.get? b = some o) : KeepD L n h h' := fun b o e _ => x b o e
theorem KeepD.list {L n l : Addr} {h h' : Heap} {vs : Array Value} (x : KeepD L n h h') (hl : h.IsList l vs) : h'.IsList l vs := by
  obtain ⟨o, ho, hc, k, hd⟩ := hl
  exact ⟨o, x _ _ ho (.inr ⟨_, _, hd⟩), hc, k, hd⟩
theorem KeepD.extBut {L n b : Addr} {h h' : Heap} (x : Heap.ExtBut b h h') (hb : n ≤ b) (hd : ∀ o, h.get? b = some o → ∀ vs k, o.data ≠ .seq vs k) : KeepD L n h h' := fun c o e q => by
  refine x c o (fun hc => ?_) e
  subst hc
  rcases q with ⟨q, _⟩ | ⟨vs, k, q⟩
  · exact absurd q (Nat.not_lt.mpr hb)
  · exact hd _ e _ _ q

section
variable {prog : Program} {w : World} {A : Around} {E : Value → Shared → Prop} {s : Shared} {env : Env} {hb : Heap} {x : Str} {px : Pos} {body : List Stmt} {Q : Flow → Shared → Prop}

theorem for_listF {l : Addr} {vs : List Value} {m₀ : Str → Option Value} (J : Nat → (Str → Option Value) → Heap → Prop)
    (hh : A.handled = none) (hx : env.kindOf x = some .local) (hp : (env.scope.kind == .class || (env.scope.kind == .module && env.locals != env.globals)) = false)
    (hl : s.heap.IsList l vs.toArray) (F : Fr hb env.locals s.heap m₀) (hJ : J 0 m₀ s.heap)
    (stab : ∀ i m h h', J i m h → KeepD env.locals s.heap.objs.size h h' → J i m h')
    (turn : ∀ i v m h tk, vs[i]? = some v → J i m h → h.IsList l vs.toArray → h.IsListIter s.heap.objs.size l (i + 1) → Fr hb env.locals h (fun y => if y = x then some v else m y) →
      wpC (model prog w) A (execs body env) (fun f s₃ => match f with
        | .next | .cont => ∃ m' h' tk', s₃ = { s with heap := h', toks := tk' } ∧ J (i + 1) m' h' ∧ Fr hb env.locals h' m' ∧ h'.IsList l vs.toArray ∧ h'.IsListIter s.heap.objs.size l (i + 1)
        | .brk => Q .next s₃
        | .ret v => Q (.ret v) s₃) (fun _ _ => False) { s with heap := h, toks := tk })
    (done : ∀ m h tk, J vs.length m h → Fr hb env.locals h m → Q .next { s with heap := h, toks := tk }) :
    wpAny (model prog w) A (pyIter (.ref l)) (fun it s₂ => codeC (model prog w) A (.forLoop (.Name x px) it body [] env)
      (fun r s' => match r with | .ok f => Q f s' | .error _ => False) s₂) E s := by
  obtain ⟨ol, hol, hcl, kl, hdl⟩ := id hl
  have hLI : env.locals ≠ s.heap.objs.size := Nat.ne_of_lt F.ns.lt
  have hb0 : ∀ b o, hb.get? b = some o → b < s.heap.objs.size := fun b o e => Heap.lt_size (F.keep b o e)
  refine wpAny_pyIter_list hl ?_
  refine codeC_forLoop (fun n s₁ => ∃ i m h tk, s₁ = { s with heap := h, toks := tk } ∧ n + i = vs.length ∧ J i m h ∧ Fr hb env.locals h m ∧ h.IsList l vs.toArray ∧ h.IsListIter s.heap.objs.size l i) ?_ vs.length
    ⟨0, m₀, _, s.toks, rfl, rfl, stab _ _ _ _ hJ (.of_keep fun b o e => Heap.get?_push_of_some _ e), F.push _, hl.push _, ⟨_, Heap.get?_push_size _ rfl, rfl, rfl⟩⟩
  rintro n s₁ ⟨i, m, h, tk, rfl, hn, j, F₁, hl₁, hi₁⟩
  have hIseq : ∀ (h : Heap) j, h.IsListIter s.heap.objs.size l j → ∀ o, h.get? s.heap.objs.size = some o → ∀ vs k, o.data ≠ .seq vs k := by
    rintro h j ⟨o', ho', _, hd'⟩ o ho vs k hd
    rw [ho'] at ho; cases ho; rw [hd'] at hd; cases hd
  have hlI : l ≠ s.heap.objs.size := fun e => by
    obtain ⟨o, ho, _, k, hd⟩ := hl₁
    exact hIseq h i hi₁ o (e ▸ ho) _ _ hd
  by_cases hlt : i < vs.length
  · have hv : vs.toArray[i]? = some vs[i] := by simp [hlt]
    refine wpAny_pyNext_list_item hi₁ hl₁ hv fun h₂ hi₂ hs₂ => ?_
    have F₂ : Fr hb env.locals h₂ m := ⟨F₁.ns.sameBut hs₂ hLI, fun b o e => (hs₂.2 b (Nat.ne_of_lt (hb0 b o e))).trans (F₁.keep b o e), F₁.above⟩
    have k₂ : KeepD env.locals s.heap.objs.size h h₂ := KeepD.extBut (b := s.heap.objs.size) (fun b o hb e => (hs₂.2 b hb).trans e) (Nat.le_refl _) (hIseq _ _ hi₁)
    refine wpAny_assign_Name (wpAny_storeName_local hx F₂.ns (fun h₃ hn₃ hs₃ => ?_) hp)
    have F₃ := F₂.set hn₃ hs₃
    have k₃ : KeepD env.locals s.heap.objs.size h₂ h₃ := fun b o e q => by
      refine (hs₃.2 b fun hc => ?_).trans e
      rcases q with ⟨_, q⟩ | ⟨vs, k, q⟩
      · exact q hc
      · obtain ⟨oL, es, ep, hoL, hdL, _⟩ := F₂.ns
        rw [hc, hoL] at e; cases e; rw [hdL] at q; cases q
    have hi₃ : h₃.IsListIter s.heap.objs.size l (i + 1) := let ⟨o, ho, r⟩ := hi₂; ⟨o, (hs₃.2 _ (Ne.symm hLI)).trans ho, r⟩
    refine wpC_mono (turn i vs[i] m h₃ _ (by simp [hlt]) (stab _ _ _ _ j (k₂.trans k₃)) ((k₂.trans k₃).list hl₁) hi₃ F₃) (fun f s₃ h' => ?_) fun _ _ x => x
    have fin : (∃ m' h' tk', s₃ = { s with heap := h', toks := tk' } ∧ J (i + 1) m' h' ∧ Fr hb env.locals h' m' ∧ h'.IsList l vs.toArray ∧ h'.IsListIter s.heap.objs.size l (i + 1)) →
      ∃ k, k < n ∧ ∃ i m h tk, s₃ = { s with heap := h, toks := tk } ∧ k + i = vs.length ∧ J i m h ∧ Fr hb env.locals h m ∧ h.IsList l vs.toArray ∧ h.IsListIter s.heap.objs.size l i := by
      rintro ⟨m', h', tk', e, a, b, c, d⟩
      exact ⟨n - 1, by omega, i + 1, m', h', tk', e, by omega, a, b, c, d⟩
    cases f with
    | next => exact fin h'
    | cont => exact fin h'
    | brk => exact h'
    | ret v => exact h'
  · have hv : vs.toArray[i]? = none := by simp; omega
    refine wpAny_pyNext_list_end hh hi₁ hl₁ hv fun h₂ hs₂ => ?_
    have hi : i = vs.length := by omega
    subst hi
    refine wpAny_execs_nil ?_
    exact done m h₂ _ (stab _ _ _ _ j (KeepD.extBut hs₂ (Nat.le_refl _) (hIseq _ _ hi₁)))
      ⟨(let ⟨o, es, ep, ho, r⟩ := F₁.ns; ⟨o, es, ep, hs₂ _ _ hLI ho, r⟩), fun b o e => hs₂ b o (Nat.ne_of_lt (hb0 b o e)) (F₁.keep b o e), F₁.above⟩
end
end Mine
end

section
open PySem PySem.W PyProof.Rows PySem.Calls PySem.NumText
open Sem (wp)
set_option maxRecDepth 100000
namespace Mine
section
variable {prog : Program} {w : World} {A : Around} {E : Value → Shared → Prop} {s : Shared} {R : Result → Shared → Prop}

theorem codeC_call_builtin {id : String} {args : Args} {b : Builtin} (hq : plainId id = true) (hb : entryFor table id = some b)
    (h : wpAny (model prog w) A.in1 (checkBuiltinCall id args) (fun _ s₁ => wpC (model prog w) A.in1 (b args)
      (fun fin s' => match fin with | .done f => R (.ok f) s' | .again c' => c'.quiet = true ∧ codeC (model prog w) A c' R s') (fun e s' => R (.error e) s') s₁)
      (fun e s' => R (.error e) s') s) : codeC (model prog w) A (.call (.builtin id) args) R s := by
  refine codeC_of_tree ?_
  show wpC _ A.in1 (do checkBuiltinCall id args; again (.builtin id args)) _ _ s
  refine wpC_bind (wpC_of (wpAny_mono h (fun _ s₁ h₁ => wpC_pure (And.intro (plainId_quiet hq args) (codeC_of_tree ?_))) fun _ _ h' => h'))
  rw [Around.under_plainId hq args]
  show wpC _ _ (match entryFor table id with | some b => b args | none => unsupported ((withoutEnding? id "#data").getD id)) _ _ s₁
  rw [hb]; exact h₁
theorem codeC_builtin {id : String} {args : Args} {b : Builtin} (hb : entryFor table id = some b)
    (h : wpC (model prog w) (A.under (.builtin id args)) (b args)
      (fun fin s' => match fin with | .done f => R (.ok f) s' | .again c' => c'.quiet = true ∧ codeC (model prog w) A c' R s') (fun e s' => R (.error e) s') s) :
    codeC (model prog w) A (.builtin id args) R s := by
  refine codeC_of_tree ?_
  show wpC _ _ (match entryFor table id with | some b => b args | none => unsupported ((withoutEnding? id "#data").getD id)) _ _ s
  rw [hb]; exact h

theorem msg_short (y : Str) : ((Str.ofString (toString "invalid literal for int() with base " ++ toString 10 ++ toString ": ") ++ ⟨y.cps.extract 0 200⟩ : Str)).length ≤ sizeLine := by
  have h1 : (y.cps.extract 0 200).size ≤ 200 := by simp only [Array.size_extract]; omega
  have h2 : (Str.ofString (toString "invalid literal for int() with base " ++ toString 10 ++ toString ": ")).cps.size ≤ 1000 := by decide +kernel
  show (Str.cps _ ++ Str.cps _).size ≤ 2 ^ 24
  rw [Array.size_append]
  have h3 : (1000 : Nat) + 200 ≤ 2 ^ 24 := by decide
  exact Nat.le_trans (Nat.add_le_add h2 h1) h3
theorem text_fail {x : Str} {u : Tok} {text : List Nat} {Q : Value → Shared → Prop} (hh : A.handled = none)
    (hs : (text.takeWhile (· != 0)).length ≤ 640) (hr : (int_private% "readNumeral") 0 10 (text.takeWhile (· != 0)) = (int_private% "Numeral.invalid")) (hx : (reprText x).length ≤ 1000)
    (h : ∀ h' e tk, Heap.NewExc s.heap h' e "ValueError" → E (.ref e) { s with heap := h', toks := tk }) :
    wpC (model prog w) A ((int_private% "intFromText") (.str x u) text 10) Q E s := by
  refine wpC_ite ?_
  rw [if_pos hs]
  refine wpC_bind (wpC_pure ?_)
  dsimp only
  simp only [hr]
  refine wpC_bind (wpC_pure ?_)
  refine wpC_ite ?_
  rw [if_neg (by exact Bool.false_ne_true)]
  refine wpC_bind (wpC_of (wpAny_rule ?_))
  refine wpC_bind (wpC_pure ?_)
  refine wpC_bind (wpC_of (wpAny_pyRepr_str ?_ (Nat.le_trans hx (by decide))))
  refine wpC_bind (wpC_of (wpAny_mkStr ?_ ?hsz))
  case hsz => exact msg_short _
  refine wpC_bind (wpC_of (wpAny_newExc_plain plainExc_ValueError ?_ (show 1 ≤ 2 ^ 24 by decide)))
  intro h' e he
  refine wpC_bind (wpC_refusal ?_)
  exact wpC_of (wpAny_raiseNew_none hh (h h' e _ he.newExc))

theorem new_fail1 {x : Str} {u : Tok} {Q : Fin → Shared → Prop} (hh : A.handled = none)
    (hs : (numSeenOf x).length ≤ 640) (hr : (int_private% "readNumeral") 0 10 (numSeenOf x) = (int_private% "Numeral.invalid")) (hx : (reprText x).length ≤ 1000)
    (h : ∀ h' e tk, Heap.NewExc s.heap h' e "ValueError" → E (.ref e) { s with heap := h', toks := tk }) :
    wpC (model prog w) A (Builtin.«int.__new__» ⟨[.type "int", .str x u], []⟩) Q E s := by
  unfold Builtin.«int.__new__»
  dsimp only
  refine wpC_bind (wpC_pure ?_)
  refine wpC_ite ?_
  rw [if_neg (by exact Bool.false_ne_true)]
  refine wpC_bind (wpC_of (wpAny_of_eq F.conv_sub_int ?_))
  refine wpC_ite ?_
  rw [if_neg (by exact Bool.false_ne_true)]
  refine wpC_bind (wpC_of (wpAny_of_eq F.madeHere_int ?_))
  refine wpC_ite ?_
  rw [if_neg (by exact Bool.false_ne_true)]
  refine wpC_ite ?_
  rw [if_neg (by exact (of_decide_eq_false rfl))]
  refine wpC_bind (wpC_pure ?_)
  refine wpC_bind ?_
  have f3 := KIN.str_int
  have f4 := KIN.str_idx
  have f5 := KIN.str_trunc
  have f6 : typeOf (.str x u) = pure (.type "str") := rfl
  obtain ⟨hp, g, d, tk, os⟩ := s
  refine wpC_bind (wpC_of ?_)
  repeat wp_step
  refine wpC_bind (wpC_of ?_)
  repeat wp_step
  refine wpC_ite ?_
  rw [if_neg (by exact Bool.false_ne_true)]
  refine wpC_bind (wpC_of ?_)
  repeat wp_step
  refine wpC_bind (wpC_pure ?_)
  exact text_fail (text := numTextOf x) hh hs hr hx h
theorem new_fail2 {x : Str} {u v : Tok} {Q : Fin → Shared → Prop} (hh : A.handled = none)
    (hs : (numSeenOf x).length ≤ 640) (hr : (int_private% "readNumeral") 0 10 (numSeenOf x) = (int_private% "Numeral.invalid")) (hx : (reprText x).length ≤ 1000)
    (h : ∀ h' e tk, Heap.NewExc s.heap h' e "ValueError" → E (.ref e) { s with heap := h', toks := tk }) :
    wpC (model prog w) A (Builtin.«int.__new__» ⟨[.type "int", .str x u, .int 10 v], []⟩) Q E s := by
  unfold Builtin.«int.__new__»
  dsimp only
  refine wpC_bind (wpC_pure ?_)
  refine wpC_ite ?_
  rw [if_neg (by exact Bool.false_ne_true)]
  refine wpC_bind (wpC_of (wpAny_of_eq F.conv_sub_int ?_))
  refine wpC_ite ?_
  rw [if_neg (by exact Bool.false_ne_true)]
  refine wpC_bind (wpC_of (wpAny_of_eq F.madeHere_int ?_))
  refine wpC_ite ?_
  rw [if_neg (by exact Bool.false_ne_true)]
  refine wpC_ite ?_
  rw [if_neg (by exact (of_decide_eq_false rfl))]
  refine wpC_bind (wpC_pure ?_)
  obtain ⟨hp, g, d, tk, os⟩ := s
  refine wpC_bind (wpC_of ?_)
  repeat wp_step
  refine wpC_ite ?_
  rw [if_neg (by decide)]
  refine wpC_bind (wpC_pure ?_)
  refine wpC_bind ?_
  exact text_fail (text := numTextOf x) hh hs hr hx h
end
end Mine
end

section
open PySem PySem.W PyProof.Rows PySem.Calls PySem.NumText
open Sem (wp)
set_option maxRecDepth 100000
namespace Mine
section
variable {prog : Program} {w : World} {A : Around} {E : Value → Shared → Prop} {s : Shared}

theorem callType_fail {T newId initId : String} {Bn : Builtin} {args : List Value} {Q : Value → Shared → Prop} (ft : TypeCalled T newId initId)
    (hct : checkTypeCall T ⟨args, []⟩ = pure ()) (hcn : checkBuiltinCall newId ⟨.type T :: args, []⟩ = pure ())
    (entryN : entryFor table newId = some Bn)
    (g : wpC (model prog w) A.in1.in1 (Bn ⟨.type T :: args, []⟩) (fun _ _ => False) E s) : wpC (model prog w) A (call (.type T) args) Q E s := by
  obtain ⟨c, tl, hmro⟩ := ft.mro
  have hmade := ft.made
  refine wpC_call (codeC_of_tree ?_)
  show wpC _ _ (callAny (.type T) _) _ _ _
  refine wpC_pure ⟨Code.quiet_builtin _ (by decide +kernel), codeC_builtin F.entry_type_call ?_⟩
  rw [Around.under_plain (weight_type_call_type T args []) (units_type_call_type T args [])]
  have h1 := ft.notType
  have h2 := ft.canCreate
  unfold Builtin.«type.__call__»
  dsimp only
  refine wpC_ite ?_
  rw [if_neg (by rw [h1]; exact Bool.false_ne_true)]
  refine wpC_ite ?_
  rw [if_neg (by rw [h2]; exact Bool.false_ne_true)]
  refine wpC_bind (wpC_of (wpAny_of_eq hct ?_))
  refine wpC_bind (wpC_of (wpAny_of_eq hmro ?_))
  refine wpC_ite ?_
  rw [if_neg (by exact Bool.false_ne_true)]
  refine wpC_bind (wpC_of (wpAny_of_eq hmade ?_))
  refine wpC_bind (wpC_pure ?_)
  refine wpC_bind (wpC_holding (wpC_call (codeC_call_builtin ft.plain entryN (wpAny_of_eq hcn ?_))))
  refine wpC_mono g (fun _ _ x => x.elim) fun _ _ x => x

theorem typeCall_int_2 (a b : Value) : checkTypeCall "int" ⟨[a, b], []⟩ = pure () := by kernel_rfl
theorem newCall_int_2 (a b : Value) : checkBuiltinCall "int.__new__" ⟨[.type "int", a, b], []⟩ = pure () := by kernel_rfl

theorem int_fail1 {x : Str} {u : Tok} {Q : Value → Shared → Prop} (hh : A.handled = none)
    (hs : (numSeenOf x).length ≤ 640) (hr : (int_private% "readNumeral") 0 10 (numSeenOf x) = (int_private% "Numeral.invalid")) (hx : (reprText x).length ≤ 1000)
    (h : ∀ h' e tk, Heap.NewExc s.heap h' e "ValueError" → E (.ref e) { s with heap := h', toks := tk }) :
    wpC (model prog w) A (call (.type "int") [.str x u]) Q E s :=
  callType_fail F.called_int (F.typeCall_int_1 _) (F.newCall_int_1 _) F.entry_int_new (new_fail1 hh hs hr hx h)
theorem int_fail2 {x : Str} {u v : Tok} {Q : Value → Shared → Prop} (hh : A.handled = none)
    (hs : (numSeenOf x).length ≤ 640) (hr : (int_private% "readNumeral") 0 10 (numSeenOf x) = (int_private% "Numeral.invalid")) (hx : (reprText x).length ≤ 1000)
    (h : ∀ h' e tk, Heap.NewExc s.heap h' e "ValueError" → E (.ref e) { s with heap := h', toks := tk }) :
    wpC (model prog w) A (call (.type "int") [.str x u, .int 10 v]) Q E s :=
  callType_fail F.called_int (typeCall_int_2 _ _) (newCall_int_2 _ _) F.entry_int_new (new_fail2 hh hs hr hx h)
end
set_option maxHeartbeats 4000000 in
theorem gives_text2 {x : PySem.Str} {u v : Tok} {n : Int} (hl : x.length ≤ 640) (hn : PySem.intText? x = some n) : Gives (Builtin.«int.__new__» ⟨[.type "int", .str x u, .int 10 v], []⟩) (.int n) :=
  .of_wp fun M A E s Q h => by
    obtain ⟨hp, g, d, tk, os⟩ := s
    have f1 := F.conv_sub_int
    have f2 := F.madeHere_int
    have f6 : typeOf (.str x u) = pure (.type "str") := rfl
    have hs : (numSeenOf x).length ≤ 640 := Nat.le_trans (seen_length x) hl
    have hr : (int_private% "readNumeral") 0 10 (numSeenOf x) = (int_private% "Numeral.value") n ∧ ((numSeenOf x).length == (numTextOf x).length) = true := by
      rcases read0 x hs with ⟨m, h1, h2, h3⟩ | ⟨h1, _⟩
      · rw [hn] at h1
        injection h1 with h1
        subst h1
        exact ⟨h3, h2⟩
      · rw [hn] at h1
        cases h1
    have hk := KIN.Hid.mk (And.intro hs hr)
    clear hs hr hl hn
    repeat (any_goals (first
      | assumption
      | ((with_reducible show wpAny _ _ ((int_private% "intFromText") _ _ _) _ _ _); refine KIN.wp_text hk.out.1 hk.out.2.1 hk.out.2.2 ?_)
      | wp_step))
    all_goals first | exact ⟨_, rfl, h⟩ | skip
section
variable {prog : Program} {w : World} {A : Around} {E : Value → Shared → Prop} {s : Shared}
theorem args_object_init_3 (a b c : Value) : argsOk "object.__init__" ⟨[a, b, c], []⟩ := by
  unfold argsOk; rw [signature?_of (id := "object.__init__") (n := ['_', '_', 't', 'i', 'n', 'i', '_', '_']) (o := ['t', 'c', 'e', 'j', 'b', 'o']) (by kernel_rfl) F.owner_object]; kernel_rfl
theorem int_ok2 {x : Str} {u v : Tok} {n : Int} {Q : Value → Shared → Prop} (hn : PySem.intText? x = some n) (hl : x.length ≤ 640)
    (h : Q (.int n s.toks) { s with toks := s.toks + 1 }) : wpAny (model prog w) A (call (.type "int") [.str x u, .int 10 v]) Q E s :=
  callType_new F.called_int F.newNe_int (typeCall_int_2 _ _) (newCall_int_2 _ _) (fun obj => args_object_init_3 obj _ _) F.entry_int_new (gives_text2 hl hn).meets (show (Made.int n).post _ s from ⟨rfl, h⟩)
end
end Mine
end

section
open PySem PySem.W PyProof.Rows PySem.Calls PySem.NumText
open Sem (wp)
set_option maxRecDepth 100000
namespace Mine
namespace F
theorem owner_map : Manifest.owners.lookup (String.ofList ['p', 'a', 'm'].reverse) = some Manifest.sig_map := by kernel_rfl
theorem slot_map_next : Slot "map" "__next__" "map.__next__" :=
  .of (owner := "map") (n := "__next__") (by rw [typeLookup_type, builtinLookup_eq_fast]; kernel_rfl) (by decide +kernel) (by decide +kernel) (by decide +kernel)
    (by first | exact .inl (by decide +kernel) | exact .inr (by decide +kernel)) (by rw [isSubtype_type]; kernel_rfl)
theorem slot_map_iter : Slot "map" "__iter__" "map.__iter__" :=
  .of (owner := "map") (n := "__iter__") (by rw [typeLookup_type, builtinLookup_eq_fast]; kernel_rfl) (by decide +kernel) (by decide +kernel) (by decide +kernel)
    (by first | exact .inl (by decide +kernel) | exact .inr (by decide +kernel)) (by rw [isSubtype_type]; kernel_rfl)
theorem slot_map_init : Slot "map" "__init__" "object.__init__" :=
  .of (owner := "object") (n := "__init__") (by rw [typeLookup_type, builtinLookup_eq_fast]; kernel_rfl) (by decide +kernel) (by decide +kernel) (by decide +kernel)
    (by first | exact .inl (by decide +kernel) | exact .inr (by decide +kernel)) (by rw [isSubtype_type]; kernel_rfl)
theorem entry_map_next : entryFor table "map.__next__" = some Builtin.«map.__next__» := entryFor_of_tree (by kernel_rfl)
theorem args_map_next_1 (a : Value) : argsOk "map.__next__" ⟨[a], []⟩ := by
  unfold argsOk; rw [signature?_of (id := "map.__next__") (n := ['_', '_', 't', 'x', 'e', 'n', '_', '_']) (o := ['p', 'a', 'm']) (by kernel_rfl) owner_map]; kernel_rfl
theorem args_map_iter_1 (a : Value) : argsOk "map.__iter__" ⟨[a], []⟩ := by
  unfold argsOk; rw [signature?_of (id := "map.__iter__") (n := ['_', '_', 'r', 'e', 't', 'i', '_', '_']) (o := ['p', 'a', 'm']) (by kernel_rfl) owner_map]; kernel_rfl
theorem entry_map_iter : entryFor table "map.__iter__" = some Builtin.«dict_keyiterator.__iter__» :=
  entryFor_alias (id' := "dict_keyiterator.__iter__") (by kernel_rfl) (by first | rfl | decide +kernel | (unfold String.splitOn; simp +decide [String.splitOnAux])) (by decide +kernel) (by kernel_rfl)
theorem mro_map : mroOf (.type "map") = pure [.type "map", .type "object"] := by rw [mroOf_type]; kernel_rfl
theorem lookup_map_new : typeLookup (.type "map") "__new__" = pure (some (.builtin "map.__new__")) := by rw [typeLookup_type, builtinLookup_eq_fast]; kernel_rfl
theorem called_map : TypeCalled "map" "map.__new__" "object.__init__" :=
  ⟨by decide +kernel, by decide +kernel, ⟨_, _, mro_map⟩, madeBy_type mro_map lookup_map_new (by decide +kernel), by decide +kernel, by rw [isSubtype_type]; kernel_rfl, slot_map_init⟩
theorem typeCall_map_2 (a b : Value) : checkTypeCall "map" ⟨[a, b], []⟩ = pure () := by kernel_rfl
theorem newCall_map_2 (a b : Value) : checkBuiltinCall "map.__new__" ⟨[.type "map", a, b], []⟩ = pure () := by kernel_rfl
theorem entry_map_new : entryFor table "map.__new__" = some Builtin.«map.__new__» := entryFor_of_tree (by kernel_rfl)
theorem map_no_len : typeLookup (.type "map") "__len__" = pure none := by rw [typeLookup_type, builtinLookup_eq_fast]; kernel_rfl
theorem map_no_hint : typeLookup (.type "map") "__length_hint__" = pure none := by rw [typeLookup_type, builtinLookup_eq_fast]; kernel_rfl
theorem sub_map : isSubtype (.type "map") (.type "map") = pure true := by rw [isSubtype_type]; kernel_rfl
end F

abbrev mapObj (t : Addr) (f : Value) : Obj := { cls := .type "map", data := .fields #[.ref t, f] }
abbrev tupObj (vs : Array Value) : Obj := { cls := .type "tuple", data := .seq vs }
abbrev itObj (l : Addr) (i : Nat) : Obj := { cls := .type "list_iterator", data := .fields #[.ref l, .int i 0] }

section
variable {prog : Program} {w : World} {A : Around} {E : Value → Shared → Prop} {s : Shared}
theorem pyIter_map {m t : Addr} {f : Value} {Q : Value → Shared → Prop} (hm : s.heap.get? m = some (mapObj t f)) (h : Q (.ref m) s) : wpAny (model prog w) A (pyIter (.ref m)) Q E s := by
  refine wpAny_pyIter_slot ⟨_, hm, rfl⟩ F.slot_map_iter (wpAny_call_entry F.slot_map_iter ⟨_, hm, rfl⟩ F.entry_map_iter ?_ (F.args_map_iter_1 _))
  exact wpAny_pure ⟨_, rfl, "map", _, ⟨_, hm, rfl⟩, F.slot_map_next.lookup, h⟩

theorem meets_map_list (f : Value) (l : Addr) (xs : Array Value) :
    Meets (Builtin.«map.__new__» ⟨[.type "map", f, .ref l], []⟩) (fun _ R s => s.heap.IsList l xs ∧
      R (.ok (.ret (.ref ((s.heap.push (itObj l 0)).push (tupObj #[.ref s.heap.objs.size])).objs.size))) { s with heap := ((s.heap.push (itObj l 0)).push (tupObj #[.ref s.heap.objs.size])).push (mapObj (s.heap.push (itObj l 0)).objs.size f) }) :=
  .of_wp fun prog w A R s h => by
    obtain ⟨hp, g, d, tk, os⟩ := s; obtain ⟨hl, h⟩ := h
    have hsub := F.sub_map
    have hL : Heap.IsList (Shared.heap ⟨hp, g, d, tk, os⟩) l xs := hl
    wp_walk using wpAny_pyIter_list hL
    exact ⟨_, rfl, h⟩
theorem meets_map_map (f : Value) (m : Addr) :
    Meets (Builtin.«map.__new__» ⟨[.type "map", f, .ref m], []⟩) (fun _ R s => (∃ t g, s.heap.get? m = some (mapObj t g)) ∧
      R (.ok (.ret (.ref (s.heap.push (tupObj #[.ref m])).objs.size))) { s with heap := (s.heap.push (tupObj #[.ref m])).push (mapObj s.heap.objs.size f) }) :=
  .of_wp fun prog w A R s h => by
    obtain ⟨hp, g, d, tk, os⟩ := s; obtain ⟨⟨t, f', hl⟩, h⟩ := h
    have hsub := F.sub_map
    have hL : (Shared.heap ⟨hp, g, d, tk, os⟩).get? m = some (mapObj t f') := hl
    wp_walk using pyIter_map hL
    exact ⟨_, rfl, h⟩
theorem call_map_list {f : Value} {l : Addr} {xs : Array Value} {Q : Value → Shared → Prop} (hl : s.heap.IsList l xs)
    (h : ∀ h' i t m, h'.get? i = some (itObj l 0) → h'.get? t = some (tupObj #[.ref i]) → h'.get? m = some (mapObj t f) → i = s.heap.objs.size → t = i + 1 → m = i + 2 → h'.objs.size = i + 3 → (∀ b o, s.heap.get? b = some o → h'.get? b = some o) → Q (.ref m) { s with heap := h' }) :
    wpAny (model prog w) A (call (.type "map") [f, .ref l]) Q E s := by
  refine callType_new F.called_map (by decide) (F.typeCall_map_2 _ _) (F.newCall_map_2 _ _) (fun obj => args_object_init_3 obj _ _) F.entry_map_new (meets_map_list f l xs) ⟨hl, ?_⟩
  refine ⟨⟨_, Heap.get?_push_size _ rfl, rfl⟩, h _ s.heap.objs.size (s.heap.push (itObj l 0)).objs.size _ ?_ ?_ (Heap.get?_push_size _ rfl) rfl (by simp [Heap.size_push]) (by simp [Heap.size_push]) (by simp [Heap.size_push]) fun b o e => Heap.get?_push_of_some _ (Heap.get?_push_of_some _ (Heap.get?_push_of_some _ e))⟩
  · exact Heap.get?_push_of_some _ (Heap.get?_push_of_some _ (Heap.get?_push_size _ rfl))
  · exact Heap.get?_push_of_some _ (Heap.get?_push_size _ rfl)
theorem call_map_map {f : Value} {m t : Addr} {f' : Value} {Q : Value → Shared → Prop} (hl : s.heap.get? m = some (mapObj t f'))
    (h : ∀ h' t' m', h'.get? t' = some (tupObj #[.ref m]) → h'.get? m' = some (mapObj t' f) → t' = s.heap.objs.size → m' = t' + 1 → h'.objs.size = t' + 2 → (∀ b o, s.heap.get? b = some o → h'.get? b = some o) → Q (.ref m') { s with heap := h' }) :
    wpAny (model prog w) A (call (.type "map") [f, .ref m]) Q E s := by
  refine callType_new F.called_map (by decide) (F.typeCall_map_2 _ _) (F.newCall_map_2 _ _) (fun obj => args_object_init_3 obj _ _) F.entry_map_new (meets_map_map f m) ⟨⟨t, f', hl⟩, ?_⟩
  refine ⟨⟨_, Heap.get?_push_size _ rfl, rfl⟩, h _ s.heap.objs.size _ ?_ (Heap.get?_push_size _ rfl) rfl (by simp [Heap.size_push]) (by simp [Heap.size_push]) fun b o e => Heap.get?_push_of_some _ (Heap.get?_push_of_some _ e)⟩
  exact Heap.get?_push_of_some _ (Heap.get?_push_size _ rfl)
end
end Mine
end

section
open PySem PySem.W PyProof.Rows PySem.Calls PySem.NumText
open Sem (wp)
set_option maxRecDepth 100000
namespace Mine
section
variable {prog : Program} {w : World} {A : Around} {E : Value → Shared → Prop} {s : Shared}

theorem callSpecialC_slot {M : Model} {self : Value} {T : String} {name : Str} {id : String} {args : List Value} {kw : List (Str × Value)}
    {Q : Option Value → Shared → Prop} (hT : s.TypeIs self T) (h : Slot T name id)
    (hc : wpC M A (call (.builtin id) (self :: args) kw) (fun v => Q (some v)) E s) : wpC M A (callSpecial? self name args kw) Q E s := by
  simp only [callSpecial?]
  refine wpC_bind (wpC_of (wpAny_specialOf hT h.lookup ?_))
  simp only [h.bind]
  exact wpC_holding (wpC_bind (wpC_pure (wpC_bind (wpC_mono hc (fun v s' h' => wpC_pure h') fun _ _ h' => h'))))
theorem call_entryC {T : String} {name : Str} {id : String} {b : Builtin} {self : Value} {rest : List Value} {Q : Value → Shared → Prop} (h : Slot T name id) (hT : s.TypeIs self T)
    (hb : entryFor table id = some b)
    (hc : wpC (model prog w) A.in1 (b ⟨self :: rest, []⟩) (fun fin s' => ∃ v, fin = .done (.ret v) ∧ Q v s') E s)
    (ha : argsOk id ⟨self :: rest, []⟩ := by rfl) :
    wpC (model prog w) A (call (.builtin id) (self :: rest)) Q E s := by
  refine wpC_call (codeC_call_builtin h.plain hb (h.check _ _ _ _ _ _ _ _ hT ha (wpC_mono hc (fun fin s' h' => ?_) fun _ _ h' => h')))
  obtain ⟨v, rfl, hv⟩ := h'; exact hv

theorem map_next {m t it : Addr} {f : Value} {Q : PySem.Fin → Shared → Prop} (hm : s.heap.get? m = some (mapObj t f)) (ht : s.heap.get? t = some (tupObj #[.ref it]))
    (h : wpC (model prog w) A (Builtin.SmallTypes.nextOf (.ref it)) (fun v s₁ => s₁.heap.get? m = some (mapObj t f) ∧ wpC (model prog w) A (call f [v]) (fun r s₂ => Q (.done (.ret r)) s₂) E s₁) E s) :
    wpC (model prog w) A (Builtin.«map.__next__» ⟨[.ref m], []⟩) Q E s := by
  unfold Builtin.«map.__next__»
  obtain ⟨hp, g, d, tk, os⟩ := s
  refine wpC_bind (wpC_of ?_)
  repeat wp_step
  refine wpC_bind (wpC_of (wpAny_field hm rfl (x := .ref t) rfl ?_))
  refine wpC_bind (wpC_of (wpAny_seqItems ht rfl ?_))
  simp only [← Array.forIn_toList, List.forIn_cons, List.forIn_nil]
  refine wpC_bind (wpC_bind (wpC_bind (wpC_holding (wpC_mono h (fun v s₁ h₁ => ?_) fun _ _ x => x))))
  refine wpC_pure (wpC_pure ?_)
  refine wpC_bind (wpC_of (wpAny_field h₁.1 rfl (x := f) rfl ?_))
  refine wpC_bind (wpC_holding (wpC_mono h₁.2 (fun r s₂ h₂ => ?_) fun _ _ x => x))
  exact wpC_bind (wpC_of (wpAny_letGo (wpC_pure h₂)))
end
end Mine
end

section
open PySem PySem.Sre
set_option maxRecDepth 100000
namespace Mine

def vcode : Array Nat := #[14, 4, 0, 1, 4294967295, 17, 0, 7, 14, 24, 10, 1, 4294967295, 13, 5, 22, 48, 57, 0, 1, 15, 17, 15, 13, 11, 9, 0, 26624, 2147483648, 0, 0, 0, 0, 0, 0, 15, 2, 0, 17, 1, 1]

def isD (c : Nat) : Bool := 48 ≤ c && c ≤ 57
def isP (c : Nat) : Bool := c == 43 || c == 45 || c == 46 || c == 95

theorem runFor_done {m : M} (h : m.outcome.isSome = true) : ∀ n, M.runFor n m = m
  | 0 => rfl
  | n + 1 => by rw [M.runFor, if_pos h]
theorem runFor_add (m : M) : ∀ a b, M.runFor (a + b) m = M.runFor b (M.runFor a m)
  | 0, b => by rw [Nat.zero_add]; rfl
  | a + 1, b => by
    have e : a + 1 + b = (a + b) + 1 := by omega
    rw [e, M.runFor, M.runFor]
    split
    · rename_i h; rw [runFor_done h]
    · rw [runFor_add m.step a b]
theorem runFor_one {m m' : M} (h : m.outcome = none) (e : m.step = m') : M.runFor 1 m = m' := by
  rw [M.runFor, h, if_neg (by exact Bool.false_ne_true), e]; rfl

/-- it goes on from m to m' -/
def Goes (k : Nat) (m m' : M) : Prop := ∃ n, n ≤ k ∧ M.runFor n m = m'
theorem Goes.refl (m : M) : Goes 0 m m := ⟨0, Nat.le_refl _, rfl⟩
theorem Goes.step {k : Nat} {m m₁ m' : M} (h : m.outcome = none) (e : m.step = m₁) (g : Goes k m₁ m') : Goes (k + 1) m m' := by
  obtain ⟨n, hn, q⟩ := g
  exact ⟨1 + n, by omega, by rw [runFor_add, runFor_one h e, q]⟩
theorem Goes.trans {j k : Nat} {m m₁ m' : M} (a : Goes j m m₁) (b : Goes k m₁ m') : Goes (j + k) m m' := by
  obtain ⟨n, hn, q⟩ := a
  obtain ⟨n', hn', q'⟩ := b
  exact ⟨n + n', by omega, by rw [runFor_add, q, q']⟩

theorem accepts_digit (c : Nat) (seen : Seen) : ∃ seen', accepts vcode 13 c seen = .ok (isD c, seen') := by
  cases h : isD c with
  | true =>
    refine ⟨seen.add 22, ?_⟩
    show inSet vcode c 41 15 true seen = _
    rw [inSet]
    show (if (decide (48 ≤ c) && decide (c ≤ 57)) = true then _ else _) = _
    rw [if_pos (by simpa [isD] using h)]
    rfl
  | false =>
    refine ⟨(seen.add 22).add 0, ?_⟩
    show inSet vcode c 41 15 true seen = _
    rw [inSet]
    show (if (decide (48 ≤ c) && decide (c ≤ 57)) = true then _ else _) = _
    rw [if_neg (by simpa [isD] using h)]
    rfl

theorem bits_27 (c : Nat) (h : c < 256) : (vcode.getD (25 + (1 + c / 32)) 0).testBit (c % 32) = isP c := by
  have key : ∀ c : _root_.Fin 256, (vcode.getD (25 + (1 + c.val / 32)) 0).testBit (c.val % 32) = isP c.val := by decide +kernel
  exact key ⟨c, h⟩
theorem accepts_punct (c : Nat) (seen : Seen) : ∃ seen', accepts vcode 23 c seen = .ok (isP c, seen') := by
  have go : inSet vcode c 41 25 true seen = if decide (c < 256) && (vcode.getD (25 + (1 + c / 32)) 0).testBit (c % 32) then .ok (true, seen.add 9) else inSet vcode c 40 34 true (seen.add 9) := by rw [inSet]; rfl
  cases h : isP c with
  | true =>
    have hc : c < 256 := by simp [isP] at h; omega
    refine ⟨seen.add 9, ?_⟩
    show inSet vcode c 41 25 true seen = _
    rw [go, bits_27 c hc, h]; simp [hc]
  | false =>
    refine ⟨(seen.add 9).add 0, ?_⟩
    show inSet vcode c 41 25 true seen = _
    rw [go]
    rw [if_neg]
    · rfl
    · simp only [Bool.and_eq_true, decide_eq_true_eq, not_and, Bool.not_eq_true]
      intro hc
      rw [bits_27 c hc, h]

/-- how many digits stand at p, n at most -/
def digitsAt (text : Array Nat) : (n p : Nat) → Nat
  | 0, _ => 0
  | n + 1, p => if isD (text.getD p 0) then digitsAt text n (p + 1) + 1 else 0
theorem run_digits (text : Array Nat) : ∀ n p found seen, ∃ seen', Sre.run vcode text 13 n p found seen = .ok (found + digitsAt text n p, seen')
  | 0, p, found, seen => ⟨seen, rfl⟩
  | n + 1, p, found, seen => by
    obtain ⟨s1, h1⟩ := accepts_digit (text.getD p 0) seen
    cases hd : isD (text.getD p 0) with
    | false =>
      refine ⟨s1, ?_⟩
      rw [Sre.run, h1, hd]
      simp only [digitsAt, hd]
      rfl
    | true =>
      obtain ⟨s2, h2⟩ := run_digits text n (p + 1) (found + 1) s1
      refine ⟨s2, ?_⟩
      rw [Sre.run, h1, hd]
      show Sre.run vcode text 13 n (p + 1) (found + 1) s1 = _
      rw [h2]
      simp only [digitsAt, hd, if_true]
      congr 2
      omega

/-- the machine of this search -/
def mc (text : Array Nat) (lim s pc pos handed : Nat) (ho : Bool) (marks : Array (Option Nat)) (lm li : Int) (fs : List Sre.Frame) (wt : Nat) (ans : Option Bool) (seen : Seen) : M :=
  { code := vcode, text, lim, start := s, lastStart := lim, pc, pos, handed, outermost := ho, marks, lastmark := lm, lastindex := li, frames := fs, weight := wt, answer := ans, seen }
def fStart (s : Nat) (ho : Bool) : Sre.Frame := { wait := .nextStart, pc := 5, pos := s, outermost := ho }
def fBranch (pc s : Nat) (ho : Bool) : Sre.Frame := { wait := .nextBranch, pc, pos := s, outermost := ho, kept := { lastmark := 0, lastindex := -1 } }
def fGive (p : Nat) (ho : Bool) (n : Int) : Sre.Frame := { wait := .giveBack, pc := 9, pos := p, outermost := ho, count := n, kept := { lastmark := 0, lastindex := -1 } }

theorem mark0 (marks : Array (Option Nat)) (h : marks.size = 2) (s : Nat) : ∃ b, marks.setIfInBounds 0 (some s) = #[some s, b] := by
  obtain ⟨l⟩ := marks
  match l, h with
  | [a, b], _ => exact ⟨b, rfl⟩
theorem mark1 (a b : Option Nat) (p : Nat) : Array.setIfInBounds #[a, b] 1 (some p) = #[a, some p] := rfl
section
variable {text : Array Nat} {lim s handed : Nat} {ho : Bool} {seen : Seen}

theorem st_mark0 {marks : Array (Option Nat)} {fs : List Sre.Frame} {wt : Nat} :
    (mc text lim s 5 s handed ho marks (-1) (-1) fs wt none seen).step = mc text lim s 7 s handed ho (marks.setIfInBounds 0 (some s)) 0 (-1) fs wt none (seen.add 17) := rfl
theorem st_branch {marks : Array (Option Nat)} {fs : List Sre.Frame} :
    (mc text lim s 7 s handed ho marks 0 (-1) fs 1 none seen).step = mc text lim s 9 s s ho marks 0 (-1) (fBranch 8 s ho :: fs) 2 none (seen.add 7) := rfl
theorem st_rep {marks : Array (Option Nat)} {fs : List Sre.Frame} : (mc text lim s 9 s s ho marks 0 (-1) fs 2 none seen).step =
    (if ((1 : Nat) : Int) > (lim : Int) - (s : Nat) then mc text lim s 9 s s ho marks 0 (-1) fs 2 (some false) (seen.add 24) else
      match Sre.run vcode text 13 (min 4294967295 ((lim : Int) - (s : Nat)).toNat) s 0 ((seen.add 24).add 13) with
      | .error why => (mc text lim s 9 s s ho marks 0 (-1) fs 2 none (seen.add 24)).stick why
      | .ok (n, seen') => if n < 1 then mc text lim s 9 s s ho marks 0 (-1) fs 2 (some false) seen' else mc text lim s 20 (s + n) (s + n) ho marks 0 (-1) (fGive (s + n) ho n :: fs) 3 none seen') := rfl

theorem st_rep_yes {marks : Array (Option Nat)} {fs : List Sre.Frame} (hl : lim < 4294967295) (h : s < lim) (hn : 0 < digitsAt text (lim - s) s) :
    ∃ seen', (mc text lim s 9 s s ho marks 0 (-1) fs 2 none seen).step = mc text lim s 20 (s + digitsAt text (lim - s) s) (s + digitsAt text (lim - s) s) ho marks 0 (-1) (fGive (s + digitsAt text (lim - s) s) ho (digitsAt text (lim - s) s) :: fs) 3 none seen' := by
  have e1 : min 4294967295 ((lim : Int) - (s : Nat)).toNat = lim - s := by omega
  obtain ⟨s1, h1⟩ := run_digits text (lim - s) s 0 ((seen.add 24).add 13)
  refine ⟨s1, ?_⟩
  rw [st_rep, if_neg (by omega), e1, h1]
  simp only [Nat.zero_add]
  rw [if_neg (by omega)]
theorem st_rep_no {marks : Array (Option Nat)} {fs : List Sre.Frame} (hl : lim < 4294967295) (hle : s ≤ lim) (h : s < lim → isD (text.getD s 0) = false) :
    ∃ seen', (mc text lim s 9 s s ho marks 0 (-1) fs 2 none seen).step = mc text lim s 9 s s ho marks 0 (-1) fs 2 (some false) seen' := by
  by_cases hs : s < lim
  · have e1 : min 4294967295 ((lim : Int) - (s : Nat)).toNat = lim - s := by omega
    obtain ⟨s1, h1⟩ := run_digits text (lim - s) s 0 ((seen.add 24).add 13)
    have e2 : digitsAt text (lim - s) s = 0 := by
      obtain ⟨k, hk⟩ : ∃ k, lim - s = k + 1 := ⟨lim - s - 1, by omega⟩
      rw [hk, digitsAt, h hs]; rfl
    refine ⟨s1, ?_⟩
    rw [st_rep, if_neg (by omega), e1, h1, e2]
    rfl
  · refine ⟨seen.add 24, ?_⟩
    rw [st_rep, if_pos (by omega)]

theorem st_jump {marks : Array (Option Nat)} {p : Nat} {fs : List Sre.Frame} {wt : Nat} : (mc text lim s 20 p p ho marks 0 (-1) fs wt none seen).step = mc text lim s 38 p p ho marks 0 (-1) fs wt none (seen.add 15) := rfl
theorem st_jump2 {marks : Array (Option Nat)} {p q : Nat} {fs : List Sre.Frame} {wt : Nat} : (mc text lim s 35 p q ho marks 0 (-1) fs wt none seen).step = mc text lim s 38 p q ho marks 0 (-1) fs wt none (seen.add 15) := rfl
theorem st_mark1 {b : Option Nat} {p q : Nat} {fs : List Sre.Frame} {wt : Nat} : (mc text lim s 38 p q ho #[some s, b] 0 (-1) fs wt none seen).step = mc text lim s 40 p q ho (Array.setIfInBounds #[some s, b] 1 (some p)) 1 1 fs wt none (seen.add 17) := by
  show M.mark { mc text lim s 38 p q ho #[some s, b] 0 (-1) fs wt none seen with seen := seen.add 17 } 1 = _
  unfold M.mark mc
  simp
  decide
theorem st_ok {marks : Array (Option Nat)} {p q : Nat} {fs : List Sre.Frame} {wt : Nat} : (mc text lim s 40 p q ho marks 1 1 fs wt none seen).step = mc text lim s 40 p p ho marks 1 1 fs wt (some true) (seen.add 1) := by
  cases ho <;> rfl
theorem st_give {marks : Array (Option Nat)} {p q : Nat} {n : Int} {fs : List Sre.Frame} : (mc text lim s 40 p q ho marks 1 1 (fGive p ho n :: fs) 3 (some true) seen).step = mc text lim s 9 p q ho marks 1 1 fs 2 (some true) seen := rfl
theorem st_br_yes {marks : Array (Option Nat)} {pc p q k : Nat} {fs : List Sre.Frame} : (mc text lim s pc p q ho marks 1 1 (fBranch k s ho :: fs) 2 (some true) seen).step = mc text lim s k s q ho marks 1 1 fs 1 (some true) seen := rfl
theorem st_start_yes {marks : Array (Option Nat)} {pc q : Nat} {ho' : Bool} : (mc text lim s pc s q ho marks 1 1 [fStart s ho'] 1 (some true) seen).step = mc text lim s 5 s q ho' marks 1 1 [] 0 (some true) seen := rfl
theorem st_end (yes : Bool) {marks : Array (Option Nat)} {pc p q : Nat} {lm li : Int} {ho' : Bool} {wt : Nat} : (mc text lim s pc p q ho' marks lm li [] wt (some yes) seen).step = { mc text lim s pc p q ho' marks lm li [] wt (some yes) seen with outcome := some (if yes then .matched else .failed) } := rfl
theorem st_br_no1 {marks : Array (Option Nat)} {p q : Nat} {fs : List Sre.Frame} : (mc text lim s 9 p q ho marks 0 (-1) (fBranch 8 s ho :: fs) 2 (some false) seen).step = mc text lim s 23 s s ho marks 0 (-1) (fBranch 22 s ho :: fs) 2 none seen := rfl
theorem st_br_no2 {marks : Array (Option Nat)} {p q : Nat} {fs : List Sre.Frame} : (mc text lim s 23 p q ho marks 0 (-1) (fBranch 22 s ho :: fs) 2 (some false) seen).step = mc text lim s 22 s q ho marks 0 (-1) fs 1 (some false) seen := rfl
theorem st_in {marks : Array (Option Nat)} {fs : List Sre.Frame} : (mc text lim s 23 s s ho marks 0 (-1) fs 2 none seen).step =
    (if s ≥ lim then mc text lim s 23 s s ho marks 0 (-1) fs 2 (some false) (seen.add 13) else
      match accepts vcode 23 (text.getD s 0) (seen.add 13) with
      | .error why => (mc text lim s 23 s s ho marks 0 (-1) fs 2 none (seen.add 13)).stick why
      | .ok (false, seen') => mc text lim s 23 s s ho marks 0 (-1) fs 2 (some false) seen'
      | .ok (true, seen') => mc text lim s 35 (s + 1) s ho marks 0 (-1) fs 2 none seen') := rfl
theorem st_in_yes {marks : Array (Option Nat)} {fs : List Sre.Frame} (h : s < lim) (hp : isP (text.getD s 0) = true) : ∃ seen', (mc text lim s 23 s s ho marks 0 (-1) fs 2 none seen).step = mc text lim s 35 (s + 1) s ho marks 0 (-1) fs 2 none seen' := by
  obtain ⟨s1, h1⟩ := accepts_punct (text.getD s 0) (seen.add 13)
  refine ⟨s1, ?_⟩
  rw [st_in, if_neg (by omega), h1, hp]
theorem st_in_no {marks : Array (Option Nat)} {fs : List Sre.Frame} (h : s < lim → isP (text.getD s 0) = false) : ∃ seen', (mc text lim s 23 s s ho marks 0 (-1) fs 2 none seen).step = mc text lim s 23 s s ho marks 0 (-1) fs 2 (some false) seen' := by
  by_cases hs : s < lim
  · obtain ⟨s1, h1⟩ := accepts_punct (text.getD s 0) (seen.add 13)
    refine ⟨s1, ?_⟩
    rw [st_in, if_neg (by omega), h1, h hs]
  · refine ⟨seen.add 13, ?_⟩
    rw [st_in, if_pos (by omega)]
theorem st_start_no {marks : Array (Option Nat)} {q : Nat} {ho' : Bool} (h : s < lim) : (mc text lim s 22 s q ho marks 0 (-1) [fStart s ho'] 1 (some false) seen).step = mc text lim (s + 1) 5 (s + 1) (s + 1) false marks (-1) (-1) [fStart (s + 1) false] 1 none seen := by
  have e : (mc text lim s 22 s q ho marks 0 (-1) [fStart s ho'] 1 (some false) seen).step = if s < lim then mc text lim (s + 1) 5 (s + 1) (s + 1) false marks (-1) (-1) [fStart (s + 1) false] 1 none seen else mc text lim s 5 s q ho' marks 0 (-1) [] 0 (some false) seen := rfl
  rw [e, if_pos h]
theorem st_start_end {marks : Array (Option Nat)} {q : Nat} {ho' : Bool} (h : ¬ s < lim) : (mc text lim s 22 s q ho marks 0 (-1) [fStart s ho'] 1 (some false) seen).step = mc text lim s 5 s q ho' marks 0 (-1) [] 0 (some false) seen := by
  have e : (mc text lim s 22 s q ho marks 0 (-1) [fStart s ho'] 1 (some false) seen).step = if s < lim then mc text lim (s + 1) 5 (s + 1) (s + 1) false marks (-1) (-1) [fStart (s + 1) false] 1 none seen else mc text lim s 5 s q ho' marks 0 (-1) [] 0 (some false) seen := rfl
  rw [e, if_neg h]

def ended (m : M) (s e : Nat) : Prop := m.outcome = some .matched ∧ m.start = s ∧ m.handed = e ∧ m.marks = #[some s, some e] ∧ m.lastmark = 1

theorem try_digit {marks : Array (Option Nat)} {ho' : Bool} (hm : marks.size = 2) (hl : lim < 4294967295) (h : s < lim) (hd : isD (text.getD s 0) = true) :
    ∃ m', Goes 20 (mc text lim s 5 s handed ho marks (-1) (-1) [fStart s ho'] 1 none seen) m' ∧ ended m' s (s + digitsAt text (lim - s) s) := by
  have hn : 0 < digitsAt text (lim - s) s := by
    obtain ⟨k, hk⟩ : ∃ k, lim - s = k + 1 := ⟨lim - s - 1, by omega⟩
    rw [hk, digitsAt, hd]; simp
  obtain ⟨b, hb⟩ := mark0 marks hm s
  obtain ⟨s1, h1⟩ := st_rep_yes (text := text) (ho := ho) (seen := (seen.add 17).add 7) (marks := #[some s, b]) (fs := fBranch 8 s ho :: [fStart s ho']) hl h hn
  refine ⟨_, Goes.step rfl st_mark0 (Goes.step rfl (by rw [hb]; exact st_branch) (Goes.step rfl h1 (Goes.step rfl st_jump (Goes.step rfl st_mark1 (Goes.step rfl st_ok (Goes.step rfl st_give (Goes.step rfl st_br_yes (Goes.step rfl st_start_yes (Goes.step rfl (st_end true) (k := 10) ⟨0, by omega, rfl⟩))))))))), rfl, rfl, rfl, mark1 .., rfl⟩
theorem try_punct {marks : Array (Option Nat)} {ho' : Bool} (hm : marks.size = 2) (hl : lim < 4294967295) (h : s < lim) (hd : isD (text.getD s 0) = false) (hp : isP (text.getD s 0) = true) :
    ∃ m', Goes 20 (mc text lim s 5 s handed ho marks (-1) (-1) [fStart s ho'] 1 none seen) m' ∧ ended m' s (s + 1) := by
  obtain ⟨b, hb⟩ := mark0 marks hm s
  obtain ⟨s1, h1⟩ := st_rep_no (text := text) (ho := ho) (seen := (seen.add 17).add 7) (marks := #[some s, b]) (fs := fBranch 8 s ho :: [fStart s ho']) hl (Nat.le_of_lt h) (fun _ => hd)
  obtain ⟨s2, h2⟩ := st_in_yes (text := text) (ho := ho) (seen := s1) (marks := #[some s, b]) (fs := fBranch 22 s ho :: [fStart s ho']) h hp
  refine ⟨_, Goes.step rfl st_mark0 (Goes.step rfl (by rw [hb]; exact st_branch) (Goes.step rfl h1 (Goes.step rfl st_br_no1 (Goes.step rfl h2 (Goes.step rfl st_jump2 (Goes.step rfl st_mark1 (Goes.step rfl st_ok (Goes.step rfl st_br_yes (Goes.step rfl st_start_yes (Goes.step rfl (st_end true) (k := 9) ⟨0, by omega, rfl⟩)))))))))), rfl, rfl, rfl, mark1 .., rfl⟩
theorem try_none {marks : Array (Option Nat)} {ho' : Bool} (hm : marks.size = 2) (hl : lim < 4294967295) (hle : s ≤ lim) (hd : s < lim → isD (text.getD s 0) = false) (hp : s < lim → isP (text.getD s 0) = false) :
    ∃ b seen' q, Goes 10 (mc text lim s 5 s handed ho marks (-1) (-1) [fStart s ho'] 1 none seen) (mc text lim s 22 s q ho #[some s, b] 0 (-1) [fStart s ho'] 1 (some false) seen') := by
  obtain ⟨b, hb⟩ := mark0 marks hm s
  obtain ⟨s1, h1⟩ := st_rep_no (text := text) (ho := ho) (seen := (seen.add 17).add 7) (marks := #[some s, b]) (fs := fBranch 8 s ho :: [fStart s ho']) hl hle hd
  obtain ⟨s2, h2⟩ := st_in_no (text := text) (ho := ho) (seen := s1) (marks := #[some s, b]) (fs := fBranch 22 s ho :: [fStart s ho']) hp
  exact ⟨b, s2, s, Goes.step rfl st_mark0 (Goes.step rfl (by rw [hb]; exact st_branch) (Goes.step rfl h1 (Goes.step rfl st_br_no1 (Goes.step rfl h2 (Goes.step rfl st_br_no2 (k := 4) ⟨0, by omega, rfl⟩)))))⟩
end

/-- the first place from s on that holds a digit or one of the four marks -/
def nextAt (text : Array Nat) (lim : Nat) : Nat → Nat → Option Nat
  | 0, _ => none
  | k + 1, s => if isD (text.getD s 0) || isP (text.getD s 0) then some s else nextAt text lim k (s + 1)
def endAt (text : Array Nat) (lim s : Nat) : Nat := if isD (text.getD s 0) then s + digitsAt text (lim - s) s else s + 1

theorem search_from {text : Array Nat} {lim : Nat} (hl : lim < 4294967295) : ∀ (k s handed : Nat) (ho ho' : Bool) (marks : Array (Option Nat)) (seen : Seen), s + k = lim → marks.size = 2 →
    ∃ m', Goes (20 * (k + 2)) (mc text lim s 5 s handed ho marks (-1) (-1) [fStart s ho'] 1 none seen) m' ∧ match nextAt text lim k s with
      | none => m'.outcome = some .failed
      | some p => ended m' p (endAt text lim p)
  | 0, s, handed, ho, ho', marks, seen, hk, hm => by
    obtain ⟨b, s1, q, g⟩ := try_none (text := text) (lim := lim) (s := s) (handed := handed) (ho := ho) (ho' := ho') (seen := seen) hm hl (by omega) (fun h => absurd h (by omega)) (fun h => absurd h (by omega))
    obtain ⟨n, hn, e⟩ := g.trans (Goes.step rfl (st_start_end (by omega)) (Goes.step rfl (st_end false) (k := 0) ⟨0, by omega, rfl⟩))
    exact ⟨_, ⟨n, by omega, e⟩, rfl⟩
  | k + 1, s, handed, ho, ho', marks, seen, hk, hm => by
    have hs : s < lim := by omega
    unfold nextAt
    cases hd : isD (text.getD s 0) with
    | true =>
      obtain ⟨m', ⟨n, hn, e⟩, q⟩ := try_digit (text := text) (lim := lim) (s := s) (handed := handed) (ho := ho) (ho' := ho') (seen := seen) hm hl hs hd
      exact ⟨m', ⟨n, by omega, e⟩, by show ended m' s (endAt text lim s); rw [endAt, hd]; exact q⟩
    | false =>
      cases hp : isP (text.getD s 0) with
      | true =>
        obtain ⟨m', ⟨n, hn, e⟩, q⟩ := try_punct (text := text) (lim := lim) (s := s) (handed := handed) (ho := ho) (ho' := ho') (seen := seen) hm hl hs hd hp
        exact ⟨m', ⟨n, by omega, e⟩, by show ended m' s (endAt text lim s); rw [endAt, hd]; exact q⟩
      | false =>
        obtain ⟨b, s1, q, g⟩ := try_none (text := text) (lim := lim) (s := s) (handed := handed) (ho := ho) (ho' := ho') (seen := seen) hm hl (by omega) (fun _ => hd) (fun _ => hp)
        obtain ⟨m', g', r⟩ := search_from hl k (s + 1) (s + 1) false false #[some s, b] s1 (by omega) rfl
        refine ⟨m', ?_, by simpa using r⟩
        obtain ⟨n, hn, e⟩ := (g.trans (Goes.step rfl (st_start_no hs) (k := 0) ⟨0, by omega, rfl⟩)).trans g'
        exact ⟨n, by omega, e⟩

theorem search_all {text : Array Nat} {lim pos : Nat} (hl : lim < 4294967295) (hp : pos ≤ lim) :
    ∃ m', Goes (20 * (lim - pos + 2)) (Sre.forSearch vcode text 1 pos lim false) m' ∧ match nextAt text lim (lim - pos) pos with
      | none => m'.outcome = some .failed
      | some p => ended m' p (endAt text lim p) := by
  by_cases h : pos < lim
  · obtain ⟨m', g, r⟩ := search_from (text := text) hl (lim - pos) pos pos true true #[none, none] (({} : Seen).add 14) (by omega) rfl
    refine ⟨m', ?_, r⟩
    have e : Sre.forSearch vcode text 1 pos lim false = mc text lim pos 5 pos pos true #[none, none] (-1) (-1) [fStart pos true] 1 none (({} : Seen).add 14) := by
      unfold Sre.forSearch
      rw [if_neg (by simp only [Bool.or_eq_true, decide_eq_true_eq]; show ¬ (pos > lim ∨ lim - pos < 1); omega)]
      rfl
    rw [e]; exact g
  · have e : Sre.forSearch vcode text 1 pos lim false = { mc text lim pos 5 pos pos true #[none, none] (-1) (-1) [] 0 (some false) (({} : Seen).add 14) with lastStart := 0 } := by
      unfold Sre.forSearch
      rw [if_pos (by simp only [Bool.or_eq_true, decide_eq_true_eq]; show (pos > lim ∨ lim - pos < 1); omega)]
      rfl
    have hk : lim - pos = 0 := by omega
    rw [e, hk]
    exact ⟨_, Goes.step rfl rfl (k := 39) ⟨0, by omega, rfl⟩, rfl⟩
end Mine
end

section
open PySem PySem.Sre PySem.Builtin.Re
open AutoSeq1 (wpAny_loadPart')
set_option maxRecDepth 100000
namespace Mine
section
variable {M : Model} {A : Around} {E : Value → Shared → Prop} {s : Shared}

theorem drive_goes {m m' : Sre.M} : ∀ (turns k : Nat), (∃ n, n ≤ 4 * k ∧ Sre.M.runFor n m = m') → m'.outcome.isSome = true → k < turns → ∀ {Q : Sre.M → Shared → Prop}, Q m' s → wpAny M A (reDrive turns m) Q E s
  | 0, k, _, _, h, _, _ => absurd h (Nat.not_lt_zero _)
  | turns + 1, k, ⟨n, hn, e⟩, ho, hk, Q, hq => by
    unfold reDrive
    by_cases hm : (Sre.M.runFor reTurnSteps m).outcome.isSome = true
    · have e4 : Sre.M.runFor reTurnSteps m = m' := by
        by_cases h4 : n ≤ 4
        · have : reTurnSteps = n + (4 - n) := by show 4 = _; omega
          rw [this, runFor_add, e, runFor_done ho]
        · have h : n = 4 + (n - 4) := by omega
          rw [h, runFor_add] at e
          exact (runFor_done hm (n - 4)).symm.trans e
      dsimp only
      rw [if_pos hm, e4]
      exact wpAny_pure hq
    · dsimp only
      rw [if_neg hm]
      refine wpAny_bind (wpAny_rule ?_)
      have h4 : ¬ n ≤ 4 := fun h4 => hm (by
        have : reTurnSteps = n + (4 - n) := by show 4 = _; omega
        rw [this, runFor_add, e, runFor_done ho]; exact ho)
      obtain ⟨k', rfl⟩ : ∃ k', k = k' + 1 := ⟨k - 1, by omega⟩
      refine drive_goes turns k' ⟨n - 4, by omega, ?_⟩ ho (by omega) hq
      rw [← e]
      have h : n = 4 + (n - 4) := by omega
      conv => rhs; rw [h]
      rw [runFor_add]; rfl

theorem rules_only (m : Sre.M) (l : List Nat) {Q : PUnit → Shared → Prop} (h : Q ⟨⟩ s) :
    wpAny M A (forIn l PUnit.unit fun i (_ : PUnit) => if m.seen.has i = true then (do rule (Sre.names.getD i ""); pure (ForInStep.yield PUnit.unit)) else pure (ForInStep.yield PUnit.unit)) Q E s := by
  induction l with
  | nil => exact wpAny_pure h
  | cons i l ih =>
    rw [List.forIn_cons]
    refine wpAny_bind ?_
    split
    · exact wpAny_bind (wpAny_rule (wpAny_pure ih))
    · exact wpAny_pure ih
theorem toEnd_some {m m' : Sre.M} {k : Nat} (g : Goes (4 * k) m m') (ho : m'.outcome = some .matched) (hk : k < 2 ^ 64) {Q : Option Sre.M → Shared → Prop} (h : Q (some m') s) : wpAny M A (reRunToEnd m) Q E s := by
  unfold reRunToEnd
  refine wpAny_bind (drive_goes (2 ^ 64) k g (by rw [ho]; rfl) hk ?_)
  refine wpAny_bind (rules_only m' _ ?_)
  rw [ho]
  exact wpAny_pure h
theorem toEnd_none {m m' : Sre.M} {k : Nat} (g : Goes (4 * k) m m') (ho : m'.outcome = some .failed) (hk : k < 2 ^ 64) {Q : Option Sre.M → Shared → Prop} (h : Q none s) : wpAny M A (reRunToEnd m) Q E s := by
  unfold reRunToEnd
  refine wpAny_bind (drive_goes (2 ^ 64) k g (by rw [ho]; rfl) hk ?_)
  refine wpAny_bind (rules_only m' _ ?_)
  rw [ho]
  exact wpAny_pure h
end

theorem digitsAt_le (text : Array Nat) : ∀ n p, digitsAt text n p ≤ n
  | 0, _ => Nat.le_refl _
  | n + 1, p => by
    unfold digitsAt
    split
    · exact Nat.succ_le_succ (digitsAt_le text n (p + 1))
    · exact Nat.zero_le _
theorem nextAt_in {text : Array Nat} {lim : Nat} : ∀ {k s p : Nat}, s + k = lim → nextAt text lim k s = some p → s ≤ p ∧ p < lim ∧ (isD (text.getD p 0) || isP (text.getD p 0)) = true
  | 0, s, p, _, h => by simp [nextAt] at h
  | k + 1, s, p, hk, h => by
    unfold nextAt at h
    split at h
    · rename_i hc
      cases h
      exact ⟨Nat.le_refl _, by omega, hc⟩
    · obtain ⟨h1, h2, h3⟩ := nextAt_in (by omega) h
      exact ⟨by omega, h2, h3⟩
theorem endAt_in {text : Array Nat} {lim p : Nat} (h : p < lim) : p < endAt text lim p ∧ endAt text lim p ≤ lim := by
  unfold endAt
  split
  · rename_i hd
    have h1 := digitsAt_le text (lim - p) p
    have h2 : 0 < digitsAt text (lim - p) p := by
      obtain ⟨k, hk⟩ : ∃ k, lim - p = k + 1 := ⟨lim - p - 1, by omega⟩
      rw [hk, digitsAt, hd]; simp
    omega
  · omega

/-- the pieces of a split, from last on: what lies ahead of a find, the find, .., the rest -/
def pieces (text : Array Nat) (lim : Nat) : Nat → Nat → List Str
  | 0, last => [⟨text.extract last lim⟩]
  | k + 1, last => match nextAt text lim (lim - last) last with
    | none => [⟨text.extract last lim⟩]
    | some p => ⟨text.extract last p⟩ :: ⟨text.extract p (endAt text lim p)⟩ :: pieces text lim k (endAt text lim p)

open PyProof.Rows in
theorem strsAre_snoc {vs : List Value} {xs : List Str} (h : StrsAre vs xs) (x : Str) (t : Tok) : StrsAre (vs ++ [.str x t]) (xs ++ [x]) := by
  induction h with
  | nil => exact .cons x t .nil
  | cons y u _ ih => exact .cons y u ih

open PyProof.Rows in
theorem strsAre_length {vs : List Value} {xs : List Str} (h : StrsAre vs xs) : vs.length = xs.length := by
  induction h with
  | nil => rfl
  | cons _ _ _ ih => rw [List.length_cons, List.length_cons, ih]
theorem pieces_len (text : Array Nat) (lim : Nat) : ∀ k last, (pieces text lim k last).length ≤ 2 * k + 1
  | 0, _ => Nat.le_refl _
  | k + 1, last => by
    unfold pieces
    split
    · simp
    · simp only [List.length_cons]
      have := pieces_len text lim k
      rename_i p _
      have := this (endAt text lim p)
      omega
section
variable {M : Model} {A : Around} {E : Value → Shared → Prop} {s : Shared}
theorem reSlice_0 {text : Array Nat} {b e : Nat} {Q : Value → Shared → Prop} (hs : text.size ≤ sizeLine) (h : Q (.str ⟨text.extract b e⟩ s.toks) { s with toks := s.toks + 1 }) : wpAny M A (reSlice text 0 b e) Q E s := by
  show wpAny M A (mkStr ⟨text.extract b e⟩) Q E s
  refine wpAny_mkStr h ?_
  show (text.extract b e).size ≤ sizeLine
  rw [Array.size_extract]; omega
end

def PatAt (h : Heap) (p : Addr) : Prop := ∃ o pat t1 t2 t3 c t4 oc items n, h.get? p = some o ∧ o.cls = .type "re.Pattern" ∧ o.data = .fields #[pat, .int 32 t1, .int 1 t2, .none, t3, .ref c, .int 0 t4] ∧
  h.get? c = some oc ∧ oc.data = .seq items n ∧ (items.map reRawOf).map (·.toNat) = vcode

open PyProof.Rows in
theorem split_meets (p : Addr) (x : Str) (t : Tok) (hx : x.length < 100000) : Meets (Builtin.«re.Pattern.split» ⟨[.ref p, .str x t], []⟩)
   (fun A R s => PatAt s.heap p ∧ ∀ vs tk, StrsAre vs (pieces x.cps x.cps.size (x.cps.size + 1) 0) → R (.ok (.ret (.ref s.heap.objs.size))) { s with heap := s.heap.push { cls := .type "list", data := .seq vs.toArray }, toks := tk }) := by
  intro prog w A R s h
  obtain ⟨⟨⟨cls, dd, data, sl⟩, pat, t1, t2, t3, c, t4, oc, items, n, ho, hc, hd, hoc, hds, hcode⟩, h⟩ := h
  simp only at hc hd
  subst hc hd
  have hxs : x.cps.size < 100000 := hx
  generalize hW : pieces x.cps x.cps.size (x.cps.size + 1) 0 = W at h
  wp_walk
  rw [hds]
  refine wpAny_pure (wpAny_pure (wpAny_pure ?_))
  have hg : reRawNat (#[pat, Value.int 32 t1, Value.int 1 t2, Value.none, t3, Value.ref c, Value.int 0 t4].getD 2 Value.none) = 1 := rfl
  rw [Option.getD_some, hcode, hg]
  dsimp only
  refine wpAny_bind (wpAny_forIn_list _ (fun rest st s' => ∃ tk vs done, s' = { s with toks := tk } ∧ st.1 = List.toArray vs ∧ StrsAre vs done ∧ st.2.2.1 ≤ x.cps.size ∧
    ((st.2.2.2.2.2 = false ∧ st.2.1 = st.2.2.1 ∧ st.2.2.2.1 = false ∧ ∃ k, x.cps.size - st.2.2.1 + 1 ≤ k ∧ k ≤ rest.length ∧ done ++ pieces x.cps x.cps.size k st.2.2.1 = W) ∨
     (st.2.2.2.2.2 = true ∧ done ++ [⟨x.cps.extract st.2.2.1 x.cps.size⟩] = W))) _ ?turn ?fin _ _ ?start)
  case start =>
    refine ⟨s.toks, [], [], rfl, rfl, .nil, Nat.zero_le _, .inl ⟨rfl, rfl, rfl, x.cps.size + 1, by omega, ?_, hW⟩⟩
    rw [List.length_range]
    show x.cps.size + 1 ≤ 2 * x.cps.size + 3
    omega
  case fin =>
    rintro ⟨out, start, last, must, m, over⟩ s' ⟨tk, vs, done, rfl, hout, hvs, hle, hor⟩
    dsimp only at hout hle hor ⊢
    rcases hor with ⟨_, _, _, k, h1, h2, _⟩ | ⟨hov, hall⟩
    · exact absurd h2 (by simp only [List.length_nil]; omega)
    · subst hov
      refine wpAny_bind (reSlice_0 (Nat.le_trans (Nat.le_of_lt hxs) (by decide)) ?_)
      dsimp only
      have hvs' := strsAre_snoc hvs ⟨x.cps.extract last x.cps.size⟩ tk
      rw [hall] at hvs'
      refine wpAny_bind (wpAny_newObj_type ?_ ?_)
      · refine wpAny_pure ?_
        have e : ((out.push (Value.str ⟨x.cps.extract last x.cps.size⟩ tk)).toList).toArray = (vs ++ [Value.str ⟨x.cps.extract last x.cps.size⟩ tk]).toArray := by rw [hout]; simp
        rw [e]
        exact h _ _ hvs'
      · show (List.toArray (out.push _).toList).size ≤ sizeLine
        have hlen : vs.length < 400000 := by
          have l1 := strsAre_length hvs'
          have l2 := pieces_len x.cps x.cps.size (x.cps.size + 1) 0
          rw [hW] at l2
          rw [List.length_append] at l1
          omega
        rw [hout]
        simp only [List.push_toArray, List.size_toArray, List.length_append, List.length_cons, List.length_nil]
        show vs.length + 1 ≤ 16777216
        omega
  case turn =>
    rintro i rest ⟨out, start, last, must, m, over⟩ s' ⟨tk, vs, done, rfl, hout, hvs, hle, hor⟩
    dsimp only at hout hle hor ⊢
    rcases hor with ⟨hov, hst, hmu, k, h1, h2, hall⟩ | ⟨hov, hall⟩
    · subst hov hst hmu
      rw [if_pos (show (!false) = true from rfl)]
      obtain ⟨k', rfl⟩ : ∃ k', k = k' + 1 := ⟨k - 1, by omega⟩
      obtain ⟨m', g, hr⟩ := search_all (text := x.cps) (lim := x.cps.size) (pos := start) (by omega) hle
      have g4 : Goes (4 * (5 * (x.cps.size - start + 2))) (Sre.forSearch vcode x.cps 1 start x.cps.size false) m' := by
        obtain ⟨n, hn, e⟩ := g
        exact ⟨n, by omega, e⟩
      rw [if_neg (show ¬ ((0 : Int) != 0 && decide (m ≥ 0)) = true by simp)]
      unfold pieces at hall
      cases hna : nextAt x.cps x.cps.size (x.cps.size - start) start with
      | none =>
        rw [hna] at hr hall
        refine wpAny_bind (toEnd_none g4 hr (by omega) ?_)
        exact wpAny_pure ⟨tk, vs, done, rfl, hout, hvs, hle, .inr ⟨rfl, hall⟩⟩
      | some p =>
        rw [hna] at hr hall
        obtain ⟨e1, e2, e3, e4, e5⟩ := hr
        obtain ⟨q1, q2, _⟩ := nextAt_in (by omega) hna
        obtain ⟨q3, q4⟩ := endAt_in (text := x.cps) q2
        refine wpAny_bind (toEnd_some g4 e1 (by omega) ?_)
        dsimp only
        rw [e2, e3]
        refine wpAny_bind (reSlice_0 (Nat.le_trans (Nat.le_of_lt hxs) (by decide)) ?_)
        refine wpAny_bind ?_
        show wpAny _ _ (forIn [0] _ _) _ _ _
        rw [List.forIn_cons]
        refine wpAny_bind (wpAny_bind ?_)
        unfold reMachineGroup
        rw [e5, e4]
        rw [if_neg (by decide : ¬ ((2 * (0 + 1 - 1) : Nat) : Int) ≥ 1)]
        show wpAny _ _ (if endAt x.cps x.cps.size p < p then reWrongSpan else reSlice x.cps 0 p (endAt x.cps x.cps.size p)) _ _ _
        rw [if_neg (by omega)]
        refine reSlice_0 (Nat.le_trans (Nat.le_of_lt hxs) (by decide)) ?_
        refine wpAny_pure (wpAny_pure (wpAny_pure ?_))
        refine ⟨tk + 1 + 1, vs ++ [.str ⟨x.cps.extract start p⟩ tk] ++ [.str ⟨x.cps.extract p (endAt x.cps x.cps.size p)⟩ (tk + 1)], done ++ [⟨x.cps.extract start p⟩] ++ [⟨x.cps.extract p (endAt x.cps x.cps.size p)⟩], rfl, ?_, strsAre_snoc (strsAre_snoc hvs _ _) _ _, q4, .inl ⟨rfl, rfl, ?_, k', ?_, ?_, ?_⟩⟩
        · rw [hout]; simp
        · show (endAt x.cps x.cps.size p == p) = false
          simp; omega
        · show x.cps.size - endAt x.cps x.cps.size p + 1 ≤ k'
          omega
        · rw [List.length_cons] at h2; omega
        · rw [← hall]; simp
    · subst hov
      rw [if_neg (show ¬ (!true) = true from Bool.false_ne_true)]
      exact wpAny_pure ⟨tk, vs, done, rfl, hout, hvs, hle, .inr ⟨rfl, hall⟩⟩
end Mine
end

section
open PySem PySem.W PyProof.Rows PySem.Calls PySem.NumText
open Sem (wp)
set_option maxRecDepth 100000
namespace Mine
structure Num (x : Str) (n : Int) : Prop where
  reads : PySem.intText? x = some n
  short : x.length ≤ 640
  small : n.natAbs.log2 < 1920
structure Bad (x : Str) : Prop where
  short : (numSeenOf x).length ≤ 640
  no : (int_private% "readNumeral") 0 10 (numSeenOf x) = (int_private% "Numeral.invalid")
  shown : (reprText x).length ≤ 1000
def numStr (x : Str) : Str := match PySem.intText? x with | some n => Str.ofString (toString n) | none => x
theorem Num.str {x : Str} {n : Int} (h : Num x n) : numStr x = Str.ofString (toString n) := by unfold numStr; rw [h.reads]

/-- an exception has come up; what lay there still does, but the iterator -/
structure Up (it : Addr) (h h' : Heap) (e : Addr) (cls : String) : Prop where
  keep : Heap.ExtBut it h h'
  new : h.get? e = none
  there : ∃ ob t, h'.get? e = some ob ∧ ob.cls = .type cls ∧ ob.data = .fields #[t, .none, .none, .none, .bool false, .none]
structure End (it : Addr) (h h' : Heap) (e : Value) : Prop where
  keep : Heap.ExtBut it h h'
  stop : ∃ a o, e = .ref a ∧ h'.get? a = some o ∧ o.cls = .type "StopIteration"

section
variable {prog : Program} {w : World} {A : Around} {E : Value → Shared → Prop} {s : Shared}

theorem nextOf_item {it l : Addr} {i : Nat} {items} {x : Value} {Q : Value → Shared → Prop} (hit : s.heap.IsListIter it l i)
    (hl : s.heap.IsList l items) (hx : items[i]? = some x)
    (hQ : ∀ h', h'.IsListIter it l (i + 1) → Heap.SameBut it s.heap h' → Q x { s with heap := h' }) :
    wpAny (model prog w) A (Builtin.SmallTypes.nextOf (.ref it)) Q E s := by
  obtain ⟨o, ho, hc, hd⟩ := id hit
  obtain ⟨ol, hol, _, nl, hdl⟩ := hl
  unfold Builtin.SmallTypes.nextOf
  refine wpAny_bind (wpAny_callSpecial?_slot (name := Str.ofString "__next__") hit.typeIs slot_listiter_next
    (wpAny_call_entry slot_listiter_next hit.typeIs entry_listiter_next ?_ (args_listiter_next _)))
  show wpAny _ _ (field (.ref it) 0 >>= _) _ _ s
  refine wpAny_bind (wpAny_field ho hd (x := .ref l) rfl ?_)
  show wpAny _ _ (if (Value.ref l == Value.none) = true then _ else _) _ _ s
  rw [if_neg (show ¬ ((Value.ref l == Value.none) = true) from Bool.false_ne_true)]
  show wpAny _ _ (field (.ref it) 1 >>= _) _ _ s
  refine wpAny_bind (wpAny_field ho hd (x := .int i 0) rfl ?_)
  show wpAny _ _ (seqItems? (.ref l) >>= _) _ _ s
  refine wpAny_bind (wpAny_seqItems hol hdl ?_)
  simp only [Int.toNat_natCast, hx]
  refine wpAny_bind (wpAny_setField ho hd (by simp) (wpAny_pure ⟨x, rfl, wpAny_pure (hQ _ ?_ (Heap.SameBut.update ..))⟩))
  exact ⟨_, Heap.get?_update_self _ ho (Obj.isFreed_of_fields (Obj.data_mapFields hd _)), (Obj.cls_mapFields ..).trans hc, by
    rw [Obj.data_mapFields hd]; simp [rawInt]⟩
theorem nextOf_end {it l : Addr} {i : Nat} {items} {Q : Value → Shared → Prop} (hh : A.handled = none)
    (hit : s.heap.IsListIter it l i) (hl : s.heap.IsList l items) (hx : items[i]? = none)
    (hE : ∀ h' e, End it s.heap h' e → E e { s with heap := h' }) : wpAny (model prog w) A (Builtin.SmallTypes.nextOf (.ref it)) Q E s := by
  obtain ⟨o, ho, hc, hd⟩ := id hit
  obtain ⟨ol, hol, _, nl, hdl⟩ := hl
  unfold Builtin.SmallTypes.nextOf
  refine wpAny_bind (wpAny_callSpecial?_slot (name := Str.ofString "__next__") hit.typeIs slot_listiter_next
    (wpAny_call_entry slot_listiter_next hit.typeIs entry_listiter_next ?_ (args_listiter_next _)))
  show wpAny _ _ (field (.ref it) 0 >>= _) _ _ s
  refine wpAny_bind (wpAny_field ho hd (x := .ref l) rfl ?_)
  show wpAny _ _ (if (Value.ref l == Value.none) = true then _ else _) _ _ s
  rw [if_neg (show ¬ ((Value.ref l == Value.none) = true) from Bool.false_ne_true)]
  show wpAny _ _ (field (.ref it) 1 >>= _) _ _ s
  refine wpAny_bind (wpAny_field ho hd (x := .int i 0) rfl ?_)
  show wpAny _ _ (seqItems? (.ref l) >>= _) _ _ s
  refine wpAny_bind (wpAny_seqItems hol hdl ?_)
  simp only [Int.toNat_natCast, hx]
  refine wpAny_bind (wpAny_rule (wpAny_bind (wpAny_setField ho hd (by simp) ?_)))
  show wpAny _ _ (newExc (.type "StopIteration") [] >>= _) _ _ _
  refine wpAny_bind ?_
  simp only [newExc, newTuple]
  refine wpAny_bind (wpAny_newObj_type ?_ (by size_fits))
  refine wpAny_bind (m := firstArgMember _ _) (wpAny_of_eq (a := Value.none) (by first | rfl | (simp only [firstArgMember]; rfl)) ?_)
  refine wpAny_newObj_type ?_ (by size_fits)
  simp only [raiseNew]
  refine wpAny_bind (wpAny_handled ?_)
  rw [show A.in1.handled = none from hh]
  refine wpAny_bind (wpAny_pure (wpAny_throw ?_))
  exact hE _ _ ⟨((Heap.SameBut.update ..).extBut.push _).push _, _, _, rfl, Heap.get?_push_size _ rfl, rfl⟩

/-- the inner map: int over the texts of a list -/
structure Inner (h : Heap) (it l : Addr) (i : Nat) (t m : Addr) : Prop where
  iter : h.IsListIter it l i
  tup : h.get? t = some (tupObj #[.ref it])
  map : h.get? m = some (mapObj t (.type "int"))
theorem Inner.ne {h : Heap} {it l : Addr} {i : Nat} {t m : Addr} (I : Inner h it l i t m) : t ≠ it ∧ m ≠ it := by
  obtain ⟨⟨o, ho, hc, hd⟩, ht, hm⟩ := I
  constructor
  · intro e; rw [e, ho] at ht; cases ht; cases hd
  · intro e; rw [e, ho] at hm; obtain rfl := Option.some.inj hm; exact absurd (show Value.type "map" = Value.type "list_iterator" from hc) (by decide)
theorem nextOf_inner {it l t m : Addr} {i : Nat} {vs : Array Value} {Q : Value → Shared → Prop} (hh : A.handled = none) (I : Inner s.heap it l i t m) (hl : s.heap.IsList l vs)
    (hs : ∀ v, vs[i]? = some v → ∃ x u, v = .str x u ∧ ((∃ n, Num x n) ∨ Bad x))
    (hend : vs[i]? = none → ∀ h' e, End it s.heap h' e → E e { s with heap := h' })
    (hbad : ∀ x u, vs[i]? = some (.str x u) → Bad x → ∀ h' e tk, Up it s.heap h' e "ValueError" → E (.ref e) { s with heap := h', toks := tk })
    (hok : ∀ x u n, vs[i]? = some (.str x u) → Num x n → ∀ h' tk, h'.IsListIter it l (i + 1) → Heap.SameBut it s.heap h' → Q (.int n tk) { s with heap := h', toks := tk + 1 }) :
    wpC (model prog w) A (Builtin.SmallTypes.nextOf (.ref m)) Q E s := by
  unfold Builtin.SmallTypes.nextOf
  refine wpC_bind (callSpecialC_slot (name := Str.ofString "__next__") ⟨_, I.map, rfl⟩ F.slot_map_next (call_entryC F.slot_map_next ⟨_, I.map, rfl⟩ F.entry_map_next ?_ (F.args_map_next_1 _)))
  refine map_next I.map I.tup ?_
  have hh' : A.in1.handled = none := hh
  cases hv : vs[i]? with
  | none => exact wpC_of (nextOf_end hh' I.iter hl hv (hend hv))
  | some v =>
    obtain ⟨x, u, rfl, hx⟩ := hs v hv
    refine wpC_of (nextOf_item I.iter hl hv fun h₁ hi₁ hs₁ => ⟨(hs₁.2 _ I.ne.2).trans I.map, ?_⟩)
    rcases hx with ⟨n, hn⟩ | hb
    · exact wpC_of (KIN.call_text hn.reads hn.short ⟨_, rfl, wpC_pure (hok x u n hv hn h₁ _ hi₁ hs₁)⟩)
    · refine int_fail1 hh' hb.short hb.no hb.shown fun h₂ e tk he => hbad x u hv hb h₂ e tk ⟨fun b o hb' e' => he.keeps b o ((hs₁.2 b hb').trans e'), ?_, he.there⟩
      cases hq : s.heap.get? e with
      | none => rfl
      | some o =>
        by_cases hei : e = it
        · obtain ⟨o', ho', _⟩ := hi₁
          rw [← hei, he.new] at ho'; cases ho'
        · rw [← hs₁.2 e hei, he.new] at hq; cases hq
end
end Mine
end

section
open PySem PySem.W PyProof.Rows PySem.Calls PySem.NumText
open Sem (wp)
set_option maxRecDepth 100000
namespace Mine
def numV (v : Value) : Str := match v with | .str x _ => numStr x | _ => Str.empty
section
variable {prog : Program} {w : World} {A : Around} {E : Value → Shared → Prop} {s : Shared}
theorem sub_ve_stop : isSubtype (.type "ValueError") (.type "StopIteration") = pure false := by rw [isSubtype_type]; kernel_rfl

structure Outer (h : Heap) (it l : Addr) (i : Nat) (t m t' m' : Addr) : Prop where
  inner : Inner h it l i t m
  tup : h.get? t' = some (tupObj #[.ref m])
  map : h.get? m' = some (mapObj t' (.type "str"))
theorem Outer.ne {h : Heap} {it l : Addr} {i : Nat} {t m t' m' : Addr} (I : Outer h it l i t m t' m') : t' ≠ it ∧ m' ≠ it := by
  obtain ⟨⟨⟨o, ho, hc, hd⟩, _, _⟩, ht, hm⟩ := I
  constructor
  · intro e; rw [e, ho] at ht; cases ht; cases hd
  · intro e; rw [e, ho] at hm; obtain rfl := Option.some.inj hm; exact absurd (show Value.type "map" = Value.type "list_iterator" from hc) (by decide)
theorem Outer.same {h h' : Heap} {it l : Addr} {i j : Nat} {t m t' m' : Addr} (I : Outer h it l i t m t' m') (hs : Heap.ExtBut it h h') (hi : h'.IsListIter it l j) : Outer h' it l j t m t' m' :=
  ⟨⟨hi, hs _ _ I.inner.ne.1 I.inner.tup, hs _ _ I.inner.ne.2 I.inner.map⟩, hs _ _ I.ne.1 I.tup, hs _ _ I.ne.2 I.map⟩

theorem pyNext_outer {it l t m t' m' : Addr} {i : Nat} {vs : Array Value} {Q : Option Value → Shared → Prop} (hh : A.handled = none) (I : Outer s.heap it l i t m t' m') (hl : s.heap.IsList l vs)
    (hs : ∀ v, vs[i]? = some v → ∃ x u, v = .str x u ∧ ((∃ n, Num x n) ∨ Bad x))
    (hend : vs[i]? = none → ∀ h', Heap.ExtBut it s.heap h' → Q none { s with heap := h' })
    (hbad : ∀ x u, vs[i]? = some (.str x u) → Bad x → ∀ h' e tk, Up it s.heap h' e "ValueError" → E (.ref e) { s with heap := h', toks := tk })
    (hok : ∀ x u n, vs[i]? = some (.str x u) → Num x n → ∀ h' tk tk', h'.IsListIter it l (i + 1) → Heap.SameBut it s.heap h' → Q (some (.str (Str.ofString (toString n)) tk)) { s with heap := h', toks := tk' }) :
    wpC (model prog w) A (pyNext (.ref m')) Q E s := by
  unfold pyNext
  refine wpC_bind (wpC_attempt (callSpecialC_slot (name := Str.ofString "__next__") ⟨_, I.map, rfl⟩ F.slot_map_next (call_entryC F.slot_map_next ⟨_, I.map, rfl⟩ F.entry_map_next ?_ (F.args_map_next_1 _))))
  refine map_next I.map I.tup ?_
  have hh' : A.in1.handled = none := hh
  refine nextOf_inner hh' I.inner hl hs (fun hv h' e he => ?_) (fun x u hv hb h' e tk he => ?_) (fun x u n hv hn h' tk hi hs' => ?_)
  · obtain ⟨a, o, rfl, ho, hc⟩ := he.stop
    exact wpC_bind (wpC_of (wpAny_isInstance (T := "StopIteration") (b := true) ⟨_, ho, hc⟩ isSubtype_stop (wpC_pure (hend hv h' he.keep))))
  · obtain ⟨ob, t, ho, hc, hd⟩ := he.there
    refine wpC_bind (wpC_of (wpAny_isInstance (T := "ValueError") (b := false) ⟨_, ho, hc⟩ sub_ve_stop ?_))
    refine wpC_ite ?_
    rw [if_neg Bool.false_ne_true]
    exact wpC_of (wpAny_throw (hbad x u hv hb h' e tk he))
  · refine ⟨(hs'.2 _ I.ne.2).trans I.map, wpC_of (P.str_of_int hn.small ?_)⟩
    exact ⟨_, rfl, wpC_pure (hok x u n hv hn h' _ _ hi hs')⟩

theorem extend_loop {it l t m t' m' S : Addr} {vs : List Value} {R : Result → Shared → Prop} (hh : A.handled = none) (hn : vs.length ≤ sizeLine) (s₀ : Heap) (hS0 : s₀.get? S = none) (hit0 : s₀.get? it = none)
    (hs : ∀ v ∈ vs, ∃ x u, v = .str x u ∧ ((∃ n, Num x n) ∨ Bad x))
    (hbad : (∃ x u, Value.str x u ∈ vs ∧ Bad x) → ∀ h' e tk, Heap.NewExc s₀ h' e "ValueError" → R (.error (.ref e)) { s with heap := h', toks := tk })
    (hok : (∀ x u, Value.str x u ∈ vs → ∃ n, Num x n) → ∀ h' tk os c, (∀ b o, s₀.get? b = some o → h'.get? b = some o) → h'.get? S = some { cls := .type "list", data := .seq os c } → StrsAre os.toList (vs.map numV) →
      R (.ok (.ret .none)) { s with heap := h', toks := tk }) :
    ∀ (k i : Nat) (h : Heap) (tk : Nat) (acc : Array Value) (c : Nat), vs.length - i = k → i ≤ vs.length → Outer h it l i t m t' m' → h.IsList l vs.toArray → l ≠ S → h.get? S = some { cls := .type "list", data := .seq acc c } →
      (∀ b o, s₀.get? b = some o → h.get? b = some o) → StrsAre acc.toList ((vs.take i).map numV) → (∀ x u, Value.str x u ∈ vs.take i → ∃ n, Num x n) →
      codeC (model prog w) A (.builtin "list.extend.loop" ⟨[.ref S, .ref m', .none], []⟩) R { s with heap := h, toks := tk } := by
  intro k
  induction k with
  | zero =>
    intro i h tk acc c hk hi I hl hlS hS h0 hacc hnum
    have : i = vs.length := by omega
    subst this
    rw [List.take_length] at hacc hnum
    refine codeC_builtin F.entry_extend_loop ?_
    rw [Around.under_plainId F.plain_extend_loop _]
    show wpC _ A.in1 (pyNext (.ref m') >>= _) _ _ _
    refine wpC_bind (pyNext_outer hh I hl (fun v hv => ?_) (fun _ h' hk' => ?_) (fun x u hv => ?_) fun x u n hv => ?_)
    · simp at hv
    · refine wpC_pure (hok hnum h' tk acc c (fun b o e => hk' b o (fun q => ?_) (h0 b o e)) (hk' S _ ?_ hS) hacc)
      · rw [q, hit0] at e; cases e
      · intro q; obtain ⟨o, ho, hc, _⟩ := I.inner.iter
        rw [← q, hS] at ho; obtain rfl := Option.some.inj ho; exact absurd (show Value.type "list" = Value.type "list_iterator" from hc) (by decide)
    · simp at hv
    · simp at hv
  | succ k ih =>
    intro i h tk acc c hk hi I hl hlS hS h0 hacc hnum
    have hlt : i < vs.length := by omega
    have hSit : S ≠ it := by
      intro q; obtain ⟨o, ho, hc, _⟩ := I.inner.iter
      rw [← q, hS] at ho; obtain rfl := Option.some.inj ho; exact absurd (show Value.type "list" = Value.type "list_iterator" from hc) (by decide)
    refine codeC_builtin F.entry_extend_loop ?_
    rw [Around.under_plainId F.plain_extend_loop _]
    show wpC _ A.in1 (pyNext (.ref m') >>= _) _ _ _
    have hget : vs.toArray[i]? = some vs[i] := by simp [hlt]
    have hsz : acc.size = i := by
      have := strsAre_length hacc
      simp at this; omega
    refine wpC_bind (pyNext_outer hh I hl (fun v hv => hs v ?_) (fun hv => ?_) (fun x u hv hb h' e tk' he => ?_) fun x u n hv hnm h' tk₁ tk₂ hi' hs' => ?_)
    · rw [hget] at hv; obtain rfl := Option.some.inj hv; exact List.getElem_mem hlt
    · rw [hget] at hv; cases hv
    · have hmem : Value.str x u ∈ vs := by rw [hget] at hv; rw [← Option.some.inj hv]; exact List.getElem_mem hlt
      refine hbad ⟨x, u, hmem, hb⟩ h' e tk' ⟨fun b o e' => he.keep b o (fun q => ?_) (h0 b o e'), ?_, he.there⟩
      · rw [q, hit0] at e'; cases e'
      · cases hq : s₀.get? e with
        | none => rfl
        | some o => exact absurd ((h0 e o hq).symm.trans he.new) (by simp)
    · have hv' : vs[i] = .str x u := by rw [hget] at hv; exact Option.some.inj hv
      have hS' : h'.get? S = some { cls := .type "list", data := .seq acc c } := (hs'.2 S hSit).trans hS
      show wpC _ A.in1 (updateSeq S (·.push (.str (Str.ofString (toString n)) tk₁)) >>= _) _ _ _
      refine wpC_bind (wpC_of (wpAny_updateSeq hS' rfl ?_ (by omega) (by rw [Array.size_push]; omega)))
      have hup : Heap.ExtBut S h' (h'.update S (Obj.mapSeq (·.push (.str (Str.ofString (toString n)) tk₁)))) := (Heap.SameBut.update ..).extBut
      have key : ∀ b o, b ≠ S → h'.get? b = some o → (h'.update S (Obj.mapSeq (·.push (.str (Str.ofString (toString n)) tk₁)))).get? b = some o := fun b o hb e => hup b o hb e
      have I' := I.same hs'.extBut hi'
      refine wpC_pure ⟨plainId_quiet F.plain_extend_loop _, ih (i + 1) _ tk₂ (acc.push (.str (Str.ofString (toString n)) tk₁)) _ (by omega) hlt ?_ ?_ hlS (Heap.get?_update_self _ hS' rfl) ?_ ?_ ?_⟩
      · have neS : ∀ b o, h'.get? b = some o → o.cls ≠ .type "list" → b ≠ S := fun b o e q r => by
          rw [r, hS'] at e; obtain rfl := Option.some.inj e; exact q rfl
        obtain ⟨⟨⟨oi, ho, hc, hd⟩, j2, j3⟩, j4, j5⟩ := I'
        exact ⟨⟨⟨oi, key _ _ (neS _ _ ho (by rw [hc]; decide)) ho, hc, hd⟩, key _ _ (neS _ _ j2 (show Value.type "tuple" ≠ Value.type "list" by decide)) j2, key _ _ (neS _ _ j3 (show Value.type "map" ≠ Value.type "list" by decide)) j3⟩,
          key _ _ (neS _ _ j4 (show Value.type "tuple" ≠ Value.type "list" by decide)) j4, key _ _ (neS _ _ j5 (show Value.type "map" ≠ Value.type "list" by decide)) j5⟩
      · obtain ⟨o, ho, hc, q, hd⟩ := hl
        have hli : l ≠ it := fun e => by
          obtain ⟨o', ho', hc', hd'⟩ := I.inner.iter
          rw [e, ho'] at ho; obtain rfl := Option.some.inj ho; rw [hd'] at hd; cases hd
        exact ⟨o, key _ _ hlS ((hs'.2 l hli).trans ho), hc, q, hd⟩
      · intro b o e
        have hbS : b ≠ S := fun q => by rw [q, hS0] at e; cases e
        have hbi : b ≠ it := fun q => by rw [q, hit0] at e; cases e
        exact key _ _ hbS ((hs'.2 b hbi).trans (h0 b o e))
      · rw [List.take_succ_eq_append_getElem hlt, List.map_append, Array.toList_push]
        have := strsAre_snoc hacc (numStr x) tk₁
        rw [hv']
        rw [hnm.str] at this
        show StrsAre _ (_ ++ [numStr x])
        rw [hnm.str]
        exact this
      · intro y v hy
        rw [List.take_succ_eq_append_getElem hlt] at hy
        rcases List.mem_append.mp hy with hy | hy
        · exact hnum y v hy
        · rw [hv'] at hy
          have := List.mem_singleton.mp hy
          injection this with e1 e2
          exact e1 ▸ ⟨n, hnm⟩
end
end Mine
end

section
open PySem PySem.W PyProof.Rows PySem.Calls PySem.NumText
open Sem (wp)
set_option maxRecDepth 100000
namespace Mine
section
variable {prog : Program} {w : World} {A : Around} {E : Value → Shared → Prop} {s : Shared}

theorem callType_codesC {T newId initId : String} {Bi : Builtin} {args : List Value} {Q Q₁ : Value → Shared → Prop} (ft : TypeCalled T newId initId)
    (hct : checkTypeCall T ⟨args, []⟩ = pure ()) (entryI : entryFor table initId = some Bi)
    (hnew : codeAny (model prog w) A.in1 (.call (.builtin newId) ⟨.type T :: args, []⟩) (wants Q₁ E) s)
    (hnext : ∀ obj s₁, Q₁ obj s₁ → s₁.TypeIs obj T ∧ argsOk initId ⟨obj :: args, []⟩ ∧
      wpC (model prog w) A.in1.in1 (Bi ⟨obj :: args, []⟩)
        (fun fin s' => match fin with | .done f => wants (fun r s₂ => r = .none ∧ Q obj s₂) E (.ok f) s' | .again c' => c'.quiet = true ∧ codeC (model prog w) A.in1 c' (wants (fun r s₂ => r = .none ∧ Q obj s₂) E) s')
        (fun e s' => wants (fun r s₂ => r = .none ∧ Q obj s₂) E (.error e) s') s₁) :
    wpC (model prog w) A (call (.type T) args) Q E s := by
  obtain ⟨c, tl, hmro⟩ := ft.mro
  have hmade := ft.made
  have hsub := ft.sub
  refine wpC_call (codeC_of_tree ?_)
  show wpC _ _ (callAny (.type T) _) _ _ _
  refine wpC_pure ⟨Code.quiet_builtin _ (by decide +kernel), codeC_builtin F.entry_type_call ?_⟩
  rw [Around.under_plain (weight_type_call_type T args []) (units_type_call_type T args [])]
  have h1 := ft.notType
  have h2 := ft.canCreate
  unfold Builtin.«type.__call__»
  dsimp only
  refine wpC_ite ?_
  rw [if_neg (by rw [h1]; exact Bool.false_ne_true)]
  refine wpC_ite ?_
  rw [if_neg (by rw [h2]; exact Bool.false_ne_true)]
  refine wpC_bind (wpC_of (wpAny_of_eq hct ?_))
  refine wpC_bind (wpC_of (wpAny_of_eq hmro ?_))
  refine wpC_ite ?_
  rw [if_neg (by exact Bool.false_ne_true)]
  refine wpC_bind (wpC_of (wpAny_of_eq hmade ?_))
  refine wpC_bind (wpC_pure ?_)
  refine wpC_bind (wpC_holding (wpC_call (codeC_mono (codeC_of hnew) fun r s₁ hr => ?_)))
  cases r with
  | error e => exact hr
  | ok fl =>
    cases fl with
    | ret obj =>
      obtain ⟨hT, hok, hsi⟩ := hnext _ _ hr
      refine wpC_bind (wpC_of (wpAny_isInstance (T := T) (b := true) hT hsub ?_))
      refine wpC_ite ?_
      rw [if_neg (by exact Bool.false_ne_true)]
      refine wpC_bind (wpC_holding (callSpecialC_slot hT ft.init (wpC_call (codeC_mono (codeC_call_builtin ft.init.plain entryI (ft.init.check _ _ _ _ _ _ _ _ hT hok hsi)) fun r₂ s₂ hr₂ => ?_))))
      cases r₂ with
      | error e => exact hr₂
      | ok fl₂ =>
        cases fl₂ with
        | ret r =>
          obtain ⟨rfl, hq⟩ := hr₂
          refine wpC_ite ?_
          rw [if_neg (by exact Bool.false_ne_true)]
          exact wpC_pure hq
        | _ => exact hr₂.elim
    | _ => exact hr.elim

theorem list_init_map {it l t m t' m' S : Addr} {vs : List Value} {R : Result → Shared → Prop} (hh : A.handled = none) (hn : vs.length ≤ sizeLine) (s₀ : Heap) (hS0 : s₀.get? S = none) (hit0 : s₀.get? it = none)
    (hs : ∀ v ∈ vs, ∃ x u, v = .str x u ∧ ((∃ n, Num x n) ∨ Bad x))
    (hbad : (∃ x u, Value.str x u ∈ vs ∧ Bad x) → ∀ h' e tk, Heap.NewExc s₀ h' e "ValueError" → R (.error (.ref e)) { s with heap := h', toks := tk })
    (hok : (∀ x u, Value.str x u ∈ vs → ∃ n, Num x n) → ∀ h' tk os c, (∀ b o, s₀.get? b = some o → h'.get? b = some o) → h'.get? S = some { cls := .type "list", data := .seq os c } → StrsAre os.toList (vs.map numV) →
      R (.ok (.ret .none)) { s with heap := h', toks := tk })
    (I : Outer s.heap it l 0 t m t' m') (hl : s.heap.IsList l vs.toArray) (hlS : l ≠ S) (hS : s.heap.get? S = some { cls := .type "list", data := .seq #[] }) (h0 : ∀ b o, s₀.get? b = some o → s.heap.get? b = some o) :
    wpC (model prog w) A.in1 (Builtin.«list.__init__» ⟨[.ref S, .ref m'], []⟩)
      (fun fin s' => match fin with | .done f => R (.ok f) s' | .again c' => c'.quiet = true ∧ codeC (model prog w) A c' R s') (fun e s' => R (.error e) s') s := by
  show wpC _ A.in1 (do let old ← Builtin.List.listItems (.ref S); Builtin.List.listUpdate (.ref S) (fun _ => #[]); letGo old.toList.reverse; Builtin.List.listExtendWith (.ref S) (.ref m') .none) _ _ s
  refine wpC_bind (wpC_of ?_)
  unfold Builtin.List.listItems
  refine wpAny_bind (wpAny_seqItems hS rfl (wpAny_pure ?_))
  show wpC _ A.in1 (updateSeq S (fun _ => #[]) >>= fun _ => letGo (#[] : Array Value).toList.reverse >>= fun _ => Builtin.List.listExtendWith (.ref S) (.ref m') .none) _ _ s
  refine wpC_bind (wpC_of (wpAny_updateSeq hS rfl ?_))
  have hS₂ := Heap.get?_update_self (Obj.mapSeq (fun _ => (#[] : Array Value))) hS rfl
  have oth : ∀ b o, b ≠ S → s.heap.get? b = some o → (s.heap.update S (Obj.mapSeq (fun _ => (#[] : Array Value)))).get? b = some o :=
    fun b o hb e => (Heap.get?_update_other _ _ (Ne.symm hb)).trans e
  refine wpC_bind (wpC_of (wpAny_letGo ?_))
  have neS : ∀ b o, s.heap.get? b = some o → o.cls ≠ .type "list" → b ≠ S := fun b o e q r => by
    rw [r, hS] at e; obtain rfl := Option.some.inj e; exact q rfl
  have hmS : m' ≠ S := neS _ _ I.map (show Value.type "map" ≠ Value.type "list" by decide)
  have hm₂ := oth _ _ hmS I.map
  unfold Builtin.List.listExtendWith
  refine wpC_bind (wpC_of (wpAny_typeOf (T := "map") ⟨_, hm₂, rfl⟩ ?_))
  have h1 : Builtin.List.listSameRef (.ref S) (.ref m') = false := by simp [Builtin.List.listSameRef, Ne.symm hmS]
  have h2 : (Value.type "map" == Value.type "list") = false := by decide
  have h3 : (Value.type "map" == Value.type "tuple") = false := by decide
  simp only [h1, h2, h3, Bool.or_false, Bool.false_eq_true, if_false]
  refine wpC_bind (wpC_of (pyIter_map hm₂ ?_))
  refine wpC_bind (wpC_holding (wpC_of ?_))
  unfold Builtin.List.listLengthHint
  refine wpAny_bind (wpAny_specialOf (T := "map") ⟨_, hm₂, rfl⟩ F.map_no_len ?_)
  show wpAny _ A.in1 (specialOf (Value.ref m') (Str.ofString "__length_hint__") >>= _) _ _ _
  refine wpAny_bind (wpAny_specialOf (T := "map") ⟨_, hm₂, rfl⟩ F.map_no_hint ?_)
  refine wpAny_pure ?_
  show wpC _ A.in1 (rule "list.extend.makes-room" >>= fun _ => Builtin.List.listTouch (.ref S) >>= fun _ =>
    again (.builtin "list.extend.loop" ⟨[.ref S, .ref m', .none], []⟩)) _ _ _
  refine wpC_bind (wpC_of (wpAny_rule ?_))
  refine wpC_bind (wpC_of ?_)
  show wpAny _ A.in1 (updateSeq S (·.push .none) >>= fun _ => updateSeq S (·.pop)) _ _ _
  refine wpAny_bind (wpAny_updateSeq hS₂ rfl ?_)
  have hS₃ := Heap.get?_update_self (Obj.mapSeq (·.push Value.none)) hS₂ rfl
  refine wpAny_updateSeq (hz := by seq_fits) hS₃ rfl ?_
  have hS₄ := Heap.get?_update_self (Obj.mapSeq (·.pop)) hS₃ rfl
  have oth' : ∀ b o, b ≠ S → s.heap.get? b = some o → (((s.heap.update S (Obj.mapSeq (fun _ => (#[] : Array Value)))).update S (Obj.mapSeq (·.push Value.none))).update S (Obj.mapSeq (·.pop))).get? b = some o :=
    fun b o hb e => (Heap.get?_update_other _ _ (Ne.symm hb)).trans ((Heap.get?_update_other _ _ (Ne.symm hb)).trans (oth b o hb e))
  refine wpC_pure ⟨plainId_quiet F.plain_extend_loop _, extend_loop (s := s) (t := t) (m := m) (t' := t') hh hn s₀ hS0 hit0 hs hbad hok vs.length 0 _ _ _ _ (by omega) (Nat.zero_le _) ?_ ?_ hlS hS₄ ?_ ?_ ?_⟩
  · obtain ⟨⟨⟨oi, ho, hc, hd⟩, j2, j3⟩, j4, j5⟩ := I
    exact ⟨⟨⟨oi, oth' _ _ (neS _ _ ho (by rw [hc]; decide)) ho, hc, hd⟩, oth' _ _ (neS _ _ j2 (show Value.type "tuple" ≠ Value.type "list" by decide)) j2, oth' _ _ (neS _ _ j3 (show Value.type "map" ≠ Value.type "list" by decide)) j3⟩,
      oth' _ _ (neS _ _ j4 (show Value.type "tuple" ≠ Value.type "list" by decide)) j4, oth' _ _ (neS _ _ j5 (show Value.type "map" ≠ Value.type "list" by decide)) j5⟩
  · obtain ⟨o, ho, hc, q, hd⟩ := hl
    exact ⟨o, oth' _ _ hlS ho, hc, q, hd⟩
  · exact fun b o e => oth' b o (fun q => by rw [q, hS0] at e; cases e) (h0 b o e)
  · exact StrsAre.nil
  · intro x u hx
    simp at hx

/-- list(map(str, map(int, l))) with the two maps made -/
theorem call_list_map {it l t m t' m' : Addr} {vs : List Value} {Q : Value → Shared → Prop} (hh : A.handled = none) (hn : vs.length ≤ sizeLine) (s₀ : Heap) (hit0 : s₀.get? it = none) (hsz : s₀.objs.size ≤ s.heap.objs.size)
    (hs : ∀ v ∈ vs, ∃ x u, v = .str x u ∧ ((∃ n, Num x n) ∨ Bad x))
    (hbad : (∃ x u, Value.str x u ∈ vs ∧ Bad x) → ∀ h' e tk, Heap.NewExc s₀ h' e "ValueError" → E (.ref e) { s with heap := h', toks := tk })
    (hok : (∀ x u, Value.str x u ∈ vs → ∃ n, Num x n) → ∀ h' tk os c S, s₀.get? S = none → (∀ b o, s₀.get? b = some o → h'.get? b = some o) → h'.get? S = some { cls := .type "list", data := .seq os c } → StrsAre os.toList (vs.map numV) →
      Q (.ref S) { s with heap := h', toks := tk })
    (I : Outer s.heap it l 0 t m t' m') (hl : s.heap.IsList l vs.toArray) (h0 : ∀ b o, s₀.get? b = some o → s.heap.get? b = some o) :
    wpC (model prog w) A (call (.type "list") [.ref m']) Q E s := by
  refine callType_codesC (Q₁ := fun obj s₁ => obj = .ref s.heap.objs.size ∧ s₁ = { s with heap := s.heap.push { cls := .type "list", data := .seq #[] } }) F.called_list (F.typeCall_list_1 _) F.entry_list_init
    (code_list_new _ ⟨rfl, rfl⟩) fun obj s₁ h₁ => ?_
  obtain ⟨rfl, rfl⟩ := h₁
  have hS : (s.heap.push { cls := .type "list", data := .seq #[] }).get? s.heap.objs.size = some { cls := .type "list", data := .seq #[] } := Heap.get?_push_size _ rfl
  have hS0 : s₀.get? s.heap.objs.size = none := Heap.get?_none_of_le hsz
  have up : ∀ b o, s.heap.get? b = some o → (s.heap.push { cls := .type "list", data := .seq #[] }).get? b = some o := fun b o e => Heap.get?_push_of_some _ e
  refine ⟨⟨_, hS, rfl⟩, F.args_list_init_2 _ _, list_init_map (it := it) (l := l) (t := t) (m := m) (t' := t') (vs := vs) hh hn s₀ hS0 hit0 hs hbad (fun hx h' tk os c k hS' ho => ⟨rfl, hok hx h' tk os c _ hS0 k hS' ho⟩) ?_ (hl.push _) ?_ hS fun b o e => up b o (h0 b o e)⟩
  · obtain ⟨⟨⟨oi, ho, hc, hd⟩, j2, j3⟩, j4, j5⟩ := I
    exact ⟨⟨⟨oi, up _ _ ho, hc, hd⟩, up _ _ j2, up _ _ j3⟩, up _ _ j4, up _ _ j5⟩
  · obtain ⟨o, ho, _⟩ := hl
    exact Nat.ne_of_lt (Heap.lt_size ho)
end
end Mine
end

section
open PySem PySem.W PyProof.Rows PySem.Calls
open Sem (wp)
set_option maxRecDepth 100000
namespace Mine

/-- all is kept; the caller's frame L but for its slots -/
structure KeepX (L : Addr) (h h' : Heap) : Prop where
  keep : ∀ b o, b ≠ L → h.get? b = some o → h'.get? b = some o
  frame : ∀ o, h.get? L = some o → ∃ sl, h'.get? L = some { o with slots := sl }
theorem KeepX.refl (L : Addr) (h : Heap) : KeepX L h h := ⟨fun _ _ _ e => e, fun o e => ⟨o.slots, e⟩⟩
theorem KeepX.of_keep {L : Addr} {h h' : Heap} (x : ∀ b o, h.get? b = some o → h'.get? b = some o) : KeepX L h h' := ⟨fun b o _ e => x b o e, fun o e => ⟨o.slots, x _ _ e⟩⟩
theorem KeepX.trans {L : Addr} {h h' h'' : Heap} (x : KeepX L h h') (y : KeepX L h' h'') : KeepX L h h'' :=
  ⟨fun b o hb e => y.keep b o hb (x.keep b o hb e), fun o e => by
    obtain ⟨sl, e₁⟩ := x.frame o e
    obtain ⟨sl', e₂⟩ := y.frame _ e₁
    exact ⟨sl', e₂⟩⟩
theorem KeepX.fr {L : Addr} {h h' h₀ : Heap} {m : Str → Option Value} (x : KeepX L h h') (F : Fr h₀ L h m) : Fr h₀ L h' m := by
  obtain ⟨oL, es, ep, hL, hd, hk, hf⟩ := F.ns
  obtain ⟨sl, e⟩ := x.frame _ hL
  exact ⟨⟨_, es, ep, e, hd, hk, hf⟩, fun b o e => x.keep b o (Nat.ne_of_lt (Nat.lt_of_lt_of_le (Heap.lt_size e) F.above)) (F.keep b o e), F.above⟩

theorem hide_get {h : Heap} {L b : Addr} (hb : b ≠ L) : (h.hide L).get? b = h.get? b := Heap.get?_update_other _ _ (Ne.symm hb)
theorem hide_none (h : Heap) (L : Addr) : (h.hide L).get? L = none := TI.get?_update_freed h L

section
variable {prog : Program} {w : World} {A : Around} {s : Shared} {h₀ : Heap} {L a : Addr} {m : Str → Option Value} {cn : Str} {cs : Scope} {ccd : Value} {K : Frag} {p : Program} {loose : List Str} {mean : ExcName → Option Value} {mg mb : Str → Option Value}

theorem enter_X {R : Result → Shared → Prop} {name qual : Str} {params : Arguments} {body : List Stmt} {scope : Scope} {dV kV doc pm cdv ct oc : Value} {an od : Option Addr} {osl : Array (Option Value)} {f : Addr} {args : Args} {binds : List (Str × Value)}
    (F : Fr h₀ L s.heap m) (X₀ : K.In h₀) (T : Top p loose mean mg mb h₀)
    (ho : K.lookup f = some ⟨oc, od, .func (fnOf name qual params body scope dV kV doc pm an cdv ct), osl⟩) (hcd : codeIn K cdv qual = true) (hroom : A.depth < recursionLimit)
    (hbind : BindsTo s (fnOf name qual params body scope dV kV doc pm an cdv ct) args binds) (hloc : ∀ y ∈ binds, scope.names.lookup y.1 = some .local)
    (h : ∀ oL h₁, s.heap.get? L = some oL → TI.Frs [envOf cn cs L a ccd] [(L, oL)] → K.In (s.heap.hide L) → Top p loose mean mg mb (s.heap.hide L) →
      Fr (s.heap.hide L) s.heap.objs.size h₁ (fun y => binds.reverse.lookup y) → News (s.heap.hide L) s.heap.objs.size h₁ [(L, oL)] →
      wpC (model prog w) (A.deeper (envOf qual scope s.heap.objs.size f cdv)) (execs body (envOf qual scope s.heap.objs.size f cdv))
        (fun fl s' => R (.ok (.ret (match fl with | .ret v => v | _ => .none))) s') (fun _ _ => False)
        { s with heap := h₁, toks := s.toks + binds.length })
    (hck : cs.kind = .function := by rfl) (hco : scope.isCoroutine = false := by rfl) (hgen : scope.isGenerator = false := by rfl) (hk : scope.kind = .function := by rfl)
    (hcell : ∀ x ∈ scope.names, x.2 ≠ .cell := by decide) : codeC (model prog w) A (.call (.ref f) args) R s := by
  have X := X₀.keeps F.keep
  obtain ⟨oL, es, ep, hL, hLd, hLk, hLf⟩ := F.ns
  have hLt := Heap.lt_size hL
  have hkind : (envOf cn cs L a ccd).scope.kind ≠ .module := by
    show cs.kind ≠ .module
    rw [hck]; decide
  have base : ∀ b o, h₀.get? b = some o → (s.heap.hide L).get? b = some o := fun b o e =>
    (hide_get (Nat.ne_of_lt (Nat.lt_of_lt_of_le (Heap.lt_size e) F.above))).trans (F.keep b o e)
  refine codeC_call_def (fd := fnOf name qual params body scope dV kV doc pm an cdv ct) (body := body) (binds := binds) hroom (X _ _ ho) rfl (T.nolimit.keeps F.keep) (codeRec_of X hcd) rfl hbind hcell hloc (fun h₁ hns hk₁ => ?_) hco hgen hk
  refine h oL h₁ hL ⟨hkind, rfl, ⟨es, ep, hLd⟩, trivial⟩ (X₀.keeps base) (T.keeps base) ⟨hns, fun b o e => hk₁ b o ?_, Nat.le_of_eq (Heap.hide_size ..)⟩ fun q hq => ?_
  · by_cases hb : b = L
    · rw [hb, hide_none] at e; cases e
    · exact (hide_get hb).symm.trans e
  · rcases List.mem_cons.mp hq with rfl | hq
    · exact ⟨hk₁ _ _ hL, Nat.ne_of_lt hLt, hide_none _ _⟩
    · exact nomatch hq

theorem leave_X {h h' : Heap} {L' : Addr} {m' : Str → Option Value} {oL : Obj} {sl : Array (Option Value)} {new : List (Addr × Obj)} (hL : h.get? L = some oL) (F : Fr (h.hide L) L' h' m') (N : News (h.hide L) L' h' new) (hm : (L, ({ oL with slots := sl } : Obj)) ∈ new) : KeepX L h h' :=
  ⟨fun b o hb e => F.keep b o ((hide_get hb).trans e), fun o e => by
    rw [hL] at e; obtain rfl := Option.some.inj e
    exact ⟨sl, (N _ hm).1⟩⟩

theorem caught1 {A₀ : Around} {s' : Shared} {hb h : Heap} {L' f e : Addr} {name : Str} {scope : Scope} {cd : Value} {Q : Flow → Shared → Prop} {oL : Obj} {new : List (Addr × Obj)} {b₀ : Stmt} {suite : List Stmt} {pos np : Pos} {rest : List ExceptHandler}
    (hfr : A₀.frames = some [envOf cn cs L a ccd]) (Fs : TI.Frs [envOf cn cs L a ccd] [(L, oL)]) (hx : Heap.NewExc h s'.heap e "ValueError") (F : Fr hb L' h m) (N : News hb L' h (new ++ [(L, oL)])) (hne : TLg.AllNe L new) (T : Top p loose mean mg mb hb)
    (t2 : Str.ofString "ValueError" ∉ loose) (t3 : Str.ofString "ValueError" ∉ (recsOf p).map (·.name)) (t4 : Str.ofString "ValueError" ∉ (litsOf p).map (·.1)) (t5 : Str.ofString "ValueError" ∉ (clssOf p loose).map (·.name))
    (k : ∀ h' sl, TI.Frs [envOf cn cs L a ccd] [(L, { oL with slots := sl })] → Fr hb L' h' m → News hb L' h' (new ++ [(L, { oL with slots := sl })]) →
      wpAny (model prog w) ((A₀.deeper (envOf name scope L' f cd)).mark (some (.ref e))) (execs (b₀ :: suite) (envOf name scope L' f cd)) Q (fun _ _ => False) { s' with heap := h' })
    (hk : scope.kind = .function := by rfl) (hxk : (envOf name scope L' f cd).kindOf "ValueError" = some .globalImplicit := by rfl) :
    wpAny (model prog w) (A₀.deeper (envOf name scope L' f cd)) (noteFrame (.ref e) (envOf name scope L' f cd))
      (fun _ s₂ => wpAny (model prog w) (A₀.deeper (envOf name scope L' f cd)) (setFlight (.ref e) none) (fun _ s₃ =>
        wpAny (model prog w) (A₀.deeper (envOf name scope L' f cd)) (handleBy (.ref e) (envOf name scope L' f cd) (.ExceptHandler (some (.Name "ValueError" np)) none (b₀ :: suite) pos :: rest)) Q (fun _ _ => False) s₃) (fun _ _ => False) s₂) (fun _ _ => False) s' := by
  refine TLg.noted_new1 (new := new) hfr Fs hx F N hne (fun h₁ sl Fs₁ H₁ => ?_) hk
  refine TT.HeldNA.land H₁ fun h₂ H₂ => ?_
  exact TT.clause_hitTN (s' := { s' with heap := h₂ }) (X := "ValueError") (news := new ++ [(L, { oL with slots := sl })]) H₂ T (t2 := t2) (t3 := t3) (t4 := t4) (t5 := t5) (k := fun h₃ F₃ N₃ => k h₃ sl Fs₁ F₃ N₃) (hk := hk) (hxk := hxk)
end
end Mine
end

section
open PySem PySem.W PyProof.Rows PySem.Calls
open Sem (wp)
set_option maxRecDepth 100000
namespace Mine
structure Box (P : Prop) : Prop where
  out : P
abbrev listObj (vs : Array Value) (c : Nat) : Obj := { cls := .type "list", data := .seq vs c }
section
variable {prog : Program} {w : World} {A : Around} {E : Value → Shared → Prop} {s : Shared} {hb : Heap} {L' : Addr} {m : Str → Option Value}
theorem append1 {lst : Addr} {vs : Array Value} {c : Nat} {x : Value} {Q : Value → Shared → Prop} (F : Fr hb L' s.heap m) (hl : s.heap.get? lst = some (listObj vs c)) (hnb : hb.get? lst = none) (hsz : vs.size ≤ 100000)
    (k : ∀ h' c', Fr hb L' h' m → h'.get? lst = some (listObj (vs.push x) c') → Heap.SameBut lst s.heap h' → Q .none { s with heap := h' }) :
    wpAny (model prog w) A (call (.builtin "list.append") [.ref lst, x]) Q E s := by
  have hne : L' ≠ lst := fun e => by
    obtain ⟨o, es, ep, ho, hd, _⟩ := F.ns
    rw [e, hl] at ho; obtain rfl := Option.some.inj ho; cases hd
  refine wpAny_call_entry slot_list_append ⟨_, hl, rfl⟩ entry_list_append ?_ (args_list_append _ _)
  show wpAny _ _ (updateSeq lst (·.push x) >>= fun _ => ret .none) _ _ s
  refine wpAny_bind (wpAny_updateSeq hl rfl ?_ (by rw [sizeLine_eq]; omega) (by rw [Array.size_push, sizeLine_eq]; omega))
  refine wpAny_pure ⟨.none, rfl, k _ _ ⟨F.ns.sameBut (Heap.SameBut.update ..) hne, fun b o e => ?_, F.above⟩ (Heap.get?_update_self _ hl rfl) (Heap.SameBut.update ..)⟩
  refine (Heap.get?_update_other _ _ fun q => ?_).trans (F.keep b o e)
  rw [← q, hnb] at e; cases e
theorem extend1 {lst D : Addr} {vs ws : Array Value} {c n2 : Nat} {Q : Value → Shared → Prop} (F : Fr hb L' s.heap m) (hl : s.heap.get? lst = some (listObj vs c)) (hD : s.heap.get? D = some { cls := .type "tuple", data := .seq ws n2 }) (hnb : hb.get? lst = none) (hsz : vs.size + ws.size ≤ 100000)
    (k : ∀ h' c', Fr hb L' h' m → h'.get? lst = some (listObj (vs ++ ws) c') → Heap.SameBut lst s.heap h' → Q .none { s with heap := h' }) :
    wpAny (model prog w) A (call (.builtin "list.extend") [.ref lst, .ref D]) Q E s := by
  have hne : L' ≠ lst := fun e => by
    obtain ⟨o, es, ep, ho, hd, _⟩ := F.ns
    rw [e, hl] at ho; obtain rfl := Option.some.inj ho; cases hd
  have h1 : vs.size + ws.size ≤ sizeLine := by rw [sizeLine_eq]; omega
  refine call_meets PySem.F.slot_list_extend ⟨_, hl, rfl⟩ PySem.F.entry_list_extend (PySem.F.args_list_extend_2 _ _) (AutoSeq1.list_extend_list_tuple_0 lst vs c D ws n2 (extend_door h1) (Nat.le_trans (Nat.le_add_right _ _) h1) (Nat.le_trans h1 (Nat.le_succ _))) ⟨hl, hD, ?_⟩
  refine k _ _ ⟨F.ns.sameBut (Heap.SameBut.update ..) hne, fun b o e => ?_, F.above⟩ (Heap.get?_update_self _ hl rfl) (Heap.SameBut.update ..)
  refine (Heap.get?_update_other _ _ fun q => ?_).trans (F.keep b o e)
  rw [← q, hnb] at e; cases e
end
end Mine
end

section
open PySem PySem.W PyProof.Rows PySem.Calls
set_option maxRecDepth 100000
namespace Mine
mutual
/-- the value bears the datum, all its objects in S -/
inductive Rd (S : Addr → Prop) (h : Heap) : Value → PyData → Prop
  | none : Rd S h .none .none
  | bool (b) : Rd S h (.bool b) (.bool b)
  | int (i t) : Rd S h (.int i t) (.int i)
  | str (x t) : Rd S h (.str x t) (.str x)
  | list {a vs n xs} : h.get? a = some (listObj vs n) → S a → RdA S h vs.toList xs → Rd S h (.ref a) (.list xs)
  | tuple {a vs n xs} : h.get? a = some { cls := .type "tuple", data := .seq vs n } → S a → RdA S h vs.toList xs → Rd S h (.ref a) (.tuple xs)
inductive RdA (S : Addr → Prop) (h : Heap) : List Value → List PyData → Prop
  | nil : RdA S h [] []
  | cons {v vs d ds} : Rd S h v d → RdA S h vs ds → RdA S h (v :: vs) (d :: ds)
end
mutual
theorem Rd.reads {S : Addr → Prop} {h : Heap} : ∀ {v : Value} {d : PyData}, Rd S h v d → ∃ as, Reads h v d as
  | _, _, .none => ⟨_, .none⟩
  | _, _, .bool b => ⟨_, .bool b⟩
  | _, _, .int i t => ⟨_, .int i t⟩
  | _, _, .str x t => ⟨_, .str x t⟩
  | _, _, .list e _ r => let ⟨_, q⟩ := RdA.reads r; ⟨_, .list e rfl rfl q⟩
  | _, _, .tuple e _ r => let ⟨_, q⟩ := RdA.reads r; ⟨_, .tuple e rfl rfl q⟩
theorem RdA.reads {S : Addr → Prop} {h : Heap} : ∀ {vs : List Value} {ds : List PyData}, RdA S h vs ds → ∃ as, ReadsAll h vs ds as
  | _, _, .nil => ⟨_, .nil⟩
  | _, _, .cons r q => let ⟨_, a⟩ := Rd.reads r; let ⟨_, b⟩ := RdA.reads q; ⟨_, .cons a b⟩
end
mutual
theorem Rd.keeps {S S' : Addr → Prop} {h h' : Heap} (hk : ∀ b o, S b → h.get? b = some o → h'.get? b = some o) (hs : ∀ b, S b → S' b) : ∀ {v : Value} {d : PyData}, Rd S h v d → Rd S' h' v d
  | _, _, .none => .none
  | _, _, .bool b => .bool b
  | _, _, .int i t => .int i t
  | _, _, .str x t => .str x t
  | _, _, .list e m r => .list (hk _ _ m e) (hs _ m) (RdA.keeps hk hs r)
  | _, _, .tuple e m r => .tuple (hk _ _ m e) (hs _ m) (RdA.keeps hk hs r)
theorem RdA.keeps {S S' : Addr → Prop} {h h' : Heap} (hk : ∀ b o, S b → h.get? b = some o → h'.get? b = some o) (hs : ∀ b, S b → S' b) : ∀ {vs : List Value} {ds : List PyData}, RdA S h vs ds → RdA S' h' vs ds
  | _, _, .nil => .nil
  | _, _, .cons r q => .cons (Rd.keeps hk hs r) (RdA.keeps hk hs q)
end
theorem RdA.append {S : Addr → Prop} {h : Heap} : ∀ {vs us : List Value} {ds es : List PyData}, RdA S h vs ds → RdA S h us es → RdA S h (vs ++ us) (ds ++ es)
  | _, _, _, _, .nil, q => q
  | _, _, _, _, .cons r p, q => .cons r (RdA.append p q)
theorem RdA.take {S : Addr → Prop} {h : Heap} : ∀ {vs : List Value} {ds : List PyData} (k : Nat), RdA S h vs ds → RdA S h (vs.take k) (ds.take k)
  | _, _, 0, _ => by simp only [List.take_zero]; exact .nil
  | _, _, _ + 1, .nil => .nil
  | _, _, k + 1, .cons r q => .cons r (RdA.take k q)
theorem RdA.length {S : Addr → Prop} {h : Heap} : ∀ {vs : List Value} {ds : List PyData}, RdA S h vs ds → vs.length = ds.length
  | _, _, .nil => rfl
  | _, _, .cons _ q => by rw [List.length_cons, List.length_cons, RdA.length q]
theorem RdA.get {S : Addr → Prop} {h : Heap} : ∀ {vs : List Value} {ds : List PyData}, RdA S h vs ds → ∀ {i : Nat} {v : Value}, vs[i]? = some v → ∃ d, ds[i]? = some d ∧ Rd S h v d
  | _, _, .nil, i, v, e => by simp at e
  | _, _, .cons r q, 0, v, e => by simp at e; subst e; exact ⟨_, rfl, r⟩
  | _, _, .cons r q, i + 1, v, e => by simp at e; obtain ⟨d, e1, r1⟩ := RdA.get q e; exact ⟨d, by simpa using e1, r1⟩
theorem RdA.strs {S : Addr → Prop} {h : Heap} : ∀ {vs : List Value} {xs : List Str}, RdA S h vs (xs.map .str) → StrsAre vs xs
  | _, [], r => by cases r; exact .nil
  | _, x :: xs, r => by
    cases r with
    | cons r q =>
      cases r with
      | str x t => exact .cons x t (RdA.strs q)
theorem RdA.of_strs {S : Addr → Prop} {h : Heap} {vs : List Value} {xs : List Str} (r : StrsAre vs xs) : RdA S h vs (xs.map .str) := by
  induction r with
  | nil => exact .nil
  | cons x t _ ih => exact .cons (.str x t) ih
end Mine
end

section
open PySem PySem.W PyProof.Rows PySem.Calls
set_option maxRecDepth 100000
namespace Mine
theorem cut_unique {c : Nat} : ∀ {p q X Y : List Nat}, c ∉ p → c ∉ q → p ++ c :: X = q ++ c :: Y → p = q ∧ X = Y
  | [], [], _, _, _, _, h => ⟨rfl, by injection h⟩
  | [], b :: q, _, _, _, hq, h => by
    injection h with h1 _
    exact absurd (h1 ▸ List.mem_cons_self) hq
  | a :: p, [], _, _, hp, _, h => by
    injection h with h1 _
    exact absurd (h1 ▸ List.mem_cons_self) hp
  | a :: p, b :: q, X, Y, hp, hq, h => by
    injection h with h1 h2
    obtain ⟨e1, e2⟩ := cut_unique (fun m => hp (List.mem_cons_of_mem _ m)) (fun m => hq (List.mem_cons_of_mem _ m)) h2
    exact ⟨by rw [h1, e1], e2⟩
theorem str_ext {a b : Str} (h : a.cps.toList = b.cps.toList) : a = b := by
  cases a; cases b
  simp only [Str.mk.injEq]
  exact Array.toList_inj.mp h
theorem join_cons2 (c : Nat) (p q : Str) (r : List Str) : (Str.join ⟨#[c]⟩ (p :: q :: r)).cps.toList = p.cps.toList ++ c :: (Str.join ⟨#[c]⟩ (q :: r)).cps.toList := by
  show (p ++ ⟨#[c]⟩ ++ Str.join ⟨#[c]⟩ (q :: r)).cps.toList = _
  simp [Str.cps_append]
theorem join_inj {c : Nat} : ∀ {P Q : List Str}, P ≠ [] → Q ≠ [] → (∀ p ∈ P, c ∉ p.cps.toList) → (∀ q ∈ Q, c ∉ q.cps.toList) → (Str.join ⟨#[c]⟩ P).cps.toList = (Str.join ⟨#[c]⟩ Q).cps.toList → P = Q
  | [], _, h, _, _, _, _ => absurd rfl h
  | _ :: _, [], _, h, _, _, _ => absurd rfl h
  | [p], [q], _, _, _, _, h => by rw [str_ext (a := p) (b := q) h]
  | [p], q :: q' :: r, _, _, hp, _, h => by
    rw [join_cons2] at h
    have : c ∈ (Str.join ⟨#[c]⟩ [p]).cps.toList := by rw [h]; simp
    exact absurd this (hp p List.mem_cons_self)
  | p :: p' :: r, [q], _, _, _, hq, h => by
    rw [join_cons2] at h
    have : c ∈ (Str.join ⟨#[c]⟩ [q]).cps.toList := by rw [← h]; simp
    exact absurd this (hq q List.mem_cons_self)
  | p :: p' :: r, q :: q' :: r', _, _, hp, hq, h => by
    rw [join_cons2, join_cons2] at h
    obtain ⟨e1, e2⟩ := cut_unique (hp p List.mem_cons_self) (hq q List.mem_cons_self) h
    rw [str_ext e1, join_inj (List.cons_ne_nil _ _) (List.cons_ne_nil _ _) (fun x hx => hp x (List.mem_cons_of_mem _ hx)) (fun x hx => hq x (List.mem_cons_of_mem _ hx)) e2]
theorem split_ne (x y : Str) : Txt.split x y ≠ [] := by
  unfold Txt.split
  split
  · simp
  · split
    · simp
    · intro h
      have := length_partsBetween x (Builtin.Str.occurrences x y 0 x.length (x.length + 1)) y.length
      rw [h] at this
      simp at this
theorem split_join {c : Nat} {P : List Str} (hP : P ≠ []) (hf : ∀ p ∈ P, c ∉ p.cps.toList) : Txt.split (Str.join ⟨#[c]⟩ P) ⟨#[c]⟩ = P := by
  refine join_inj (split_ne _ _) hP (fun p hp => StrLaws.split_free _ c p hp) hf ?_
  rw [StrLaws.join_split]
theorem replace_join {c : Nat} {z : Str} {P : List Str} (hP : P ≠ []) (hf : ∀ p ∈ P, c ∉ p.cps.toList) : Txt.replace (Str.join ⟨#[c]⟩ P) ⟨#[c]⟩ z = Str.join z P := by
  rw [StrLaws.replace_one, split_join hP hf]
end Mine
end

section
open PySem PySem.W PyProof.Rows PySem.Calls PySem.NumText
set_option maxRecDepth 100000
set_option maxHeartbeats 8000000
namespace Mine
def normTexts (xs : List Str) : List Str := if xs.all (fun x => (PySem.intText? x).isSome) then xs.map numStr else xs
theorem Bad.none {x : Str} (h : Bad x) : PySem.intText? x = none := by
  rcases read0 x h.short with ⟨n, _, _, h3⟩ | ⟨h1, _⟩
  · rw [h.no] at h3; cases h3
  · exact h1
theorem normTexts_bad {xs : List Str} {x : Str} (hx : x ∈ xs) (h : Bad x) : normTexts xs = xs := by
  unfold normTexts
  rw [if_neg]
  intro hall
  have := List.all_eq_true.mp hall x hx
  rw [h.none] at this
  cases this
theorem normTexts_length (xs : List Str) : (normTexts xs).length = xs.length := by
  unfold normTexts
  split <;> simp
theorem normTexts_num {xs : List Str} (h : ∀ x ∈ xs, ∃ n, Num x n) : normTexts xs = xs.map numStr := by
  unfold normTexts
  rw [if_pos]
  refine List.all_eq_true.mpr fun x hx => ?_
  obtain ⟨n, hn⟩ := h x hx
  rw [hn.reads]; rfl
theorem strsAre_mem {vs : List Value} {xs : List Str} (h : StrsAre vs xs) : ∀ {x u}, Value.str x u ∈ vs → x ∈ xs := by
  induction h with
  | nil => intro x u hm; cases hm
  | cons y t _ ih =>
    intro x u hm
    rcases List.mem_cons.mp hm with e | hm
    · injection e with e1 _; exact e1 ▸ List.mem_cons_self
    · exact List.mem_cons_of_mem _ (ih hm)
theorem strsAre_of_mem {vs : List Value} {xs : List Str} (h : StrsAre vs xs) : ∀ {x}, x ∈ xs → ∃ u, Value.str x u ∈ vs := by
  induction h with
  | nil => intro x hm; cases hm
  | cons y t _ ih =>
    intro x hm
    rcases List.mem_cons.mp hm with e | hm
    · exact ⟨t, e ▸ List.mem_cons_self⟩
    · obtain ⟨u, hu⟩ := ih hm; exact ⟨u, List.mem_cons_of_mem _ hu⟩
theorem strsAre_val {vs : List Value} {xs : List Str} (h : StrsAre vs xs) : ∀ {v}, v ∈ vs → ∃ x u, v = .str x u ∧ x ∈ xs := by
  induction h with
  | nil => intro x hm; cases hm
  | cons y t _ ih =>
    intro v hm
    rcases List.mem_cons.mp hm with e | hm
    · exact ⟨y, t, e, List.mem_cons_self⟩
    · obtain ⟨x, u, e, hu⟩ := ih hm; exact ⟨x, u, e, List.mem_cons_of_mem _ hu⟩
theorem strsAre_map {vs : List Value} {xs : List Str} (h : StrsAre vs xs) : vs.map numV = xs.map numStr := by
  induction h with
  | nil => rfl
  | cons y t _ ih => rw [List.map_cons, List.map_cons, ih]; rfl
theorem strsAre_take {vs : List Value} {xs : List Str} (h : StrsAre vs xs) : ∀ k, StrsAre (vs.take k) (xs.take k) := by
  induction h with
  | nil => intro k; cases k <;> exact .nil
  | cons y t _ ih => intro k; cases k with
    | zero => exact .nil
    | succ k => exact .cons y t (ih k)

theorem hide_none_of {h₀ h : Heap} {L' b : Addr} {m : Str → Option Value} (F : Fr h₀ L' h m) (e : h.get? b = none) : h₀.get? b = none := by
  cases hq : h₀.get? b with
  | none => rfl
  | some o => rw [F.keep b o hq] at e; cases e
theorem C_norm {w : World} {dp un : Nat} {gd : Option (List Code)} {s : Shared} {h₀ : Heap} {L a : Addr} {m : Str → Option Value} {cn : Str} {cs : Scope} {ccd : Value} {mean : ExcName → Option Value} {mg mb : Str → Option Value} {Q E : Value → Shared → Prop} {version build : Str} {t u : Tok}
    (F : Fr h₀ L s.heap m) (X₀ : (hd.heap_39 w.params).In h₀) (T : Top hd.view_39 loose mean mg mb h₀) (hdp : dp + 20 < recursionLimit) (hun : un + 100 < cLine) (hck : cs.kind = .function) (hvl : version.length < 1000) (hbl : build.length < 1000)
    (hxs : ∀ x ∈ Txt.split version (Str.ofString ".") ++ (if build.length = 0 then [] else [build]), (∃ n, Num x n) ∨ Bad x)
    (hlen : (Txt.split version (Str.ofString ".")).length ≤ 1000)
    (hj : (((normTexts (Txt.split version (Str.ofString ".") ++ (if build.length = 0 then [] else [build]))).take 3).map (·.length)).sum + ((normTexts (Txt.split version (Str.ofString ".") ++ (if build.length = 0 then [] else [build]))).take 3).length * 1 ≤ 16777216)
    (ret : ∀ t' h' tk, KeepX L s.heap h' → Q (.str (Txt.join (Str.ofString ".") ((normTexts (Txt.split version (Str.ofString ".") ++ (if build.length = 0 then [] else [build]))).take 3)) t') { s with heap := h', toks := tk }) :
    wpC (model Challenge.rw_mj0124_01.row.prog w) (Ar dp un gd [envOf cn cs L a ccd]) (call (.ref 59) [.str version t, .str build u]) Q E s := by
  (revert X₀; (w_top off; k_fill); intro X₀)
  refine wpC_call ?_
  refine' enter_X (binds := [(Str.ofString "version", .str version t), (Str.ofString "build", .str build u)]) (cn := cn) (cs := cs) (a := a) (ccd := ccd) F X₀ T ?k6 ?k7 ?k8 ?k9 ?kB ?_ hck ?c2 ?c3 ?c4 ?c5
  (case k6 => k_is)
  (case k7 => k_is)
  (case k8 => k_room)
  (case k9 => exact binds_K (by k_in) rfl (by k_is) rfl rfl rfl)
  (case kB => exact locs rfl)
  (case c2 => exact rfl)
  (case c3 => exact rfl)
  (case c4 => exact rfl)
  (case c5 => decide)
  intro oL h₁ hL Fs X T' F₁ N₁
  dsimp only
  refine wpC_execs_cons (wpC_of ?_)
  k_steps
  rename_i l h₂ k₂ hl1 hl2 hl3 hl4 h₃ F₃ N₃
  have hb0n : ∀ b, s.heap.objs.size ≤ b → (s.heap.hide L).get? b = none := fun b hb => Heap.get?_none_of_le (by rw [Heap.hide_size]; exact hb)
  refine wpC_execs_cons (wpC_mono (Q := fun f s' => Box (f = .next ∧ ∃ lst vs c h tk, s' = { s with heap := h, toks := tk } ∧
    Fr (s.heap.hide L) s.heap.objs.size h (fun y => if y = Str.ofString "l" then some (.ref lst) else List.lookup y [(Str.ofString "version", Value.str version t), (Str.ofString "build", .str build u)].reverse) ∧
    News (s.heap.hide L) s.heap.objs.size h [(lst, listObj vs c), (L, oL)] ∧ StrsAre vs.toList (Txt.split version (Str.ofString ".") ++ if build.length = 0 then [] else [build]))) (E := fun _ _ => False) (wpC_of ?_) ?_ fun _ _ x => x)
  · have hz : (strValues l).toArray.size ≤ 1000 := by
      have := congrArg List.length hl1
      rw [List.length_map] at this
      have e2 := strsAre_length hl2
      simp only [List.size_toArray, List.length_map] at e2 ⊢
      omega
    k_steps
    · refine append1 F₃ (N₃ _ List.mem_cons_self).1 (N₃ _ List.mem_cons_self).2.2 (Nat.le_trans hz (by decide)) fun h₄ c₄ F₄ hl₄ hs₄ => ?_
      refine wpAny_execs_nil ⟨rfl, _, (strValues l).toArray.push (.str build u), c₄, h₄, _, rfl, F₄, fun p hp => ?_, ?_⟩
      · rcases List.mem_cons.mp hp with rfl | hp
        · exact ⟨hl₄, (N₃ _ List.mem_cons_self).2⟩
        · rw [List.mem_singleton.mp hp]
          have := N₃ _ (List.mem_cons_of_mem _ List.mem_cons_self)
          refine ⟨(hs₄.2 _ fun e => ?_).trans this.1, this.2⟩
          have e1 := (N₃ _ List.mem_cons_self).1
          rw [← e, this.1] at e1
          obtain ⟨_, _, ⟨es, ep, hd⟩, _⟩ := Fs
          rw [Option.some.inj e1] at hd; cases hd
      · rw [if_neg (by omega), Array.toList_push]
        rw [hl1] at hl2
        exact strsAre_snoc hl2 build u
    · refine ⟨rfl, _, _, _, _, _, rfl, F₃, N₃, ?_⟩
      rw [if_pos (by omega), List.append_nil, ← hl1]
      exact hl2
  rintro f s' ⟨rfl, lst, vs, c₄, h₄, tk₄, rfl, F₄, N₄, hS⟩
  dsimp only
  have hlst := (N₄ _ List.mem_cons_self).1
  have hvz : vs.toList.length ≤ 1001 := by
    rw [strsAre_length hS, List.length_append]
    split <;> simp <;> omega
  have hlL : lst ≠ L := fun e => by
    have this := N₄ _ (List.mem_cons_of_mem _ List.mem_cons_self)
    rw [e, this.1] at hlst
    obtain ⟨_, _, ⟨es, ep, hd⟩, _⟩ := Fs
    rw [Option.some.inj hlst] at hd; cases hd
  refine wpC_execs_cons (wpC_mono (Q := fun f s' => Box (f = .next ∧ ∃ st vs c h tk sl, s' = { s with heap := h, toks := tk } ∧
    Fr (s.heap.hide L) s.heap.objs.size h (fun y => if y = Str.ofString "strings" then some (.ref st) else if y = Str.ofString "l" then some (.ref lst) else List.lookup y [(Str.ofString "version", Value.str version t), (Str.ofString "build", .str build u)].reverse) ∧
    News (s.heap.hide L) s.heap.objs.size h [(st, listObj vs c), (L, { oL with slots := sl })] ∧ StrsAre vs.toList (normTexts (Txt.split version (Str.ofString ".") ++ if build.length = 0 then [] else [build])))) (E := fun _ _ => False) (wpC_Try ?_) ?_ fun _ _ x => x)
  · refine wpC_execs_cons (wpC_Assign_Name (wpC_Call_Name ?_))
    k_steps
    refine callWithC_type rfl (evalArgsC_plain (splicedC_cons (wpC_of ?_)))
    rw [if_neg Bool.false_ne_true]
    k_steps
    refine call_map_list (xs := vs) ⟨_, hlst, rfl, _, rfl⟩ fun h₅ i₅ t₅ m₅ hi₅ ht₅ hm₅ ei et em hz₅ up₅ => ?_
    have F₅ := F₄.keeps up₅
    have N₅ : News (s.heap.hide L) s.heap.objs.size h₅ [(lst, listObj vs c₄), (L, oL)] := fun p hp => ⟨up₅ _ _ (N₄ p hp).1, (N₄ p hp).2⟩
    k_steps
    refine call_map_map hm₅ fun h₆ t₆ m₆ ht₆ hm₆ et₆ em₆ hz₆ up₆ => ?_
    refine splicedC_nil ?_
    show wpC _ _ (call (.type "list") [.ref m₆]) _ _ _
    refine call_list_map (vs := vs.toList) rfl ?_ h₄ ?_ ?_ ?_ ?_ ?_ ⟨⟨⟨_, up₆ _ _ hi₅, rfl, rfl⟩, up₆ _ _ ht₅, up₆ _ _ hm₅⟩, ht₆, hm₆⟩ ⟨_, up₆ _ _ (up₅ _ _ hlst), rfl, _, rfl⟩ fun b o e => up₆ b o (up₅ b o e)
    · exact Nat.le_trans hvz (by rw [sizeLine_eq]; omega)
    · rw [ei]; exact Heap.get?_none_of_le (Nat.le_refl _)
    · have e1 : h₅.objs.size = i₅ + 3 := hz₅
      have e2 : h₆.objs.size = t₆ + 2 := hz₆
      have e3 : t₆ = h₅.objs.size := et₆
      have e4 : i₅ = h₄.objs.size := ei
      show h₄.objs.size ≤ h₆.objs.size
      rw [e2, e3, e1, e4]; exact Nat.le_trans (Nat.le_add_right _ 3) (Nat.le_add_right _ 2)
    · intro v hv
      obtain ⟨x, u, rfl, hx⟩ := strsAre_val hS hv
      exact ⟨x, u, rfl, hxs x hx⟩
    · intro hbad h₇ e tk₇ he
      obtain ⟨x, ux, hxm, hxb⟩ := hbad
      refine caught1 (new := [(lst, listObj vs c₄)]) rfl Fs he F₄ N₄ ⟨hlL, trivial⟩ T' (by decide +kernel) (by decide +kernel) (by decide +kernel) (by decide +kernel) fun h₈ sl Fs₈ F₈ N₈ => ?_
      simp only [List.cons_append, List.nil_append] at N₈
      k_steps
      rename_i h₉ F₉ N₉
      refine ⟨rfl, _, _, _, _, _, sl, rfl, F₉, N₉, ?_⟩
      rw [normTexts_bad (strsAre_mem hS hxm) hxb]
      exact hS
    · intro hok h₇ tk₇ os c₇ S hS0 up₇ hS7 hos
      have F₇ := F₄.keeps up₇
      have hSL : S ≠ L := fun e => by rw [e, (N₄ _ (List.mem_cons_of_mem _ List.mem_cons_self)).1] at hS0; cases hS0
      have N₇ : News (s.heap.hide L) s.heap.objs.size h₇ [(S, listObj os c₇), (L, oL)] := fun p hp => by
        rcases List.mem_cons.mp hp with rfl | hp
        · refine ⟨hS7, fun e => ?_, ?_⟩
          · obtain ⟨o, es, ep, ho, _⟩ := F₄.ns
            rw [show S = s.heap.objs.size from e, ho] at hS0; cases hS0
          · exact hide_none_of F₄ hS0
        · rw [List.mem_singleton.mp hp]
          have := N₄ _ (List.mem_cons_of_mem _ List.mem_cons_self)
          exact ⟨up₇ _ _ this.1, this.2⟩
      k_steps
      rename_i h₈ F₈ N₈
      refine wpC_of (wpAny_execs_nil (wpAny_execs_nil ⟨rfl, S, os, c₇, h₈, _, oL.slots, rfl, F₈, N₈, ?_⟩))
      rw [normTexts_num fun x hx => ?_]
      · rw [strsAre_map hS] at hos; exact hos
      · obtain ⟨ux, hu⟩ := strsAre_of_mem hS hx
        exact hok x ux hu
  rintro f s' ⟨rfl, st, vs, c₅, h₅, tk₅, sl, rfl, F₅, N₅, hS₅⟩
  dsimp only
  have hst := (N₅ _ List.mem_cons_self).1
  have hvz₅ : vs.toList.length ≤ 100000 := by
    rw [strsAre_length hS₅, normTexts_length, ← strsAre_length hS]
    exact Nat.le_trans hvz (by decide)
  refine wpC_of ?_
  k_steps
  rename_i h₆ F₆ N₆
  have hcut : StrsAre (slicePick vs none (some 3) none).toList ((normTexts (Txt.split version (Str.ofString ".") ++ (if build.length = 0 then [] else [build]))).take 3) := by
    rw [show (some (3 : Int)) = some ((3 : Nat) : Int) from rfl, slicePick_upto']
    exact strsAre_take hS₅ 3
  refine join_list ⟨_, (N₆ _ List.mem_cons_self).1, rfl, _, rfl⟩ hcut hj fun t₇ k₇ => ?_
  k_steps
  rename_i h₈ F₈ N₈
  exact ret _ _ _ (leave_X (sl := sl) hL F₈ N₈ (List.mem_cons_of_mem _ (List.mem_cons_of_mem _ List.mem_cons_self)))
end Mine
end

section
open PySem PySem.Sre PySem.Builtin.Re
set_option maxRecDepth 100000
namespace Mine
theorem slot_split : Slot "re.Pattern" "split" "re.Pattern.split" :=
  .of (owner := "re.Pattern") (n := "split") (by rw [typeLookup_type, builtinLookup_eq_fast]; kernel_rfl) (by decide +kernel) (by decide +kernel) (by decide +kernel)
    (by first | exact .inl (by decide +kernel) | exact .inr (by decide +kernel)) (by rw [isSubtype_type]; kernel_rfl)
theorem entry_split : entryFor table "re.Pattern.split" = some Builtin.«re.Pattern.split» := entryFor_of_tree (by kernel_rfl)
theorem args_split (a b : Value) : argsOk "re.Pattern.split" ⟨[a, b], []⟩ := by unfold argsOk; kernel_rfl
end Mine
namespace Mine
open PySem
theorem type_split : typeOf (.builtin "re.Pattern.split") = pure (.type "method_descriptor") := by show builtinType _ = _; rw [builtinType_eq_fast]; kernel_rfl
end Mine
end

section
open PySem PySem.W PyProof.Rows PySem.Calls
set_option maxRecDepth 100000
set_option maxHeartbeats 4000000
namespace Mine
theorem plainAttrs_pat : PlainAttrs "re.Pattern" :=
  ⟨⟨"object.__getattribute__", by rw [typeLookup_type, builtinLookup_eq_fast]; kernel_rfl, by decide +kernel⟩, by rw [typeLookup_type, builtinLookup_eq_fast]; kernel_rfl⟩
theorem pat_K {w : World} {h : Heap} (X : (hd.heap_39 w.params).In h) : PatAt h 43 ∧ ∃ o, h.get? 43 = some o ∧ o.cls = .type "re.Pattern" ∧ o.dict = none := by
  have h43 := X 43 _ rfl
  have h42 := X 42 _ rfl
  exact ⟨⟨_, _, _, _, _, 42, _, _, _, _, h43, rfl, rfl, h42, rfl, by decide +kernel⟩, _, h43, rfl, rfl⟩
end Mine
end

section
open PySem PySem.W PyProof.Rows PySem.Calls PySem.NumText
set_option maxRecDepth 100000
set_option maxHeartbeats 8000000
namespace Mine
abbrev cmap (vt vv : Option Value) (R : Addr) (norm : Str) (t : Tok) : Str → Option Value := fun y => if y = Str.ofString "t" then vt else if y = Str.ofString "v" then vv else if y = Str.ofString "result" then some (.ref R) else
  if y = Str.ofString "component_re" then some (.ref 43) else List.lookup y [(Str.ofString "version", Value.str norm t)].reverse
inductive Flat : List Value → List PyData → Prop
  | nil : Flat [] []
  | int (n : Int) (t : Tok) {vs ds} : Flat vs ds → Flat (.int n t :: vs) (.int n :: ds)
  | str (x : Str) (t : Tok) {vs ds} : Flat vs ds → Flat (.str x t :: vs) (.str x :: ds)
def stage (x : Str) : Int := if x = Str.ofString "rc" then 50 else if x = Str.ofString "p" then 200 else 0
abbrev outSep (x : Str) : Bool := (Builtin.Str.occurrences (Str.ofString "._+-") x 0 (Str.ofString "._+-").length 1).isEmpty
inductive Kind (x : Str) : List PyData → Prop
  | sep : outSep x = false → Kind x []
  | num (n : Int) : Num x n → outSep x = true → Kind x [.int 100, .int n]
  | word : Bad x → outSep x = true → x ∈ [Str.ofString "x", Str.ofString "rc", Str.ofString "p", Str.ofString " "] → Kind x [.int (stage x), .str x]
inductive Kinds : List Str → List PyData → Prop
  | nil : Kinds [] []
  | snoc {xs ds x es} : Kinds xs ds → Kind x es → Kinds (xs ++ [x]) (ds ++ es)
theorem strsAre_get {vs : List Value} {xs : List Str} (h : StrsAre vs xs) : ∀ {i : Nat} {v}, vs[i]? = some v → ∃ x u, v = .str x u ∧ xs[i]? = some x := by
  induction h with
  | nil => intro i v hv; simp at hv
  | cons y t _ ih =>
    intro i v hv
    cases i with
    | zero => simp at hv; exact ⟨y, t, hv.symm, by simp⟩
    | succ i => simp at hv; obtain ⟨x, u, e, hx⟩ := ih hv; exact ⟨x, u, e, by simpa using hx⟩
theorem Flat.append {vs us : List Value} {ds es : List PyData} (h : Flat vs ds) (h' : Flat us es) : Flat (vs ++ us) (ds ++ es) := by
  induction h with
  | nil => exact h'
  | int n t _ ih => exact .int n t ih
  | str x t _ ih => exact .str x t ih
theorem cmap_v (vt vv : Option Value) (R : Addr) (norm : Str) (t : Tok) (v : Value) : (fun y => if y = Str.ofString "v" then some v else cmap vt vv R norm t y) = cmap vt (some v) R norm t := by
  funext y
  by_cases h1 : y = Str.ofString "v"
  · subst h1; rfl
  · simp only [cmap, if_neg h1]
theorem cmap_t (vt vv : Option Value) (R : Addr) (norm : Str) (t : Tok) (v : Value) : (fun y => if y = Str.ofString "t" then some v else cmap vt vv R norm t y) = cmap (some v) vv R norm t := by
  funext y
  by_cases h1 : y = Str.ofString "t"
  · subst h1; rfl
  · simp only [cmap, if_neg h1]
theorem Fr_ext {h₀ h : Heap} {L : Addr} {m m' : Str → Option Value} (F : Fr h₀ L h m) (e : ∀ y, m y = m' y) : Fr h₀ L h m' := (funext e) ▸ F
theorem cmap_tv (vt vv C : Option Value) (R : Addr) (norm : Str) (t : Tok) (a b : Value) (y : Str) : (if y = Str.ofString "t" then some a else if y = Str.ofString "v" then some b else if y = Str.ofString "v" then C else cmap vt vv R norm t y) = cmap (some a) (some b) R norm t y := by
  by_cases h1 : y = Str.ofString "t"
  · simp only [cmap, if_pos h1]
  · by_cases h2 : y = Str.ofString "v"
    · simp only [cmap, if_neg h1, if_pos h2]
    · simp only [cmap, if_neg h1, if_neg h2]
theorem cmap_tv' (vt vv : Option Value) (R : Addr) (norm : Str) (t : Tok) (a b : Value) (y : Str) : (if y = Str.ofString "t" then some a else if y = Str.ofString "v" then some b else cmap vt vv R norm t y) = cmap (some a) (some b) R norm t y := by
  by_cases h1 : y = Str.ofString "t"
  · simp only [cmap, if_pos h1]
  · by_cases h2 : y = Str.ofString "v"
    · simp only [cmap, if_neg h1, if_pos h2]
    · simp only [cmap, if_neg h1, if_neg h2]
local macro_rules | `(tactic| walk_at "getMethod ref") => `(tactic| (k_here; (with_reducible show wpAny _ _ (getMethod _ (PySem.Str.ofString "get") _) _ _ _); k_dflt (kt_k; kt_at_method)))
local macro_rules | `(tactic| walk_at "getMethod ref") => `(tactic| (k_here; (with_reducible show wpAny _ _ (getMethod _ (PySem.Str.ofString "split") _) _ _ _); refine Box.out ?_))
theorem C_comp {w : World} {dp un : Nat} {gd : Option (List Code)} {s : Shared} {h₀ : Heap} {L a : Addr} {m : Str → Option Value} {cn : Str} {cs : Scope} {ccd : Value} {mean : ExcName → Option Value} {mg mb : Str → Option Value} {Q E : Value → Shared → Prop} {norm : Str} {t : Tok}
    (F : Fr h₀ L s.heap m) (X₀ : (hd.heap_39 w.params).In h₀) (T : Top hd.view_39 loose mean mg mb h₀) (hdp : dp + 20 < recursionLimit) (hun : un + 100 < cLine) (hck : cs.kind = .function) (hvl : norm.length < 1000)
    (hpc : ∀ x ∈ pieces norm.cps norm.cps.size (norm.cps.size + 1) 0, ∃ es, Kind x es)
    (ret : ∀ R rs c ds h' tk, KeepX L s.heap h' → s.heap.get? R = none → h'.get? R = some (listObj rs c) → Flat rs.toList ds → Kinds (pieces norm.cps norm.cps.size (norm.cps.size + 1) 0) ds → Q (.ref R) { s with heap := h', toks := tk }) :
    wpC (model Challenge.rw_mj0124_01.row.prog w) (Ar dp un gd [envOf cn cs L a ccd]) (call (.ref 51) [.str norm t]) Q E s := by
  (revert X₀; (w_top off; k_fill); intro X₀)
  refine wpC_call ?_
  refine' enter_X (binds := [(Str.ofString "version", .str norm t)]) (cn := cn) (cs := cs) (a := a) (ccd := ccd) F X₀ T ?k6 ?k7 ?k8 ?k9 ?kB ?_ hck ?c2 ?c3 ?c4 ?c5
  (case k6 => k_is)
  (case k7 => k_is)
  (case k8 => k_room)
  (case k9 => exact BindsTo.of_eq rfl)
  (case kB => exact locs rfl)
  (case c2 => exact rfl)
  (case c3 => exact rfl)
  (case c4 => exact rfl)
  (case c5 => decide)
  intro oL h₁ hL Fs X T' F₁ N₁
  dsimp only
  refine wpC_execs_cons (wpC_of ?_)
  k_steps
  refine wpC_execs_cons (wpC_of ?_)
  k_steps
  refine wpC_execs_cons (wpC_For ?_)
  k_steps
  rename_i l1 h₃ F₃ N₃
  have P₃ := pat_K (X.keeps F₃.keep)
  obtain ⟨o43, ho43, hc43, hd43⟩ := P₃.2
  refine ⟨?_⟩
  refine getMethod_builtin ⟨o43, ho43, hc43⟩ plainAttrs_pat slot_split type_split (fun b e => by injection e with e; exact ⟨o43, e ▸ ho43, hd43⟩) ?_
  k_steps
  rename_i _ R _
  refine call_meets slot_split ⟨o43, ho43, hc43⟩ entry_split (args_split _ _) (split_meets 43 norm t (by omega)) ⟨P₃.1, fun vs tk hvs => ?_⟩
  have hRL : R ≠ L := Nat.ne_of_gt l1
  have hR0 : s.heap.get? R = none := (hide_get hRL).symm.trans (N₃ _ List.mem_cons_self).2.2
  have hL'lt : s.heap.objs.size < h₃.objs.size := F₃.ns.lt
  have hbn : ∀ b, h₃.objs.size ≤ b → (s.heap.hide L).get? b = none := fun b hb => Heap.get?_none_of_le (by rw [Heap.hide_size]; exact Nat.le_trans (Nat.le_of_lt hL'lt) hb)
  have hlen := strsAre_length hvs
  have hplen := pieces_len norm.cps norm.cps.size (norm.cps.size + 1) 0
  have hnz : norm.cps.size < 1000 := hvl
  generalize hP : pieces norm.cps norm.cps.size (norm.cps.size + 1) 0 = PS at *
  refine for_listF (J := fun i m h => Box (∃ vt vv rs c sl ds, m = cmap vt vv R norm t ∧ h.get? R = some (listObj rs c) ∧ h.get? L = some { oL with slots := sl } ∧ Flat rs.toList ds ∧ rs.size ≤ 2 * i ∧ Kinds (PS.take i) ds)) (hb := s.heap.hide L) (vs := vs) rfl rfl rfl ?_ (F₃.push _) ?_ ?_ ?_ ?_
  · exact ⟨_, Heap.get?_push_size _ rfl, rfl, _, rfl⟩
  · refine ⟨none, none, #[], 0, oL.slots, [], ?_, Heap.get?_push_of_some _ (N₃ _ List.mem_cons_self).1, Heap.get?_push_of_some _ (N₃ _ (List.mem_cons_of_mem _ List.mem_cons_self)).1, .nil, Nat.le_refl _, .nil⟩
    funext y
    by_cases h1 : y = Str.ofString "t"
    · subst h1; rfl
    · by_cases h2 : y = Str.ofString "v"
      · subst h2; rfl
      · simp only [cmap, if_neg h1, if_neg h2]
  · rintro i m h h' ⟨vt, vv, rs, c, sl, ds, rfl, hR, hLs, r⟩ hk
    refine ⟨vt, vv, rs, c, sl, ds, rfl, hk _ _ hR (.inr ⟨_, _, rfl⟩), hk _ _ hLs (.inl ⟨?_, ?_⟩), r⟩
    · have := Heap.lt_size hL
      have e2 := Heap.lt_size (N₃ _ (List.mem_cons_of_mem _ List.mem_cons_self)).1
      show L < _
      rw [Heap.size_push]
      exact Nat.lt_succ_of_lt e2
    · exact Nat.ne_of_lt (Heap.lt_size hL)
  · rintro i v m h tk hv ⟨vt, vv, rs, c, sl, ds, rfl, hR, hLs, hfl, hsz, hks⟩ hl hit F₄
    obtain ⟨x, u, rfl, hxi⟩ := strsAre_get hvs hv
    have hxm : x ∈ PS := List.mem_of_getElem? hxi
    obtain ⟨es, hx⟩ := hpc x hxm
    have hilt : i < vs.length := (List.getElem?_eq_some_iff.mp hv).1
    obtain ⟨opl, hopl, hopc, kpl, hopd⟩ := id hl
    obtain ⟨oit, hoit, hoic, hoid⟩ := id hit
    have Fs₄ : TI.Frs [envOf cn cs L a ccd] [(L, { oL with slots := sl })] := by
      obtain ⟨q1, q2, q3, _⟩ := Fs
      exact ⟨q1, q2, q3, trivial⟩
    have N₄ : News (s.heap.hide L) s.heap.objs.size h [(R, listObj rs c), (h₃.objs.size, opl), ((h₃.push { cls := .type "list", data := .seq vs.toArray }).objs.size, oit), (L, { oL with slots := sl })] := by
      intro p hp
      rcases List.mem_cons.mp hp with rfl | hp
      · exact ⟨hR, (N₃ _ List.mem_cons_self).2⟩
      rcases List.mem_cons.mp hp with rfl | hp
      · exact ⟨hopl, Nat.ne_of_gt hL'lt, hbn _ (Nat.le_refl _)⟩
      rcases List.mem_cons.mp hp with rfl | hp
      · refine ⟨hoit, ?_, hbn _ ?_⟩
        · show (h₃.push _).objs.size ≠ _
          rw [Heap.size_push]; exact Nat.ne_of_gt (Nat.lt_succ_of_lt hL'lt)
        · show _ ≤ (h₃.push _).objs.size
          rw [Heap.size_push]; exact Nat.le_succ _
      · rw [List.mem_singleton.mp hp]
        exact ⟨hLs, (N₃ _ (List.mem_cons_of_mem _ List.mem_cons_self)).2⟩
    have fin : ∀ vt' vv' rs' c' sl' es' h' tk', Kind x es' → Fr (s.heap.hide L) s.heap.objs.size h' (cmap vt' vv' R norm t) → News (s.heap.hide L) s.heap.objs.size h' [(R, listObj rs' c'), (h₃.objs.size, opl), ((h₃.push { cls := .type "list", data := .seq vs.toArray }).objs.size, oit), (L, { oL with slots := sl' })] →
        (∃ us, rs' = rs ++ us ∧ Flat us.toList es' ∧ us.size ≤ 2) →
        ∃ m' h'' tk'', ({ s with heap := h', toks := tk' } : Shared) = { s with heap := h'', toks := tk'' } ∧ Box (∃ vt vv rs c sl ds, m' = cmap vt vv R norm t ∧ h''.get? R = some (listObj rs c) ∧ h''.get? L = some { oL with slots := sl } ∧ Flat rs.toList ds ∧ rs.size ≤ 2 * (i + 1) ∧ Kinds (PS.take (i + 1)) ds) ∧
          Fr (s.heap.hide L) s.heap.objs.size h'' m' ∧ h''.IsList h₃.objs.size vs.toArray ∧ h''.IsListIter (h₃.push { cls := .type "list", data := .seq vs.toArray }).objs.size h₃.objs.size (i + 1) := by
      rintro vt' vv' rs' c' sl' es' h' tk' hk' F' N' ⟨us, rfl, hus, huz⟩
      refine ⟨_, h', tk', rfl, ⟨vt', vv', _, c', sl', ds ++ es', rfl, (N' _ List.mem_cons_self).1, (N' _ (List.mem_cons_of_mem _ (List.mem_cons_of_mem _ (List.mem_cons_of_mem _ List.mem_cons_self)))).1, ?_, ?_, ?_⟩, F', ?_, ?_⟩
      · rw [Array.toList_append]; exact hfl.append hus
      · rw [Array.size_append]; omega
      · obtain ⟨hlt, hxe⟩ := List.getElem?_eq_some_iff.mp hxi
        rw [List.take_succ_eq_append_getElem hlt, hxe]
        exact .snoc hks hk'
      · exact ⟨opl, (N' _ (List.mem_cons_of_mem _ List.mem_cons_self)).1, hopc, kpl, hopd⟩
      · exact ⟨oit, (N' _ (List.mem_cons_of_mem _ (List.mem_cons_of_mem _ List.mem_cons_self))).1, hoic, hoid⟩
    have hRpl : R < h₃.objs.size := Heap.lt_size (N₃ _ List.mem_cons_self).1
    have hLpl : L < h₃.objs.size := Heap.lt_size (N₃ _ (List.mem_cons_of_mem _ List.mem_cons_self)).1
    have newsR : ∀ h h' rs rs' c c' sl, News (s.heap.hide L) s.heap.objs.size h [(R, listObj rs c), (h₃.objs.size, opl), ((h₃.push { cls := .type "list", data := .seq vs.toArray }).objs.size, oit), (L, { oL with slots := sl })] → Heap.SameBut R h h' → h'.get? R = some (listObj rs' c') →
        News (s.heap.hide L) s.heap.objs.size h' [(R, listObj rs' c'), (h₃.objs.size, opl), ((h₃.push { cls := .type "list", data := .seq vs.toArray }).objs.size, oit), (L, { oL with slots := sl })] := by
      intro h h' rs rs' c c' sl N hs hg p hp
      rcases List.mem_cons.mp hp with rfl | hp
      · exact ⟨hg, (N _ List.mem_cons_self).2⟩
      · have := N p (List.mem_cons_of_mem _ hp)
        refine ⟨(hs.2 _ ?_).trans this.1, this.2⟩
        rcases List.mem_cons.mp hp with rfl | hp
        · exact Nat.ne_of_gt hRpl
        rcases List.mem_cons.mp hp with rfl | hp
        · show (h₃.push _).objs.size ≠ R
          rw [Heap.size_push]; exact Nat.ne_of_gt (Nat.lt_succ_of_lt hRpl)
        · rw [List.mem_singleton.mp hp]; exact Ne.symm hRL
    clear ret hP
    refine wpC_execs_cons (wpC_If (wpC_of ?_))
    cases hx with
    | sep hm =>
      k_steps
      rw [cmap_v] at F₄
      exact wpC_of (wpAny_execs_nil (wpC_of (wpAny_execs_nil (fin vt (some (.str x u)) rs c sl [] h _ (.sep hm) F₄ N₄ ⟨#[], by simp, .nil, by simp⟩))))
    | num n hn hm =>
      k_steps
      refine wpC_of ?_
      k_steps
      refine int_ok2 hn.reads hn.short ?_
      k_steps
      rename_i D₅ h₅ F₅ N₅ lt₅
      refine extend1 F₅ (N₅ _ (List.mem_cons_of_mem _ List.mem_cons_self)).1 (N₅ _ List.mem_cons_self).1 (N₅ _ (List.mem_cons_of_mem _ List.mem_cons_self)).2.2 (by simp; omega) fun h₆ c₆ F₆ hR₆ hs₆ => ?_
      refine wpAny_execs_nil (wpC_of (wpAny_execs_nil ?_))
      exact fin _ _ _ c₆ sl _ h₆ _ (.num n hn hm) (Fr_ext F₆ fun y => cmap_tv vt vv _ R norm t _ _ y) (newsR _ _ _ _ _ _ _ (fun p hp => N₅ p (List.mem_cons_of_mem _ hp)) hs₆ hR₆) ⟨_, rfl, .int _ _ (.int _ _ .nil), by simp⟩
    | word hb hm hw =>
      k_steps
      refine wpC_execs_cons (wpC_Try ?_)
      refine wpC_execs_cons (wpC_Assign_Name (wpC_Call_Name ?_))
      k_steps
      refine callWithC_type rfl (evalArgsC_plain (splicedC_cons (wpC_of ?_)))
      rw [if_neg Bool.false_ne_true]
      k_steps
      refine wpC_of ?_
      k_steps
      refine int_fail2 rfl hb.short hb.no hb.shown fun h₅ e tk₅ he => ?_
      refine caught1 (new := [(R, listObj rs c), (h₃.objs.size, opl), ((h₃.push { cls := .type "list", data := .seq vs.toArray }).objs.size, oit)]) rfl Fs₄ he F₄ N₄ ⟨hRL, Nat.ne_of_gt hLpl, Nat.ne_of_gt (by rw [Heap.size_push]; exact Nat.lt_succ_of_lt hLpl), trivial⟩ T' (by decide +kernel) (by decide +kernel) (by decide +kernel) (by decide +kernel) fun h₈ sl₈ Fs₈ F₈ N₈ => ?_
      simp only [List.cons_append, List.nil_append] at N₈
      simp only [List.mem_cons, List.not_mem_nil, or_false] at hw
      rcases hw with rfl | rfl | rfl | rfl
      · have hst : stage (Str.ofString "x") = 0 := by decide +kernel
        k_steps
        refine wpC_of ?_
        k_steps
        rename_i D₉ h₉ F₉ N₉ lt₉
        refine extend1 F₉ (N₉ _ (List.mem_cons_of_mem _ List.mem_cons_self)).1 (N₉ _ List.mem_cons_self).1 (N₉ _ (List.mem_cons_of_mem _ List.mem_cons_self)).2.2 (by simp; omega) fun h₁₀ c₁₀ F₁₀ hR₁₀ hs₁₀ => ?_
        refine wpAny_execs_nil (wpC_of (wpAny_execs_nil ?_))
        exact fin _ _ _ c₁₀ sl₈ _ h₁₀ _ (.word hb hm (by decide +kernel)) (Fr_ext F₁₀ fun y => cmap_tv' vt vv R norm t _ _ y) (newsR _ _ _ _ _ _ _ (fun p hp => N₉ p (List.mem_cons_of_mem _ hp)) hs₁₀ hR₁₀) ⟨_, rfl, by rw [hst]; exact .int _ _ (.str _ _ .nil), by simp⟩
      · have hst : stage (Str.ofString "rc") = 50 := by decide +kernel
        k_steps
        refine wpC_of ?_
        k_steps
        rename_i D₉ h₉ F₉ N₉ lt₉
        refine extend1 F₉ (N₉ _ (List.mem_cons_of_mem _ List.mem_cons_self)).1 (N₉ _ List.mem_cons_self).1 (N₉ _ (List.mem_cons_of_mem _ List.mem_cons_self)).2.2 (by simp; omega) fun h₁₀ c₁₀ F₁₀ hR₁₀ hs₁₀ => ?_
        refine wpAny_execs_nil (wpC_of (wpAny_execs_nil ?_))
        exact fin _ _ _ c₁₀ sl₈ _ h₁₀ _ (.word hb hm (by decide +kernel)) (Fr_ext F₁₀ fun y => cmap_tv' vt vv R norm t _ _ y) (newsR _ _ _ _ _ _ _ (fun p hp => N₉ p (List.mem_cons_of_mem _ hp)) hs₁₀ hR₁₀) ⟨_, rfl, by rw [hst]; exact .int _ _ (.str _ _ .nil), by simp⟩
      · have hst : stage (Str.ofString "p") = 200 := by decide +kernel
        k_steps
        refine wpC_of ?_
        k_steps
        rename_i D₉ h₉ F₉ N₉ lt₉
        refine extend1 F₉ (N₉ _ (List.mem_cons_of_mem _ List.mem_cons_self)).1 (N₉ _ List.mem_cons_self).1 (N₉ _ (List.mem_cons_of_mem _ List.mem_cons_self)).2.2 (by simp; omega) fun h₁₀ c₁₀ F₁₀ hR₁₀ hs₁₀ => ?_
        refine wpAny_execs_nil (wpC_of (wpAny_execs_nil ?_))
        exact fin _ _ _ c₁₀ sl₈ _ h₁₀ _ (.word hb hm (by decide +kernel)) (Fr_ext F₁₀ fun y => cmap_tv' vt vv R norm t _ _ y) (newsR _ _ _ _ _ _ _ (fun p hp => N₉ p (List.mem_cons_of_mem _ hp)) hs₁₀ hR₁₀) ⟨_, rfl, by rw [hst]; exact .int _ _ (.str _ _ .nil), by simp⟩
      · have hst : stage (Str.ofString " ") = 0 := by decide +kernel
        k_steps
        refine wpC_of ?_
        k_steps
        rename_i D₉ h₉ F₉ N₉ lt₉
        refine extend1 F₉ (N₉ _ (List.mem_cons_of_mem _ List.mem_cons_self)).1 (N₉ _ List.mem_cons_self).1 (N₉ _ (List.mem_cons_of_mem _ List.mem_cons_self)).2.2 (by simp; omega) fun h₁₀ c₁₀ F₁₀ hR₁₀ hs₁₀ => ?_
        refine wpAny_execs_nil (wpC_of (wpAny_execs_nil ?_))
        exact fin _ _ _ c₁₀ sl₈ _ h₁₀ _ (.word hb hm (by decide +kernel)) (Fr_ext F₁₀ fun y => cmap_tv' vt vv R norm t _ _ y) (newsR _ _ _ _ _ _ _ (fun p hp => N₉ p (List.mem_cons_of_mem _ hp)) hs₁₀ hR₁₀) ⟨_, rfl, by rw [hst]; exact .int _ _ (.str _ _ .nil), by simp⟩
  · rintro m h tk ⟨vt, vv, rs, c, sl, ds, rfl, hR, hLs, hfl, hsz, hks⟩ F₄
    refine wpC_of ?_
    k_steps
    refine ret R rs c ds h _ ⟨fun b o hb e => F₄.keep b o ((hide_get hb).trans e), fun o e => ?_⟩ hR0 hR hfl ?_
    · rw [hL] at e; obtain rfl := Option.some.inj e; exact ⟨sl, hLs⟩
    · rw [List.take_of_length_le (by omega)] at hks; exact hks
end Mine
end

section
open PySem PySem.W PyProof.Rows PySem.Calls
set_option maxRecDepth 100000
set_option maxHeartbeats 700000
namespace Mine
section
variable {prog : Program} {w : World} {A : Around} {E : Value → Shared → Prop} {s : Shared}
theorem slice_ex {value slice : Expr} {l : Addr} {items : Array Value} {vl vu : Value} {lo hi : Option Int} {Q : Value → Shared → Prop}
    (hl : s.heap.IsList l items) (pl : IsPart vl lo) (pu : IsPart vu hi)
    (h : ∀ h', (∀ a o, s.heap.get? a = some o → h'.get? a = some o) → (∀ hb L m, Fr hb L s.heap m → Fr hb L h' m) → h'.get? (s.heap.objs.size + 1) = some (listObj (slicePick items lo hi none) 0) → Q (.ref (s.heap.objs.size + 1)) { s with heap := h' })
    (hs : subscripted slice false (.ref l) (.ref s.heap.objs.size) = operate [.ref s.heap.objs.size, .ref l] (getItem (.ref l) (.ref s.heap.objs.size)) := by with_unfolding_all rfl)
    (ht : ∀ r, letTemporaryGo value (.ref l) r = pure () := by intro _; with_unfolding_all rfl)
    (hsz : items.size ≤ sizeLine := by size_fits) :
    wpAny (model prog w) A (subscriptTail value slice (.ref l) (.ref s.heap.objs.size)) Q E { s with heap := s.heap.push { cls := .type "slice", data := .fields #[vl, vu, .none] } } := by
  refine subscriptTail_ops (Heap.IsList.typeIs (s := { s with heap := s.heap.push { cls := .type "slice", data := .fields #[vl, vu, .none] } }) (hl.push _)) list_getitem_lookup
    (wpAny_getItem_list_slice (hl.push _) (Heap.IsSliceOf.new ..) pl pu .none (by simp) ?_ hsz) hs ht
  have e : (s.heap.push { cls := .type "slice", data := .fields #[vl, vu, .none] }).objs.size = s.heap.objs.size + 1 := Heap.size_push ..
  show Q (.ref (s.heap.push _).objs.size) _
  rw [e]
  refine h _ (fun a o e => Heap.get?_push_of_some _ (Heap.get?_push_of_some _ e)) (fun hb L m F => (F.push _).push _) ?_
  rw [← e]
  exact Heap.get?_push_size _ rfl
end
theorem ite_no {P R : Prop} (h : R) : (if false = true then P else R) := h
theorem ite_yes {P R : Prop} (h : P) : (if true = true then P else R) := h
local macro_rules | `(tactic| walk_at "ite") => `(tactic| (first | with_reducible refine ite_no ?_ | with_reducible refine ite_yes ?_))
local macro_rules | `(tactic| walk_at "call builtin:len") => `(tactic| (k_here; refine Box.out ?_))
local macro_rules | `(tactic| walk_at "subscriptTail Name Slice ref ref") => `(tactic| (k_here; refine Box.out ?_))
def upOf (xs : List Str) : List Str := if xs[xs.length - 1]? = some (Str.ofString "") then xs.take (xs.length - 1) else xs
def coversOf (xs ys : List Str) : Bool := decide (xs = ys) || (decide (ys.length > (upOf xs).length) && decide (ys.take (upOf xs).length = upOf xs))
theorem eqv_strs : ∀ xs ys : List Str, PyData.eqvAll (xs.map .str) (ys.map .str) = decide (xs = ys)
  | [], [] => rfl
  | [], _ :: _ => by simp [PyData.eqvAll]
  | _ :: _, [] => by simp [PyData.eqvAll]
  | x :: xs, y :: ys => by
    simp only [List.map_cons, PyData.eqvAll, eqv_strs xs ys, PyData.eqv]
    by_cases h1 : x = y <;> by_cases h2 : xs = ys <;> simp [h1, h2]
theorem depth_strs : ∀ xs : List Str, PyData.depthAll (xs.map .str) ≤ 1
  | [] => by simp [PyData.depthAll]
  | x :: xs => by
    have := depth_strs xs
    simp only [List.map_cons, PyData.depthAll, PyData.depth]
    omega
theorem can_take : ∀ (n : Nat) (ds : List PyData), PyData.canLayAll0 ds = true → PyData.canLayAll0 (ds.take n) = true
  | 0, _, _ => rfl
  | _ + 1, [], _ => rfl
  | n + 1, d :: ds, h => by
    simp only [PyData.canLayAll0, Bool.and_eq_true] at h
    simp only [List.take_succ_cons, PyData.canLayAll0, h.1, can_take n ds h.2, Bool.and_self]
local macro_rules | `(tactic| walk_at "subscriptTail Name UnaryOp ref int") => `(tactic| (k_here; refine Box.out ?_))
local macro_rules | `(tactic| walk_at "compareOp Eq ref ref") => `(tactic| (k_here; refine Box.out ?_))
theorem C_covers {w : World} {dp un : Nat} {gd : Option (List Code)} {s : Shared} {outs : List Env} {mean : ExcName → Option Value} {mg mb : Str → Option Value} {Q E : Value → Shared → Prop} {B D : Addr} {bs ds : Array Value} {xs ys : List Str} {nb nd : Nat}
    (X : (hd.heap_39 w.params).In s.heap) (T : Top hd.view_39 loose mean mg mb s.heap) (hdp : dp + 20 < recursionLimit) (hun : un + 100 < cLine)
    (hB : s.heap.get? B = some (listObj bs nb)) (hD : s.heap.get? D = some (listObj ds nd)) (hxs : StrsAre bs.toList xs) (hys : StrsAre ds.toList ys) (hb0 : 1 ≤ bs.toList.length) (hb1 : bs.toList.length ≤ 10) (hd1 : ds.toList.length ≤ 10) (hsh : ∀ z ∈ xs, z.length < 1000) (hxo : PyData.canLayAll0 (xs.map .str) = true) (hyo : PyData.canLayAll0 (ys.map .str) = true)
    (ret : ∀ h' tk, (∀ a o, s.heap.get? a = some o → h'.get? a = some o) → Q (.bool (coversOf xs ys)) { s with heap := h', toks := tk }) :
    wpAny (model Challenge.rw_mj0124_01.row.prog w) (Ar dp un gd outs) (call (.ref 135) [.ref B, .ref D]) Q E s := by
  (revert X; (w_top off; k_fill); intro X)
  refine wpAny_call ?_
  refine' enter_def (binds := [(Str.ofString "base", .ref B), (Str.ofString "test", .ref D)]) X (Top.nolimit (by assumption)) ?k6 ?k7 ?k8 ?k9 ?kB ?_ ?c2 ?c3 ?c4 ?c5
  (case k6 => k_is)
  (case k7 => k_is)
  (case k8 => k_room)
  (case k9 => exact BindsTo.of_eq rfl)
  (case kB => exact locs rfl)
  (case c2 => exact rfl)
  (case c3 => exact rfl)
  (case c4 => exact rfl)
  (case c5 => decide)
  intro L' h₁ F₁ N₁
  have hlB : h₁.IsList B bs := ⟨_, F₁.keep _ _ hB, rfl, _, rfl⟩
  obtain ⟨vz, hvz⟩ : ∃ vz, bs.toList[bs.size - 1]? = some vz := ⟨_, List.getElem?_eq_getElem (by simp at hb0 ⊢; omega)⟩
  obtain ⟨z, uz, rfl, hz⟩ := strsAre_get hxs hvz
  have hzl : z.length < 1000 := hsh z (List.mem_of_getElem? hz)
  refine wpAny_execs_cons ?_
  refine wpAny_mono (Q := fun f s' => Box (f = .next ∧ ∃ h tk U us c, s' = { s with heap := h, toks := tk } ∧ Fr s.heap L' h (fun y => if y = Str.ofString "upper" then some (.ref U) else List.lookup y [(Str.ofString "base", Value.ref B), (Str.ofString "test", .ref D)].reverse) ∧ h.get? U = some (listObj us c) ∧ StrsAre us.toList (if z = Str.ofString "" then xs.take (xs.length - 1) else xs))) (E := fun _ _ => False) ?_ ?_ ?_
  rotate_left 2
  · intro _ _ e; exact e.elim
  · have hxB := Box.mk hxs
    have hyB := Box.mk hys
    clear hxs hys
    k_steps
    refine ⟨?_⟩
    refine tail_any hlB.typeIs slot_list_getitem.lookup (wpAny_getItem_list_neg hlB (by decide) (by simp at hb0; omega) (by decide) (by simp at hb0 hvz; rw [show (-1 + (bs.size : Int)).toNat = bs.size - 1 by omega]; simpa using hvz) ?_) (by with_unfolding_all rfl)
    dsimp only
    k_steps
    · rename_i he
      refine ⟨?_⟩
      refine kmk_slice F₁ N₁ hlB .none (.int _ _) (fun Z h₂ F₂ N₂ _ => ?_) (by with_unfolding_all rfl) (by intro _; with_unfolding_all rfl) (by rw [sizeLine_eq]; simp at hb1; omega)
      dsimp only
      k_steps
      rename_i h₃ F₃ N₃
      refine ⟨rfl, h₃, _, _, slicePick bs none (some (-1)) none, 0, rfl, F₃, (N₃ _ List.mem_cons_self).1, ?_⟩
      rw [show (some (-1 : Int)) = some (-((1 : Nat) : Int)) from rfl, slicePick_butLast _ 1 (Nat.le_refl _), if_pos (by simpa using he)]
      have := strsAre_take hxB.out (bs.size - 1)
      rw [show xs.length - 1 = bs.size - 1 by rw [← strsAre_length hxB.out]; simp]
      exact this
    · rename_i he h₂ F₂ N₂
      refine ⟨rfl, h₂, _, B, bs, nb, rfl, F₂, F₂.keep _ _ hB, ?_⟩
      rw [if_neg (by simpa using he)]
      exact hxB.out
  rintro f s' ⟨rfl, h₂, tk₂, U, us, c, rfl, F₂, hU, hus⟩
  clear F₁ N₁ hlB
  dsimp only
  have N₂ : News s.heap L' h₂ [] := News.nil
  have hxB := Box.mk hxs
  have hyB := Box.mk hys
  have huB := Box.mk hus
  clear hxs hys hus
  have hBr := (RdA.of_strs (S := fun _ => True) (h := h₂) hxB.out).reads
  have hDr := (RdA.of_strs (S := fun _ => True) (h := h₂) hyB.out).reads
  obtain ⟨as1, hBr⟩ := hBr
  obtain ⟨as2, hDr⟩ := hDr
  have hBr := Box.mk (Reads.list (F₂.keep _ _ hB) rfl rfl hBr)
  have hDr := Box.mk (Reads.list (F₂.keep _ _ hD) rfl rfl hDr)
  have dx := depth_strs xs
  have dy := depth_strs ys
  k_steps
  refine ⟨?_⟩
  refine PySem.SeqAt.compareEq_reads hBr.out hDr.out hxo hyo (by simp only [PyData.depth]; show un + 3 + _ < cLine; omega) ?_
  rw [show PyData.eqv (.list (xs.map .str)) (.list (ys.map .str)) = decide (xs = ys) from eqv_strs xs ys]
  have hlD : h₂.IsList D ds := ⟨_, F₂.keep _ _ hD, rfl, _, rfl⟩
  have hlU : h₂.IsList U us := ⟨_, hU, rfl, _, rfl⟩
  have hze : (if z = Str.ofString "" then xs.take (xs.length - 1) else xs) = upOf xs := by
    have e : xs[xs.length - 1]? = some z := by rw [← strsAre_length hxB.out]; simpa using hz
    unfold upOf
    rw [e]
    by_cases q : z = Str.ofString "" <;> simp [q]
  rw [hze] at huB
  have hul := strsAre_length huB.out
  have hyl := strsAre_length hyB.out
  have hux : (upOf xs).length ≤ 10 := by
    have := strsAre_length hxB.out
    unfold upOf
    split
    · rw [List.length_take]; omega
    · omega
  have hdz : ds.size ≤ 10 := by simpa using hd1
  have huz : us.size ≤ 10 := by simp at hul; omega
  have hcY : ∀ k, PyData.canLayAll0 ((ys.take k).map .str) = true := fun k => by rw [List.map_take]; exact can_take _ _ hyo
  have hcU : PyData.canLayAll0 ((upOf xs).map .str) = true := by
    unfold upOf
    split
    · rw [List.map_take]; exact can_take _ _ hxo
    · exact hxo
  clear hxo hyo hsh hz hvz hzl hBr dx dy hb0 hb1 hd1 hB hD
  have hxyB : Box (coversOf xs ys = (decide (xs = ys) || (decide (ys.length > (upOf xs).length) && decide (ys.take (upOf xs).length = upOf xs)))) := ⟨rfl⟩
  obtain ⟨xy, hxy⟩ : ∃ xy, xy = decide (xs = ys) := ⟨_, rfl⟩
  rw [← hxy] at hxyB ⊢
  clear hxy
  obtain ⟨uxs, hux'⟩ : ∃ uxs, uxs = upOf xs := ⟨_, rfl⟩
  rw [← hux'] at hxyB huB hul hux hcU
  clear hze hux'
  cases xy
  · k_steps
    refine ⟨?_⟩
    refine len_list hlD (by omega) ?_
    dsimp only
    k_steps
    refine ⟨?_⟩
    refine len_list hlU (by omega) ?_
    dsimp only
    k_steps
    · rename_i hgt
      have hgB := Box.mk hgt
      clear hgt
      refine ⟨?_⟩
      refine len_list hlU (by omega) ?_
      dsimp only
      k_steps
      refine ⟨?_⟩
      refine slice_ex hlD .none (.int _ _) (fun h₃ up₃ fr₃ hZ => ?_) (by with_unfolding_all rfl) (by intro _; with_unfolding_all rfl) (by rw [sizeLine_eq]; omega)
      have F₃ := fr₃ _ _ _ F₂
      have N₃ : News s.heap L' h₃ [] := News.nil
      clear F₂ N₂
      walk1
      have hsl : StrsAre (slicePick ds none (some (us.size : Int)) none).toList (ys.take us.size) := by
        rw [slicePick_upto']
        exact strsAre_take hyB.out _
      obtain ⟨as3, hZr⟩ := (RdA.of_strs (S := fun _ => True) (h := h₃) hsl).reads
      obtain ⟨as4, hUr⟩ := (RdA.of_strs (S := fun _ => True) (h := h₃) huB.out).reads
      have d3 := depth_strs (ys.take us.size)
      have d4 := depth_strs uxs
      refine PySem.SeqAt.compareEq_reads (Reads.list hZ rfl rfl hZr) (Reads.list (up₃ _ _ hU) rfl rfl hUr) (hcY _) hcU (by simp only [PyData.depth]; show un + 3 + _ < cLine; omega) ?_
      rw [show PyData.eqv (.list ((ys.take us.size).map .str)) (.list (uxs.map .str)) = decide (ys.take us.size = uxs) from eqv_strs _ _]
      rw [hxyB.out] at ret
      have e : (false || (decide (ys.length > uxs.length) && decide (ys.take uxs.length = uxs))) = decide (ys.take us.size = uxs) := by
        have hg := hgB.out
        have e1 : us.size = uxs.length := by simpa using hul
        have e2 : ds.size = ys.length := by simpa using hyl
        rw [e1, e2] at hg
        rw [e1, decide_eq_true (by omega : ys.length > uxs.length)]
        rfl
      rw [e] at ret
      exact ret _ _ F₃.keep
    · rename_i hgt
      rw [hxyB.out] at ret
      have e1 : us.size = uxs.length := by simpa using hul
      have e2 : ds.size = ys.length := by simpa using hyl
      have e : (false || (decide (ys.length > uxs.length) && decide (ys.take uxs.length = uxs))) = decide ((us.size : Int) < (ds.size : Int)) := by
        rw [e1, e2] at hgt ⊢
        rw [decide_eq_false (by omega : ¬ ys.length > uxs.length), decide_eq_false (by omega : ¬ ((uxs.length : Int) < (ys.length : Int)))]
        rfl
      rw [e] at ret
      exact ret _ _ F₂.keep
  · k_steps
    rw [hxyB.out] at ret
    exact ret _ _ F₂.keep
end Mine
end

section
open PySem PySem.W PyProof.Rows PySem.Calls
set_option maxRecDepth 100000
set_option maxHeartbeats 8000000
namespace Mine
local macro_rules | `(tactic| walk_at "ite") => `(tactic| (first | with_reducible refine ite_no ?_ | with_reducible refine ite_yes ?_))
local macro_rules | `(tactic| walk_at "subscriptTail Name Constant ref int") => `(tactic| (k_here; refine Box.out ?_))
theorem can_pair {a b : Str} (h1 : PyData.strOk a = true) (h2 : PyData.strOk b = true) : (PyData.tuple [.str a, .str b]).canLay0 = true := by
  simp only [PyData.canLay0, PyData.canLayAll0, Bool.and_eq_true]; exact ⟨h1, h2, trivial⟩
def subOf (h1 p1 h2 p2 : Str) : Bool := if PyData.eqv (.tuple [.str h1, .str p1]) (.tuple [.str h2, .str p2]) then true else if h1 != h2 then false else if Txt.slice p1 (some (-1)) none != Str.ofString "/" then Txt.startswith p2 (p1 ++ Str.ofString "/") else Txt.startswith p2 p1
abbrev tupO (vs : Array Value) (c : Nat) : Obj := { cls := .type "tuple", data := .seq vs c }
theorem C_sub {w : World} {dp un : Nat} {gd : Option (List Code)} {s : Shared} {outs : List Env} {mean : ExcName → Option Value} {mg mb : Str → Option Value} {Q E : Value → Shared → Prop} {M B D : Addr} {h1 p1 h2 p2 : Str} {t1 t2 t3 t4 : Tok} {nb nd : Nat}
    (X : (hd.heap_39 w.params).In s.heap) (T : Top hd.view_39 loose mean mg mb s.heap) (hdp : dp + 20 < recursionLimit) (hun : un + 100 < cLine)
    (hB : s.heap.get? B = some (tupO #[.str h1 t1, .str p1 t2] nb)) (hD : s.heap.get? D = some (tupO #[.str h2 t3, .str p2 t4] nd)) (o1 : PyData.strOk h1 = true) (o2 : PyData.strOk p1 = true) (o3 : PyData.strOk h2 = true) (o4 : PyData.strOk p2 = true) (l1 : h1.length < 1000) (l2 : p1.length < 1000) (l3 : h2.length < 1000) (l4 : p2.length < 1000)
    (ret : ∀ h' tk, (∀ a o, s.heap.get? a = some o → h'.get? a = some o) → Q (.bool (subOf h1 p1 h2 p2)) { s with heap := h', toks := tk }) :
    wpAny (model Challenge.rw_mj0124_01.row.prog w) (Ar dp un gd outs) (call (.ref 102) [.ref M, .ref B, .ref D]) Q E s := by
  (revert X; (w_top off; k_fill); intro X)
  refine wpAny_call ?_
  refine' enter_def (binds := [(Str.ofString "self", .ref M), (Str.ofString "base", .ref B), (Str.ofString "test", .ref D)]) X (Top.nolimit (by assumption)) ?k6 ?k7 ?k8 ?k9 ?kB ?_ ?c2 ?c3 ?c4 ?c5
  (case k6 => k_is)
  (case k7 => k_is)
  (case k8 => k_room)
  (case k9 => exact BindsTo.of_eq rfl)
  (case kB => exact locs rfl)
  (case c2 => exact rfl)
  (case c3 => exact rfl)
  (case c4 => exact rfl)
  (case c5 => decide)
  intro L' h₁ F₁ N₁
  have hBt : Reads h₁ (.ref B) (.tuple [.str h1, .str p1]) _ := .tuple (F₁.keep _ _ hB) rfl rfl (.cons (.str _ _) (.cons (.str _ _) .nil))
  have hDt : Reads h₁ (.ref D) (.tuple [.str h2, .str p2]) _ := .tuple (F₁.keep _ _ hD) rfl rfl (.cons (.str _ _) (.cons (.str _ _) .nil))
  have hBi : IsTup h₁ B #[.str h1 t1, .str p1 t2] := ⟨_, F₁.keep _ _ hB, rfl, _, rfl⟩
  have hDi : IsTup h₁ D #[.str h2 t3, .str p2 t4] := ⟨_, F₁.keep _ _ hD, rfl, _, rfl⟩
  refine wpAny_execs_cons ?_
  iterate 4 walk1
  refine PySem.SeqAt.compareEq_reads hBt hDt (can_pair o1 o2) (can_pair o3 o4) (by simp only [PyData.depth, PyData.depthAll]; show un + 3 + _ < cLine; omega) ?_
  clear hBt hDt
  obtain ⟨eq0, heq0⟩ : ∃ b, b = PyData.eqv (.tuple [.str h1, .str p1]) (.tuple [.str h2, .str p2]) := ⟨_, rfl⟩
  rw [← heq0]
  replace heq0 := Box.mk heq0
  cases eq0
  · k_steps
    refine ⟨?_⟩
    refine item_tuple (x := .str h1 t1) hBi (by decide) (by decide) rfl rfl ?_ (by with_unfolding_all rfl) (by intro _; with_unfolding_all rfl)
    k_steps
    refine ⟨?_⟩
    refine item_tuple (x := .str h2 t3) hDi (by decide) (by decide) rfl rfl ?_ (by with_unfolding_all rfl) (by intro _; with_unfolding_all rfl)
    k_steps
    · rename_i hne
      have e : subOf h1 p1 h2 p2 = false := by
        rw [subOf, ← heq0.out, if_neg Bool.false_ne_true, if_pos hne]
      rw [e] at ret
      exact ret _ _ F₁.keep
    · rename (h1 != h2) = false => hne
      refine ⟨?_⟩
      refine item_tuple (x := .str p1 t2) hBi (by decide) (by decide) rfl rfl ?_ (by with_unfolding_all rfl) (by intro _; with_unfolding_all rfl)
      dsimp only
      k_steps
      · rename Fr _ _ _ _ => F₃
        refine ⟨?_⟩
        refine item_tuple (x := .str p2 t4) (items := #[.str h2 t3, .str p2 t4]) ⟨_, F₃.keep _ _ hD, rfl, _, rfl⟩ (by decide) (by decide) rfl rfl ?_ (by with_unfolding_all rfl) (by intro _; with_unfolding_all rfl)
        k_steps
        rename (Txt.slice p1 (some (-1)) none != Str.ofString "/") = true => hsl
        have e : subOf h1 p1 h2 p2 = Txt.startswith p2 (p1 ++ Str.ofString "/") := by
          rw [subOf, ← heq0.out, if_neg Bool.false_ne_true, hne, if_neg Bool.false_ne_true, if_pos hsl]
        rw [e] at ret
        exact ret _ _ F₃.keep
      · rename Fr _ _ _ _ => F₃
        refine ⟨?_⟩
        refine item_tuple (x := .str p2 t4) (items := #[.str h2 t3, .str p2 t4]) ⟨_, F₃.keep _ _ hD, rfl, _, rfl⟩ (by decide) (by decide) rfl rfl ?_ (by with_unfolding_all rfl) (by intro _; with_unfolding_all rfl)
        k_steps
        rename (Txt.slice p1 (some (-1)) none != Str.ofString "/") = false => hsl
        have e : subOf h1 p1 h2 p2 = Txt.startswith p2 p1 := by
          rw [subOf, ← heq0.out, if_neg Bool.false_ne_true, hne, if_neg Bool.false_ne_true, hsl, if_neg Bool.false_ne_true]
        rw [e] at ret
        exact ret _ _ F₃.keep
  · k_steps
    have e : subOf h1 p1 h2 p2 = true := by
      rw [subOf, ← heq0.out, if_pos rfl]
    rw [e] at ret
    exact ret _ _ F₁.keep
end Mine
end

section
open PySem PySem.SeqAt PySem.MeetsSeq PySem.MeetsSeq2 PySem.MeetsSeq3 PySem.SeqRoads2
open AutoSeq1 (wpAny_loadPart')
set_option maxRecDepth 100000
namespace Mine

def LtAt (A : Around) (s : Shared) (y x : Value) (b : Bool) : Prop :=
  ∀ (prog : Program) (w : World) (E : Value → Shared → Prop) (Q : Value → Shared → Prop), Q (.bool b) s → wpAny (model prog w) A (richCompare .Lt y x) Q E s

/-- the first place that parts two rows decides; `e` says where they are alike, `f` what the elements say -/
def lexGo (e f : Nat → Bool) (m n : Nat) : Nat → Nat → Bool
  | 0, _ => decide (m < n)
  | k + 1, i => if e i then lexGo e f m n k (i + 1) else f i

theorem lt_loopAt (l b : Addr) (items items2 : Array Value) (n n2 : Nat) (dd dd2 : Option Addr) (sl sl2 : Array (Option Value)) (e f : Nat → Bool) (k : Nat) :
    ∀ i : Nat, i + k = min items.size items2.size → Meets (Builtin.«list.__eq__.loop» ⟨[.ref l, .ref b, rawInt i, rawInt 0], []⟩)
      (fun A R s => s.heap.get? l = some { cls := .type "list", dict := dd, data := .seq items n, slots := sl } ∧ s.heap.get? b = some { cls := .type "list", dict := dd2, data := .seq items2 n2, slots := sl2 } ∧
        (∀ j (h1 : j < items.size) (h2 : j < items2.size), EqAt A.in1 s items[j] items2[j] (e j)) ∧
        (∀ j (h1 : j < items.size) (h2 : j < items2.size), i ≤ j → (∀ q, i ≤ q → q < j → e q = true) → e j = false → LtAt A.in1 s items[j] items2[j] (f j)) ∧
        R (.ok (.ret (.bool (lexGo e f items.size items2.size k i)))) s) := by
  induction k with
  | zero =>
    intro i hk prog w A R s h
    obtain ⟨hp, g, d, tk, os⟩ := s; obtain ⟨hl, hb, he, hf, h⟩ := h
    wp_walk using wpAny_loadPart' hl, wpAny_loadPart' hb
    have hor : items[((i : Nat) : Int).toNat]? = none ∨ items2[((i : Nat) : Int).toNat]? = none := by
      rcases Nat.le_total items.size items2.size with q | q
      · left; simp; omega
      · right; simp; omega
    cases hx : items[((i : Nat) : Int).toNat]? with
    | none =>
      wp_walk using wpAny_loadPart' hl, wpAny_loadPart' hb
      exact h
    | some x =>
      have hy : items2[((i : Nat) : Int).toNat]? = none := hor.resolve_left (by rw [hx]; exact fun q => nomatch q)
      rw [hy]
      wp_walk using wpAny_loadPart' hl, wpAny_loadPart' hb
      exact h
  | succ k ih =>
    intro i hk prog w A R s h
    obtain ⟨hp, g, d, tk, os⟩ := s; obtain ⟨hl, hb, he, hf, h⟩ := h
    wp_walk using wpAny_loadPart' hl, wpAny_loadPart' hb
    have hlt : i < items.size := by omega
    have hlt2 : i < items2.size := by omega
    have hi1 : items[((i : Nat) : Int).toNat]? = some items[i] := by simp [hlt]
    have hi2 : items2[((i : Nat) : Int).toNat]? = some items2[i] := by simp [hlt2]
    have hc : ((i : Int) + 1) = ((i + 1 : Nat) : Int) := by push_cast; rfl
    rw [hi1, hi2]
    refine wpAny_bind (he i hlt hlt2 prog w _ _ ?_)
    cases hb' : e i with
    | true =>
      wp_walk
      rw [hc]
      refine ⟨plainId_quiet plain_eq_loop _, codeAny_builtin entry_eq_loop (by
        rw [Around.under_plainId plain_eq_loop _]
        refine ih (i + 1) (by omega) prog w A R _ ⟨hl, hb, he, fun j h1 h2 h3 h4 => hf j h1 h2 (by omega) (fun q q1 q2 => ?_), ?_⟩
        · by_cases hq : q = i
          · rw [hq]; exact hb'
          · exact h4 q (by omega) q2
        · unfold lexGo at h; rw [hb'] at h; exact h)⟩
    | false =>
      wp_walk using wpAny_loadPart' hl, wpAny_loadPart' hb
      rw [hi1, hi2]
      refine wpAny_bind (hf i hlt hlt2 (Nat.le_refl _) (fun q q1 q2 => absurd q2 (by omega)) hb' prog w _ _ ?_)
      wp_walk
      unfold lexGo at h; rw [hb'] at h; exact h

theorem list_ltAt (l b : Addr) (items items2 : Array Value) (n n2 : Nat) (dd dd2 : Option Addr) (sl sl2 : Array (Option Value)) (e f : Nat → Bool) :
    Meets (Builtin.«list.__lt__» ⟨[.ref l, .ref b], []⟩)
      (fun A R s => s.heap.get? l = some { cls := .type "list", dict := dd, data := .seq items n, slots := sl } ∧ s.heap.get? b = some { cls := .type "list", dict := dd2, data := .seq items2 n2, slots := sl2 } ∧
        (∀ j (h1 : j < items.size) (h2 : j < items2.size), EqAt A.in1 s items[j] items2[j] (e j)) ∧
        (∀ j (h1 : j < items.size) (h2 : j < items2.size), (∀ q, q < j → e q = true) → e j = false → LtAt A.in1 s items[j] items2[j] (f j)) ∧
        R (.ok (.ret (.bool (lexGo e f items.size items2.size (min items.size items2.size) 0)))) s) := by
  intro prog w A R s h
  obtain ⟨hp, g, d, tk, os⟩ := s; obtain ⟨hl, hb, he, hf, h⟩ := h
  have f3 := AutoSeq1.sub_list_list
  wp_walk using wpAny_loadPart' hl, wpAny_loadPart' hb
  exact ⟨plainId_quiet plain_eq_loop _, codeAny_builtin entry_eq_loop (by
    rw [Around.under_plainId plain_eq_loop _]
    exact lt_loopAt l b items items2 n n2 dd dd2 sl sl2 e f _ 0 (by omega) prog w A R _ ⟨hl, hb, he, fun j h1 h2 _ h4 => hf j h1 h2 (fun q q1 => h4 q (Nat.zero_le _) q1), h⟩)⟩

theorem tuple_ltAt (l b : Addr) (items items2 : Array Value) (n n2 : Nat) (dd dd2 : Option Addr) (sl sl2 : Array (Option Value)) (e f : Nat → Bool) :
    Meets (Builtin.«tuple.__lt__» ⟨[.ref l, .ref b], []⟩)
      (fun A R s => s.heap.get? l = some { cls := .type "tuple", dict := dd, data := .seq items n, slots := sl } ∧ s.heap.get? b = some { cls := .type "tuple", dict := dd2, data := .seq items2 n2, slots := sl2 } ∧
        (∀ j (h1 : j < items.size) (h2 : j < items2.size), EqAt A.in1 s items[j] items2[j] (e j)) ∧
        (∀ j (h1 : j < items.size) (h2 : j < items2.size), (∀ q, q < j → e q = true) → e j = false → LtAt A.in1 s items[j] items2[j] (f j)) ∧
        R (.ok (.ret (.bool (lexGo e f items.size items2.size (min items.size items2.size) 0)))) s) :=
  .of_wp fun prog w A R s h => by
    obtain ⟨hp, g, d, tk, os⟩ := s; obtain ⟨hl, hb, he, hf, h⟩ := h
    have f2 := AutoSeq1.sub_tuple_tuple
    have hZ : (items.toList.zip items2.toList).length = min items.size items2.size := by simp
    wp_walk using wpAny_loadPart' hl, wpAny_loadPart' hb, wpAny_forIn_list _ (fun rest b s' => b.1 = none ∧ s' = ⟨hp, g, d, tk, os⟩ ∧ ∃ i, rest = (items.toList.zip items2.toList).drop i ∧ i ≤ min items.size items2.size ∧ (∀ q, q < i → e q = true) ∧
      R (.ok (.ret (.bool (lexGo e f items.size items2.size (min items.size items2.size - i) i)))) ⟨hp, g, d, tk, os⟩) _
    case turn =>
      rintro ⟨y, x⟩ rest b s' ⟨hb', rfl, i, hz, hle, hall, hR⟩
      have hlt : i < (items.toList.zip items2.toList).length := by
        rcases Nat.lt_or_ge i (items.toList.zip items2.toList).length with h' | h'
        · exact h'
        · rw [List.drop_of_length_le h'] at hz; cases hz
      have hm : i < min items.size items2.size := hZ ▸ hlt
      have h1 : i < items.size := Nat.lt_of_lt_of_le hm (Nat.min_le_left _ _)
      have h2 : i < items2.size := Nat.lt_of_lt_of_le hm (Nat.min_le_right _ _)
      rw [List.drop_eq_getElem_cons hlt] at hz
      injection hz with hyx hrest
      have hy : y = items[i] := by have := congrArg Prod.fst hyx; simpa using this
      have hx : x = items2[i] := by have := congrArg Prod.snd hyx; simpa using this
      subst hy hx
      have hk : min items.size items2.size - i = (min items.size items2.size - (i + 1)) + 1 := by omega
      rw [hk] at hR
      unfold lexGo at hR
      refine wpAny_bind (he i h1 h2 prog w _ _ ?_)
      cases hy : e i with
      | true =>
        rw [hy] at hR
        wp_walk
        exact ⟨rfl, rfl, i + 1, hrest, by omega, fun q q1 => by
          by_cases hq : q = i
          · rw [hq]; exact hy
          · exact hall q (by omega), by simpa using hR⟩
      | false =>
        rw [hy] at hR
        rw [if_pos (show (!false) = true from rfl)]
        refine wpAny_bind (wpAny_rule (wpAny_bind (hf i h1 h2 hall hy prog w _ _ ?_)))
        wp_walk
        exact ⟨_, rfl, by simpa using hR⟩
    case fin =>
      rintro ⟨b1, b2⟩ s' ⟨hb', rfl, i, hz, hle, hall, hR⟩
      simp only at hb'
      subst hb'
      have hge : (items.toList.zip items2.toList).length ≤ i := by
        rcases Nat.lt_or_ge i (items.toList.zip items2.toList).length with h' | h'
        · rw [List.drop_eq_getElem_cons h'] at hz; cases hz
        · exact h'
      have hk : min items.size items2.size - i = 0 := by omega
      rw [hk] at hR
      wp_walk
      exact ⟨_, rfl, hR⟩
    case h => exact ⟨rfl, rfl, 0, rfl, Nat.zero_le _, fun q hq => absurd hq (Nat.not_lt_zero _), h⟩

section
variable {A : Around} {s : Shared}
theorem LtAt.lists {l b : Addr} {items items2 : Array Value} {e f : Nat → Bool} (hl : s.heap.IsList l items) (hb : s.heap.IsList b items2) (hu : A.units < cLine)
    (he : ∀ j (h1 : j < items.size) (h2 : j < items2.size), EqAt A.in1 s items[j] items2[j] (e j))
    (hf : ∀ j (h1 : j < items.size) (h2 : j < items2.size), (∀ q, q < j → e q = true) → e j = false → LtAt A.in1 s items[j] items2[j] (f j)) :
    LtAt A s (.ref l) (.ref b) (lexGo e f items.size items2.size (min items.size items2.size) 0) := fun prog w E Q h => by
  obtain ⟨⟨cls, dd, data, sl⟩, ho, hc, n, hd⟩ := id hl
  obtain ⟨⟨cls2, dd2, data2, sl2⟩, ho2, hc2, n2, hd2⟩ := id hb
  simp only at hc hd hc2 hd2
  subst hc hd hc2 hd2
  exact richCompare_meets_room (op := .Lt) ⟨_, ho, rfl⟩ ⟨_, ho2, rfl⟩ F.slot_list_lt F.entry_list_lt (F.args_list_lt_2 _ _) (list_ltAt l b items items2 n n2 dd dd2 sl sl2 e f)
    ⟨ho, ho2, he, hf, show Value.bool _ ≠ Value.notImplemented ∧ Q (.bool _) s from ⟨(fun x => nomatch x), h⟩⟩ hu
theorem LtAt.tuples {l b : Addr} {items items2 : Array Value} {e f : Nat → Bool} (hl : s.heap.IsTuple l items) (hb : s.heap.IsTuple b items2) (hu : A.units < cLine)
    (he : ∀ j (h1 : j < items.size) (h2 : j < items2.size), EqAt A.in1 s items[j] items2[j] (e j))
    (hf : ∀ j (h1 : j < items.size) (h2 : j < items2.size), (∀ q, q < j → e q = true) → e j = false → LtAt A.in1 s items[j] items2[j] (f j)) :
    LtAt A s (.ref l) (.ref b) (lexGo e f items.size items2.size (min items.size items2.size) 0) := fun prog w E Q h => by
  obtain ⟨⟨cls, dd, data, sl⟩, ho, hc, n, hd⟩ := id hl
  obtain ⟨⟨cls2, dd2, data2, sl2⟩, ho2, hc2, n2, hd2⟩ := id hb
  simp only at hc hd hc2 hd2
  subst hc hd hc2 hd2
  exact richCompare_meets_room (op := .Lt) ⟨_, ho, rfl⟩ ⟨_, ho2, rfl⟩ F.slot_tuple_lt F.entry_tuple_lt (F.args_tuple_lt_2 _ _) (tuple_ltAt l b items items2 n n2 dd dd2 sl sl2 e f)
    ⟨ho, ho2, he, hf, show Value.bool _ ≠ Value.notImplemented ∧ Q (.bool _) s from ⟨(fun x => nomatch x), h⟩⟩ hu
end
end Mine
end

section
open PySem PySem.SeqAt PySem.MeetsSeq PySem.MeetsSeq2 PySem.MeetsSeq3 PySem.SeqRoads2
set_option maxRecDepth 100000
namespace Mine

def lexL (lt : PyData → PyData → Bool) : List PyData → List PyData → Bool
  | [], [] => false
  | [], _ :: _ => true
  | _ :: _, [] => false
  | x :: xs, y :: ys => if PyData.eqv x y then lexL lt xs ys else lt x y
def LexOk (ok : PyData → PyData → Prop) : List PyData → List PyData → Prop
  | x :: xs, y :: ys => (PyData.eqv x y = true → LexOk ok xs ys) ∧ (PyData.eqv x y = false → ok x y)
  | _, _ => True
def ltE : PyData → PyData → Bool
  | .int i, .int j => decide (i < j)
  | .str x, .str y => decide (x.cps.toList < y.cps.toList)
  | _, _ => false
def sameKind : PyData → PyData → Prop
  | .int _, .int _ => True
  | .str _, .str _ => True
  | _, _ => False
def ltT : PyData → PyData → Bool
  | .tuple xs, .tuple ys => lexL ltE xs ys
  | _, _ => false
def okT : PyData → PyData → Prop
  | .tuple xs, .tuple ys => LexOk sameKind xs ys
  | _, _ => False

theorem lexGo_succ (e f : Nat → Bool) (m n : Nat) : ∀ k i, lexGo e f (m + 1) (n + 1) k (i + 1) = lexGo (fun j => e (j + 1)) (fun j => f (j + 1)) m n k i
  | 0, i => by simp [lexGo]
  | k + 1, i => by simp only [lexGo]; rw [lexGo_succ e f m n k (i + 1)]
theorem lexGo_lists (lt : PyData → PyData → Bool) : ∀ xs ys : List PyData,
    lexGo (pairEq xs ys) (fun j => lt (xs.getD j .none) (ys.getD j .none)) xs.length ys.length (min xs.length ys.length) 0 = lexL lt xs ys
  | [], [] => rfl
  | [], _ :: _ => by simp [lexGo, lexL]
  | _ :: _, [] => by simp [lexGo, lexL]
  | x :: xs, y :: ys => by
    have e : min (x :: xs).length (y :: ys).length = min xs.length ys.length + 1 := by simp only [List.length_cons]; omega
    rw [e]
    simp only [lexGo, lexL, List.length_cons, Nat.zero_add]
    have h := lexGo_lists lt xs ys
    rw [lexGo_succ (pairEq (x :: xs) (y :: ys)) (fun j => lt ((x :: xs).getD j .none) ((y :: ys).getD j .none)) xs.length ys.length _ 0]
    have e1 : (fun j => pairEq (x :: xs) (y :: ys) (j + 1)) = pairEq xs ys := by funext j; simp [pairEq]
    have e2 : (fun j => lt ((x :: xs).getD (j + 1) .none) ((y :: ys).getD (j + 1) .none)) = fun j => lt (xs.getD j .none) (ys.getD j .none) := by funext j; simp
    rw [e1, e2, h]
    simp [pairEq]

theorem lexOk_at {ok : PyData → PyData → Prop} : ∀ (xs ys : List PyData), LexOk ok xs ys → ∀ j, j < xs.length → j < ys.length → (∀ q, q < j → pairEq xs ys q = true) → pairEq xs ys j = false → ok (xs.getD j .none) (ys.getD j .none)
  | [], _, _, j, h1, _, _, _ => absurd h1 (Nat.not_lt_zero _)
  | _ :: _, [], _, j, _, h2, _, _ => absurd h2 (Nat.not_lt_zero _)
  | x :: xs, y :: ys, h, j, h1, h2, hall, hj => by
    cases j with
    | zero => exact h.2 (by simpa [pairEq] using hj)
    | succ j =>
      have h0 : PyData.eqv x y = true := by simpa [pairEq] using hall 0 (Nat.succ_pos _)
      have := lexOk_at xs ys (h.1 h0) j (Nat.lt_of_succ_lt_succ h1) (Nat.lt_of_succ_lt_succ h2) (fun q hq => by simpa [pairEq] using hall (q + 1) (Nat.succ_lt_succ hq)) (by simpa [pairEq] using hj)
      simpa using this

theorem readsAll_get {h : Heap} : ∀ {vs : List Value} {xs : List PyData} {as : List Addr}, ReadsAll h vs xs as → ∀ j (h1 : j < vs.length), ∃ bs, Reads h vs[j] (xs.getD j .none) bs
  | _, _, _, .nil, j, h1 => absurd h1 (Nat.not_lt_zero _)
  | _, _, _, .cons r rs, 0, _ => ⟨_, by simpa using r⟩
  | _, _, _, .cons r rs, j + 1, h1 => by
    obtain ⟨bs, q⟩ := readsAll_get rs j (Nat.lt_of_succ_lt_succ h1)
    exact ⟨bs, by simpa using q⟩

section
variable {A : Around} {s : Shared}
theorem ltAt_int {x y : Int} {t u : Tok} : LtAt A s (.int x t) (.int y u) (decide (x < y)) := fun _ _ _ _ h => PyProof.Rows.lt_int h
theorem ltAt_str {x y : Str} {t u : Tok} : LtAt A s (.str x t) (.str y u) (decide (x.cps.toList < y.cps.toList)) := fun _ _ _ _ h => PyProof.Rows.lt_str h
theorem ltAt_elem {a b : Value} {da db : PyData} {as bs : List Addr} (ra : Reads s.heap a da as) (rb : Reads s.heap b db bs) (hk : sameKind da db) : LtAt A s a b (ltE da db) := by
  cases ra with
  | int i t =>
    cases rb with
    | int j u => exact ltAt_int
    | _ => exact hk.elim
  | str x t =>
    cases rb with
    | str y u => exact ltAt_str
    | _ => exact hk.elim
  | _ => exact hk.elim

theorem ltAt_lists {lt : PyData → PyData → Bool} {ok : PyData → PyData → Prop} {a b : Value} {xs ys : List PyData} {as bs : List Addr}
    (H : ∀ x y dx dy cs ds, Reads s.heap x dx cs → Reads s.heap y dy ds → dx ∈ xs → dy ∈ ys → ok dx dy → LtAt A.in1 s x y (lt dx dy))
    (ra : Reads s.heap a (.list xs) as) (rb : Reads s.heap b (.list ys) bs) (hx : PyData.canLayAll0 xs = true) (hy : PyData.canLayAll0 ys = true) (hok : LexOk ok xs ys)
    (hu : A.units + 1 + min (PyData.depthAll xs) (PyData.depthAll ys) < cLine) : LtAt A s a b (lexL lt xs ys) := by
  cases ra with
  | @list l o vs n _ as₁ h1 h2 h3 h4 =>
    cases rb with
    | @list l' o' vs' n' _ bs₁ k1 k2 k3 k4 =>
      have n1 : vs.size = xs.length := by simpa using ReadsAll.length _ _ _ h4
      have n2 : vs'.size = ys.length := by simpa using ReadsAll.length _ _ _ k4
      rw [← lexGo_lists lt xs ys, ← n1, ← n2]
      refine LtAt.lists ⟨_, h1, h2, _, h3⟩ ⟨_, k1, k2, _, k3⟩ (by omega) (fun j j1 j2 => ?_) (fun j j1 j2 q1 q2 => ?_)
      · have := eqAt_readsAll xs ys A.in1 s vs.toList vs'.toList _ _ h4 k4 hx hy (by show A.units + 1 + _ < _; omega) j (by simpa using j1) (by simpa using j2)
        simpa using this
      · have hok' := lexOk_at xs ys hok j (by omega) (by omega) q1 q2
        obtain ⟨cs, r1⟩ := readsAll_get h4 j (by simpa using j1)
        obtain ⟨ds, r2⟩ := readsAll_get k4 j (by simpa using j2)
        have m1 : xs.getD j .none ∈ xs := by
          have hj : j < xs.length := by omega
          rw [List.getD_eq_getElem?_getD, List.getElem?_eq_getElem hj]; exact List.getElem_mem hj
        have m2 : ys.getD j .none ∈ ys := by
          have hj : j < ys.length := by omega
          rw [List.getD_eq_getElem?_getD, List.getElem?_eq_getElem hj]; exact List.getElem_mem hj
        exact H _ _ _ _ _ _ (by simpa using r1) (by simpa using r2) m1 m2 hok'
theorem ltAt_tuples {a b : Value} {xs ys : List PyData} {as bs : List Addr}
    (ra : Reads s.heap a (.tuple xs) as) (rb : Reads s.heap b (.tuple ys) bs) (hx : PyData.canLayAll0 xs = true) (hy : PyData.canLayAll0 ys = true) (hok : LexOk sameKind xs ys)
    (hu : A.units + 1 + min (PyData.depthAll xs) (PyData.depthAll ys) < cLine) : LtAt A s a b (lexL ltE xs ys) := by
  cases ra with
  | @tuple l o vs n _ as₁ h1 h2 h3 h4 =>
    cases rb with
    | @tuple l' o' vs' n' _ bs₁ k1 k2 k3 k4 =>
      have n1 : vs.size = xs.length := by simpa using ReadsAll.length _ _ _ h4
      have n2 : vs'.size = ys.length := by simpa using ReadsAll.length _ _ _ k4
      rw [← lexGo_lists ltE xs ys, ← n1, ← n2]
      refine LtAt.tuples ⟨_, h1, h2, _, h3⟩ ⟨_, k1, k2, _, k3⟩ (by omega) (fun j j1 j2 => ?_) (fun j j1 j2 q1 q2 => ?_)
      · have := eqAt_readsAll xs ys A.in1 s vs.toList vs'.toList _ _ h4 k4 hx hy (by show A.units + 1 + _ < _; omega) j (by simpa using j1) (by simpa using j2)
        simpa using this
      · have hok' := lexOk_at xs ys hok j (by omega) (by omega) q1 q2
        obtain ⟨cs, r1⟩ := readsAll_get h4 j (by simpa using j1)
        obtain ⟨ds, r2⟩ := readsAll_get k4 j (by simpa using j2)
        exact ltAt_elem (by simpa using r1) (by simpa using r2) hok'

/-- flat rows: ints and strs -/
theorem lt_flat {a b : Value} {xs ys : List PyData} {as bs : List Addr} (ra : Reads s.heap a (.list xs) as) (rb : Reads s.heap b (.list ys) bs) (hx : PyData.canLayAll0 xs = true) (hy : PyData.canLayAll0 ys = true)
    (hok : LexOk sameKind xs ys) (hu : A.units + 1 + min (PyData.depthAll xs) (PyData.depthAll ys) < cLine) : LtAt A s a b (lexL ltE xs ys) :=
  ltAt_lists (fun _ _ _ _ _ _ r1 r2 _ _ k => ltAt_elem r1 r2 k) ra rb hx hy hok hu
/-- rows of pairs -/
theorem lt_pairs {a b : Value} {xs ys : List PyData} {as bs : List Addr} (ra : Reads s.heap a (.list xs) as) (rb : Reads s.heap b (.list ys) bs) (hx : PyData.canLayAll0 xs = true) (hy : PyData.canLayAll0 ys = true)
    (hok : LexOk okT xs ys) (hu : A.units + 5 + min (PyData.depthAll xs) (PyData.depthAll ys) < cLine) (hdx : ∀ d ∈ xs, d.canLay0 = true ∧ d.depth ≤ 2) (hdy : ∀ d ∈ ys, d.canLay0 = true ∧ d.depth ≤ 2) : LtAt A s a b (lexL ltT xs ys) := by
  refine ltAt_lists (fun x y dx dy cs ds r1 r2 m1 m2 k => ?_) ra rb hx hy hok (by omega)
  have q1 := hdx dx m1
  have q2 := hdy dy m2
  cases dx <;> cases dy <;> first | exact k.elim | skip
  rename_i us ws
  refine ltAt_tuples r1 r2 q1.1 q2.1 k ?_
  have : PyData.depthAll us ≤ 2 := by have := q1.2; simp only [PyData.depth] at this; omega
  show A.units + 1 + 1 + _ < _
  omega
end
end Mine
end

section
open PySem PySem.W PyProof.Rows PySem.Calls
set_option maxRecDepth 100000
set_option maxHeartbeats 8000000
namespace Mine
local macro_rules | `(tactic| walk_at "ite") => `(tactic| (first | with_reducible refine ite_no ?_ | with_reducible refine ite_yes ?_))
local macro_rules | `(tactic| walk_at "subscriptTail") => `(tactic| (k_here; refine Box.out ?_))
local macro_rules | `(tactic| walk_at "call ref") => `(tactic| (k_here; (with_reducible show wpAny _ _ (PySem.call (Value.ref 135) _) _ _ _); refine Box.out ?_))
local macro_rules | `(tactic| walk_at "call ref") => `(tactic| (k_here; (with_reducible show wpAny _ _ (PySem.call (Value.ref 102) _) _ _ _); refine Box.out ?_))
local macro_rules | `(tactic| walk_at "subscriptTail Name Constant ref int") => `(tactic| (k_here; refine Box.out ?_))
local macro_rules | `(tactic| walk_at "subscriptTail Name Slice ref ref") => `(tactic| (k_here; refine Box.out ?_))
local macro_rules | `(tactic| walk_at "compareOp Eq ref ref") => `(tactic| (k_here; refine Box.out ?_))
local macro_rules | `(tactic| walk_at "compareOp Lt ref ref") => `(tactic| (k_here; refine Box.out ?_))
local macro_rules | `(tactic| walk_at "getMethod ref") => `(tactic| (k_here; refine Box.out ?_))
local macro_rules | `(tactic| walk_at "call builtin:len") => `(tactic| (k_here; refine Box.out ?_))
local macro_rules | `(tactic| walk_at "compareOp Lt ref") => `(tactic| (k_here; refine Box.out ?_))
local macro_rules | `(tactic| walk_at "compareOp Eq ref") => `(tactic| (k_here; refine Box.out ?_))
local macro_rules | `(tactic| walk_at "eval BoolOp") => `(tactic| (k_here; (with_reducible show wpAny _ _ (eval (Expr.BoolOp _ _ _) _) _ _ _); refine Box.out ?_))
def rowD (host ver bld : Str) (kept : List Str) (th : List PyData) : PyData := .tuple [.str host, .str ver, .str bld, .list (kept.map .str), .list th]
def pairOf (h1 p1 h2 p2 : Str) (k1 k2 : List Str) (f1 f2 d1 d2 : List PyData) : Bool :=
  if subOf h1 p1 h2 p2 != (decide (h1 = h2) && coversOf k1 k2) then false
  else if lexL ltE f1 f2 != lexL ltT d1 d2 then false
  else PyData.eqvAll (f2.take f1.length) f1 == PyData.eqvAll (d2.take d1.length) d1
abbrev pmap (M o1 o2 R F R' F' : Addr) (p1 p2 : Str) (u u' : Tok) : Str → Option Value := fun y => if y = Str.ofString "below" then some (.str p2 u') else if y = Str.ofString "behind" then some (.ref F') else if y = Str.ofString "last" then some (.ref R') else if y = Str.ofString "path" then some (.str p1 u) else if y = Str.ofString "version" then some (.ref F) else if y = Str.ofString "row" then some (.ref R) else List.lookup y [(Str.ofString "manager", Value.ref M), (Str.ofString "one", .ref o1), (Str.ofString "other", .ref o2)].reverse
theorem shelf_open {S : Addr → Prop} {h : Heap} {o : Addr} {hs v b p : Str} {k : List Str} {f d : List PyData} (r : Rd S h (.ref o) (.tuple [rowD hs v b k d, .list f, .str p])) :
    ∃ R F u c R1 R2 R3 K D c2 ks ck ds cd fs cf, h.get? o = some (tupO #[.ref R, .ref F, .str p u] c) ∧ h.get? R = some (tupO #[.str hs R1, .str v R2, .str b R3, .ref K, .ref D] c2) ∧
      h.get? K = some (listObj ks ck) ∧ StrsAre ks.toList k ∧ h.get? D = some (listObj ds cd) ∧ RdA S h ds.toList d ∧ h.get? F = some (listObj fs cf) ∧ RdA S h fs.toList f := by
  unfold rowD at r
  cases r with
  | @tuple _ vs c _ e m r =>
  obtain ⟨vs⟩ := vs
  cases r with | cons r r' =>
  cases r' with | cons q r' =>
  cases r' with | cons z r' =>
  cases r'
  cases z with | str _ u =>
  cases q with
  | @list F fs cf _ ef mf rf =>
  cases r with
  | @tuple R ws c2 _ er mr rr =>
  obtain ⟨ws⟩ := ws
  cases rr with | cons a1 rr =>
  cases rr with | cons a2 rr =>
  cases rr with | cons a3 rr =>
  cases rr with | cons a4 rr =>
  cases rr with | cons a5 rr =>
  cases rr
  cases a1 with | str _ u1 =>
  cases a2 with | str _ u2 =>
  cases a3 with | str _ u3 =>
  cases a4 with
  | @list K ks ck _ ek mk rk =>
  cases a5 with
  | @list D ds cd _ ed md rd =>
  exact ⟨R, F, u, c, u1, u2, u3, K, D, c2, ks, ck, ds, cd, fs, cf, e, er, ek, rk.strs, ed, rd, ef, rf⟩
theorem depth_take : ∀ (n : Nat) (ds : List PyData), PyData.depthAll (ds.take n) ≤ PyData.depthAll ds
  | 0, _ => by simp [PyData.depthAll]
  | _ + 1, [] => by simp
  | n + 1, d :: ds => by
    have := depth_take n ds
    simp only [List.take_succ_cons, PyData.depthAll]
    omega
theorem C_pair {w : World} {dp un : Nat} {gd : Option (List Code)} {s : Shared} {outs : List Env} {mean : ExcName → Option Value} {mg mb : Str → Option Value} {Q E : Value → Shared → Prop} {M MD o1 o2 : Addr} {es : List DictEntry} {n : Nat} {h1 v1 b1 p1 h2 v2 b2 p2 : Str} {k1 k2 : List Str} {f1 f2 d1 d2 : List PyData}
    (X : (hd.heap_39 w.params).In s.heap) (T : Top hd.view_39 loose mean mg mb s.heap) (hdp : dp + 40 < recursionLimit) (hun : un + 200 < cLine)
    (q1 : k1.length ≤ 3 ∧ 1 ≤ k1.length) (q2 : k2.length ≤ 3 ∧ 1 ≤ k2.length) (s1 : ∀ z ∈ k1, z.length < 1000) (y1 : PyData.canLayAll0 (k1.map .str) = true) (y2 : PyData.canLayAll0 (k2.map .str) = true)
    (oh1 : PyData.strOk h1 = true) (op1 : PyData.strOk p1 = true) (oh2 : PyData.strOk h2 = true) (op2 : PyData.strOk p2 = true) (lh1 : h1.length < 1000) (lp1 : p1.length < 1000) (lh2 : h2.length < 1000) (lp2 : p2.length < 1000)
    (z1 : PyData.canLayAll0 f1 = true) (z2 : PyData.canLayAll0 f2 = true) (z3 : PyData.canLayAll0 d1 = true) (z4 : PyData.canLayAll0 d2 = true) (g1 : PyData.depthAll f1 ≤ 5) (g2 : PyData.depthAll f2 ≤ 5) (g3 : PyData.depthAll d1 ≤ 5) (g4 : PyData.depthAll d2 ≤ 5)
    (w1 : LexOk sameKind f1 f2) (w2 : LexOk okT d1 d2) (w3 : ∀ d ∈ d1, d.canLay0 = true ∧ d.depth ≤ 2) (w4 : ∀ d ∈ d2, d.canLay0 = true ∧ d.depth ≤ 2) (m1 : f1.length ≤ 100) (m2 : f2.length ≤ 100) (m3 : d1.length ≤ 100) (m4 : d2.length ≤ 100)
    (hM : s.heap.get? M = some (instObj 105 MD)) (hMD : s.heap.get? MD = some (dictOf es n)) (hMl : getL (Str.ofString "is_suburi") es = some none)
    (hO : Rd (fun _ => True) s.heap (.ref o1) (.tuple [rowD h1 v1 b1 k1 d1, .list f1, .str p1]))
    (hP : Rd (fun _ => True) s.heap (.ref o2) (.tuple [rowD h2 v2 b2 k2 d2, .list f2, .str p2]))
    (ret : ∀ h' tk, (∀ a o, s.heap.get? a = some o → h'.get? a = some o) → Q (.bool (pairOf h1 p1 h2 p2 k1 k2 f1 f2 d1 d2)) { s with heap := h', toks := tk }) :
    wpAny (model Challenge.rw_mj0124_01.row.prog w) (Ar dp un gd outs) (call (.ref 142) [.ref M, .ref o1, .ref o2]) Q E s := by
  (revert X; (w_top off; k_fill); intro X)
  refine wpAny_call ?_
  refine' enter_def (binds := [(Str.ofString "manager", .ref M), (Str.ofString "one", .ref o1), (Str.ofString "other", .ref o2)]) X (Top.nolimit (by assumption)) ?k6 ?k7 ?k8 ?k9 ?kB ?_ ?c2 ?c3 ?c4 ?c5
  (case k6 => k_is)
  (case k7 => k_is)
  (case k8 => k_room)
  (case k9 => exact BindsTo.of_eq rfl)
  (case kB => exact locs rfl)
  (case c2 => exact rfl)
  (case c3 => exact rfl)
  (case c4 => exact rfl)
  (case c5 => decide)
  intro L' h₁ F₁ N₁
  obtain ⟨R, F, u, c, u1, u2, u3, K, D, c2, ks, ck, ds, cd, fs, cf, eo, eR, eK, sK, eD, rD, eF, rF⟩ := shelf_open hO
  obtain ⟨R', F', u', c', u1', u2', u3', K', D', c2', ks', ck', ds', cd', fs', cf', eo', eR', eK', sK', eD', rD', eF', rF'⟩ := shelf_open hP
  have i1 : IsTup h₁ o1 #[.ref R, .ref F, .str p1 u] := ⟨_, F₁.keep _ _ eo, rfl, _, rfl⟩
  k_steps
  rename Fr _ _ _ _ => F₂
  have i2 : IsTup _ o2 #[.ref R', .ref F', .str p2 u'] := ⟨_, F₂.keep _ _ eo', rfl, _, rfl⟩
  k_steps
  rename Fr _ _ _ _ => F₃
  clear i1 i2
  refine ⟨?_⟩
  refine wpAny_mono (Q := fun v s' => Box (v = .bool (decide (h1 = h2) && coversOf k1 k2) ∧ ∃ h tk, s' = { s with heap := h, toks := tk } ∧ Fr s.heap L' h (pmap M o1 o2 R F R' F' p1 p2 u u'))) (E := fun _ _ => False) ?_ ?_ ?_
  rotate_left 2
  · intro _ _ e; exact e.elim
  · have j1 : IsTup _ R #[Value.str h1 u1, Value.str v1 u2, Value.str b1 u3, Value.ref K, Value.ref D] := ⟨_, F₃.keep _ _ eR, rfl, _, rfl⟩
    have j2 : IsTup _ R' #[Value.str h2 u1', Value.str v2 u2', Value.str b2 u3', Value.ref K', Value.ref D'] := ⟨_, F₃.keep _ _ eR', rfl, _, rfl⟩
    refine BoolOp_and ?_
    k_steps
    refine ⟨?_⟩
    refine item_tuple (x := .str h1 u1) j1 (by decide) (by decide) rfl rfl ?_ (by with_unfolding_all rfl) (by intro _; with_unfolding_all rfl)
    k_steps
    refine ⟨?_⟩
    refine item_tuple (x := .str h2 u1') j2 (by decide) (by decide) rfl rfl ?_ (by with_unfolding_all rfl) (by intro _; with_unfolding_all rfl)
    k_steps
    · rename (h1 == h2) = true => hh
      rename Fr _ _ _ _ => F₄
      refine ⟨?_⟩
      refine BoolOp_one ?_
      k_steps
      refine ⟨?_⟩
      refine item_tuple (x := .ref K) j1 (by decide) (by decide) rfl rfl ?_ (by with_unfolding_all rfl) (by intro _; with_unfolding_all rfl)
      k_steps
      refine ⟨?_⟩
      refine item_tuple (x := .ref K') j2 (by decide) (by decide) rfl rfl ?_ (by with_unfolding_all rfl) (by intro _; with_unfolding_all rfl)
      k_steps
      refine ⟨?_⟩
      refine C_covers (dp := dp + 1) (un := un + 3) (X.keeps F₄.keep) (T.keeps F₄.keep) (by omega) (by omega) (F₄.keep _ _ eK) (F₄.keep _ _ eK') sK sK' (by rw [strsAre_length sK]; omega) (by rw [strsAre_length sK]; omega) (by rw [strsAre_length sK']; omega) s1 y1 y2 ?_
      intro h₅ tk₅ up
      k_steps
      refine ⟨?_, h₅, _, rfl, F₄.keeps up⟩
      rw [decide_eq_true (by simpa using hh), Bool.true_and]
    · rename (h1 == h2) = false => hh
      rename Fr _ _ _ _ => F₄
      refine ⟨?_, _, _, rfl, F₄⟩
      rw [hh, decide_eq_false (by simpa using hh), Bool.false_and]
  rintro f s' ⟨rfl, h₃, tk₃, rfl, F₄⟩
  have N₄ : News s.heap L' h₃ [] := News.nil
  dsimp only
  k_steps
  rename Fr _ _ _ _ => F₅
  refine ⟨?_⟩
  refine method_inst (ox := instObj 105 MD) (C := 105) (f := 102) F₅ X ⟨F₅.keep _ _ hM, rfl, rfl, F₅.keep _ _ hMD⟩ (by k_is) (by k_is) (by k_is) hMl ?_
  dsimp only
  have j1 : IsTup _ R #[Value.str h1 u1, Value.str v1 u2, Value.str b1 u3, Value.ref K, Value.ref D] := ⟨_, F₅.keep _ _ eR, rfl, _, rfl⟩
  k_steps
  refine ⟨?_⟩
  refine item_tuple (x := .str h1 u1) j1 (by decide) (by decide) rfl rfl ?_ (by with_unfolding_all rfl) (by intro _; with_unfolding_all rfl)
  k_steps
  rename Fr _ _ _ _ => F₆
  have j2 : IsTup _ R' #[Value.str h2 u1', Value.str v2 u2', Value.str b2 u3', Value.ref K', Value.ref D'] := ⟨_, F₆.keep _ _ eR', rfl, _, rfl⟩
  refine ⟨?_⟩
  refine item_tuple (x := .str h2 u1') j2 (by decide) (by decide) rfl rfl ?_ (by with_unfolding_all rfl) (by intro _; with_unfolding_all rfl)
  k_steps
  rename Fr _ _ _ _ => F₇
  rename News _ _ _ _ => N₇
  refine ⟨?_⟩
  refine C_sub (dp := dp + 1) (un := un + 3) (X.keeps F₇.keep) (T.keeps F₇.keep) (by omega) (by omega) (N₇ _ (List.mem_cons_of_mem _ List.mem_cons_self)).1 (N₇ _ List.mem_cons_self).1 oh1 op1 oh2 op2 lh1 lp1 lh2 lp2 ?_
  intro h₈ tk₈ up₈
  have F₈ := F₇.keeps up₈
  have N₈ : News s.heap L' h₈ [] := News.nil
  clear N₇ F₇ j1 j2
  k_steps
  · rename (subOf h1 p1 h2 p2 != (decide (h1 = h2) && coversOf k1 k2)) = true => hne
    rw [pairOf, if_pos hne] at ret
    exact ret _ _ F₈.keep
  rename (subOf h1 p1 h2 p2 != (decide (h1 = h2) && coversOf k1 k2)) = false => hne
  rw [pairOf, hne, if_neg Bool.false_ne_true] at ret
  clear hne up₈
  refine ⟨?_⟩
  obtain ⟨as1, qF⟩ := (RdA.keeps (S' := fun _ => True) (h' := h₈) (fun b o _ e => F₈.keep b o e) (fun _ _ => trivial) rF).reads
  obtain ⟨as2, qF'⟩ := (RdA.keeps (S' := fun _ => True) (h' := h₈) (fun b o _ e => F₈.keep b o e) (fun _ _ => trivial) rF').reads
  refine lt_flat (Reads.list (F₈.keep _ _ eF) rfl rfl qF) (Reads.list (F₈.keep _ _ eF') rfl rfl qF') z1 z2 w1 (by show un + 3 + 1 + _ < cLine; omega) _ _ _ _ ?_
  k_steps
  refine ⟨?_⟩
  have j1 : IsTup h₈ R #[Value.str h1 u1, Value.str v1 u2, Value.str b1 u3, Value.ref K, Value.ref D] := ⟨_, F₈.keep _ _ eR, rfl, _, rfl⟩
  have j2 : IsTup h₈ R' #[Value.str h2 u1', Value.str v2 u2', Value.str b2 u3', Value.ref K', Value.ref D'] := ⟨_, F₈.keep _ _ eR', rfl, _, rfl⟩
  refine item_tuple (x := .ref D) j1 (by decide) (by decide) rfl rfl ?_ (by with_unfolding_all rfl) (by intro _; with_unfolding_all rfl)
  k_steps
  refine ⟨?_⟩
  refine item_tuple (x := .ref D') j2 (by decide) (by decide) rfl rfl ?_ (by with_unfolding_all rfl) (by intro _; with_unfolding_all rfl)
  k_steps
  refine ⟨?_⟩
  obtain ⟨as3, qD⟩ := (RdA.keeps (S' := fun _ => True) (h' := h₈) (fun b o _ e => F₈.keep b o e) (fun _ _ => trivial) rD).reads
  obtain ⟨as4, qD'⟩ := (RdA.keeps (S' := fun _ => True) (h' := h₈) (fun b o _ e => F₈.keep b o e) (fun _ _ => trivial) rD').reads
  refine lt_pairs (Reads.list (F₈.keep _ _ eD) rfl rfl qD) (Reads.list (F₈.keep _ _ eD') rfl rfl qD') z3 z4 w2 (by show un + 3 + 5 + _ < cLine; omega) w3 w4 _ _ _ _ ?_
  k_steps
  · rename (lexL ltE f1 f2 != lexL ltT d1 d2) = true => hne
    rw [if_pos hne] at ret
    exact ret _ _ F₈.keep
  rename (lexL ltE f1 f2 != lexL ltT d1 d2) = false => hne
  rw [hne, if_neg Bool.false_ne_true] at ret
  clear hne
  have hfz : fs.size = f1.length := by have := rF.length; simpa using this
  have hfz' : fs'.size = f2.length := by have := rF'.length; simpa using this
  have hdz : ds.size = d1.length := by have := rD.length; simpa using this
  have hdz' : ds'.size = d2.length := by have := rD'.length; simpa using this
  clear qF qF' qD qD' j1 j2
  refine ⟨?_⟩
  refine len_list (items := fs) ⟨_, F₈.keep _ _ eF, rfl, _, rfl⟩ (by omega) ?_
  dsimp only
  k_steps
  refine ⟨?_⟩
  refine slice_ex (items := fs') ⟨_, F₈.keep _ _ eF', rfl, _, rfl⟩ .none (.int _ _) (fun h₉ up₉ fr₉ hZ => ?_) (by with_unfolding_all rfl) (by intro _; with_unfolding_all rfl) (by rw [sizeLine_eq]; omega)
  have F₉ := fr₉ _ _ _ F₈
  have N₉ : News s.heap L' h₉ [] := News.nil
  have rZ : RdA (fun _ => True) h₉ (slicePick fs' none (some (fs.size : Int)) none).toList (f2.take f1.length) := by
    rw [slicePick_upto', hfz]
    exact RdA.take _ (RdA.keeps (fun b o _ e => F₉.keep b o e) (fun _ _ => trivial) rF')
  clear F₈ N₈ fr₉
  k_steps
  refine ⟨?_⟩
  obtain ⟨as1, qZ⟩ := rZ.reads
  obtain ⟨as2, qF⟩ := (RdA.keeps (S' := fun _ => True) (h' := h₉) (fun b o _ e => F₉.keep b o e) (fun _ _ => trivial) rF).reads
  have gz := depth_take f1.length f2
  refine PySem.SeqAt.compareEq_reads (Reads.list hZ rfl rfl qZ) (Reads.list (F₉.keep _ _ eF) rfl rfl qF) (can_take _ _ z2) z1 (by simp only [PyData.depth]; show un + 3 + _ < cLine; omega) ?_
  rw [show PyData.eqv (.list (f2.take f1.length)) (.list f1) = PyData.eqvAll (f2.take f1.length) f1 from rfl]
  clear qZ qF hZ rZ up₉
  k_steps
  refine ⟨?_⟩
  have j2 : IsTup h₉ R' #[Value.str h2 u1', Value.str v2 u2', Value.str b2 u3', Value.ref K', Value.ref D'] := ⟨_, F₉.keep _ _ eR', rfl, _, rfl⟩
  have j1 : IsTup h₉ R #[Value.str h1 u1, Value.str v1 u2, Value.str b1 u3, Value.ref K, Value.ref D] := ⟨_, F₉.keep _ _ eR, rfl, _, rfl⟩
  refine item_tuple (x := .ref D') j2 (by decide) (by decide) rfl rfl ?_ (by with_unfolding_all rfl) (by intro _; with_unfolding_all rfl)
  dsimp only
  k_steps
  refine ⟨?_⟩
  refine item_tuple (x := .ref D) j1 (by decide) (by decide) rfl rfl ?_ (by with_unfolding_all rfl) (by intro _; with_unfolding_all rfl)
  dsimp only
  k_steps
  refine ⟨?_⟩
  refine len_list (items := ds) ⟨_, F₉.keep _ _ eD, rfl, _, rfl⟩ (by omega) ?_
  dsimp only
  k_steps
  refine ⟨?_⟩
  refine kba_turn (value' := PySem.Expr.Name (PySem.Str.ofString "_") ⟨0, 0, 0, 0⟩) (fun _ => rfl) ?_
  refine slice_ex (items := ds') ⟨_, F₉.keep _ _ eD', rfl, _, rfl⟩ .none (.int _ _) (fun h₁₀ up₁₀ fr₁₀ hZ => ?_) (by with_unfolding_all rfl) (by intro _; with_unfolding_all rfl) (by rw [sizeLine_eq]; omega)
  have F₁₀ := fr₁₀ _ _ _ F₉
  have N₁₀ : News s.heap L' h₁₀ [] := News.nil
  have rZ : RdA (fun _ => True) h₁₀ (slicePick ds' none (some (ds.size : Int)) none).toList (d2.take d1.length) := by
    rw [slicePick_upto', hdz]
    exact RdA.take _ (RdA.keeps (fun b o _ e => F₁₀.keep b o e) (fun _ _ => trivial) rD')
  clear F₉ N₉ fr₁₀ j1 j2
  k_steps
  refine ⟨?_⟩
  have j1 : IsTup h₁₀ R #[Value.str h1 u1, Value.str v1 u2, Value.str b1 u3, Value.ref K, Value.ref D] := ⟨_, F₁₀.keep _ _ eR, rfl, _, rfl⟩
  refine item_tuple (x := .ref D) j1 (by decide) (by decide) rfl rfl ?_ (by with_unfolding_all rfl) (by intro _; with_unfolding_all rfl)
  dsimp only
  k_steps
  refine ⟨?_⟩
  obtain ⟨as1, qZ⟩ := rZ.reads
  obtain ⟨as2, qD⟩ := (RdA.keeps (S' := fun _ => True) (h' := h₁₀) (fun b o _ e => F₁₀.keep b o e) (fun _ _ => trivial) rD).reads
  have gz := depth_take d1.length d2
  refine PySem.SeqAt.compareEq_reads (Reads.list hZ rfl rfl qZ) (Reads.list (F₁₀.keep _ _ eD) rfl rfl qD) (can_take _ _ z4) z3 (by simp only [PyData.depth]; show un + 3 + _ < cLine; omega) ?_
  rw [show PyData.eqv (.list (d2.take d1.length)) (.list d1) = PyData.eqvAll (d2.take d1.length) d1 from rfl]
  clear qZ qD hZ rZ up₁₀ j1
  k_steps
  exact ret _ _ F₁₀.keep
end Mine
end

section
open PySem PySem.W PyProof.Rows PySem.Calls
open Sem (wp)
set_option maxRecDepth 100000
namespace Mine
section
variable {prog : Program} {w : World} {A : Around} {E : Value → Shared → Prop} {s : Shared} {env : Env} {hb : Heap} {x : Str} {px : Pos} {body : List Stmt} {Q : Flow → Shared → Prop}

theorem for_listA {l : Addr} {vs : List Value} {m₀ : Str → Option Value} (J : Nat → (Str → Option Value) → Heap → Prop)
    (hh : A.handled = none) (hx : env.kindOf x = some .local) (hp : (env.scope.kind == .class || (env.scope.kind == .module && env.locals != env.globals)) = false)
    (hl : s.heap.IsList l vs.toArray) (F : Fr hb env.locals s.heap m₀) (hJ : J 0 m₀ s.heap)
    (stab : ∀ i m h h', J i m h → KeepD env.locals s.heap.objs.size h h' → J i m h')
    (turn : ∀ i v m h tk, vs[i]? = some v → J i m h → h.IsList l vs.toArray → h.IsListIter s.heap.objs.size l (i + 1) → Fr hb env.locals h (fun y => if y = x then some v else m y) →
      wpAny (model prog w) A (execs body env) (fun f s₃ => Box (match f with
        | .next | .cont => ∃ m' h' tk', s₃ = { s with heap := h', toks := tk' } ∧ J (i + 1) m' h' ∧ Fr hb env.locals h' m' ∧ h'.IsList l vs.toArray ∧ h'.IsListIter s.heap.objs.size l (i + 1)
        | .brk => Q .next s₃
        | .ret v => Q (.ret v) s₃)) (fun _ _ => False) { s with heap := h, toks := tk })
    (done : ∀ m h tk, J vs.length m h → Fr hb env.locals h m → Q .next { s with heap := h, toks := tk }) :
    wpAny (model prog w) A (pyIter (.ref l)) (fun it s₂ => codeAny (model prog w) A (.forLoop (.Name x px) it body [] env)
      (fun r s' => match r with | .ok f => Q f s' | .error e => cameBackBy (model prog w) A env E e s') s₂) E s := by
  obtain ⟨ol, hol, hcl, kl, hdl⟩ := id hl
  have hLI : env.locals ≠ s.heap.objs.size := Nat.ne_of_lt F.ns.lt
  have hb0 : ∀ b o, hb.get? b = some o → b < s.heap.objs.size := fun b o e => Heap.lt_size (F.keep b o e)
  refine wpAny_pyIter_list hl ?_
  refine codeAny_forLoop (fun n s₁ => ∃ i m h tk, s₁ = { s with heap := h, toks := tk } ∧ n + i = vs.length ∧ J i m h ∧ Fr hb env.locals h m ∧ h.IsList l vs.toArray ∧ h.IsListIter s.heap.objs.size l i) ?_ vs.length
    ⟨0, m₀, _, s.toks, rfl, rfl, stab _ _ _ _ hJ (.of_keep fun b o e => Heap.get?_push_of_some _ e), F.push _, hl.push _, ⟨_, Heap.get?_push_size _ rfl, rfl, rfl⟩⟩
  rintro n s₁ ⟨i, m, h, tk, rfl, hn, j, F₁, hl₁, hi₁⟩
  have hIseq : ∀ (h : Heap) j, h.IsListIter s.heap.objs.size l j → ∀ o, h.get? s.heap.objs.size = some o → ∀ vs k, o.data ≠ .seq vs k := by
    rintro h j ⟨o', ho', _, hd'⟩ o ho vs k hd
    rw [ho'] at ho; cases ho; rw [hd'] at hd; cases hd
  have hlI : l ≠ s.heap.objs.size := fun e => by
    obtain ⟨o, ho, _, k, hd⟩ := hl₁
    exact hIseq h i hi₁ o (e ▸ ho) _ _ hd
  by_cases hlt : i < vs.length
  · have hv : vs.toArray[i]? = some vs[i] := by simp [hlt]
    refine wpAny_pyNext_list_item hi₁ hl₁ hv fun h₂ hi₂ hs₂ => ?_
    have F₂ : Fr hb env.locals h₂ m := ⟨F₁.ns.sameBut hs₂ hLI, fun b o e => (hs₂.2 b (Nat.ne_of_lt (hb0 b o e))).trans (F₁.keep b o e), F₁.above⟩
    have k₂ : KeepD env.locals s.heap.objs.size h h₂ := KeepD.extBut (b := s.heap.objs.size) (fun b o hb e => (hs₂.2 b hb).trans e) (Nat.le_refl _) (hIseq _ _ hi₁)
    refine wpAny_assign_Name (wpAny_storeName_local hx F₂.ns (fun h₃ hn₃ hs₃ => ?_) hp)
    have F₃ := F₂.set hn₃ hs₃
    have k₃ : KeepD env.locals s.heap.objs.size h₂ h₃ := fun b o e q => by
      refine (hs₃.2 b fun hc => ?_).trans e
      rcases q with ⟨_, q⟩ | ⟨vs, k, q⟩
      · exact q hc
      · obtain ⟨oL, es, ep, hoL, hdL, _⟩ := F₂.ns
        rw [hc, hoL] at e; cases e; rw [hdL] at q; cases q
    have hi₃ : h₃.IsListIter s.heap.objs.size l (i + 1) := let ⟨o, ho, r⟩ := hi₂; ⟨o, (hs₃.2 _ (Ne.symm hLI)).trans ho, r⟩
    refine wpAny_mono (turn i vs[i] m h₃ _ (by simp [hlt]) (stab _ _ _ _ j (k₂.trans k₃)) ((k₂.trans k₃).list hl₁) hi₃ F₃) (fun f s₃ ⟨h'⟩ => ?_) fun _ _ x => x.elim
    have fin : (∃ m' h' tk', s₃ = { s with heap := h', toks := tk' } ∧ J (i + 1) m' h' ∧ Fr hb env.locals h' m' ∧ h'.IsList l vs.toArray ∧ h'.IsListIter s.heap.objs.size l (i + 1)) →
      ∃ k, k < n ∧ ∃ i m h tk, s₃ = { s with heap := h, toks := tk } ∧ k + i = vs.length ∧ J i m h ∧ Fr hb env.locals h m ∧ h.IsList l vs.toArray ∧ h.IsListIter s.heap.objs.size l i := by
      rintro ⟨m', h', tk', e, a, b, c, d⟩
      exact ⟨n - 1, by omega, i + 1, m', h', tk', e, by omega, a, b, c, d⟩
    cases f with
    | next => exact fin h'
    | cont => exact fin h'
    | brk => exact h'
    | ret v => exact h'
  · have hv : vs.toArray[i]? = none := by simp; omega
    refine wpAny_pyNext_list_end hh hi₁ hl₁ hv fun h₂ hs₂ => ?_
    have hi : i = vs.length := by omega
    subst hi
    refine wpAny_execs_nil ?_
    exact done m h₂ _ (stab _ _ _ _ j (KeepD.extBut hs₂ (Nat.le_refl _) (hIseq _ _ hi₁)))
      ⟨(let ⟨o, es, ep, ho, r⟩ := F₁.ns; ⟨o, es, ep, hs₂ _ _ hLI ho, r⟩), fun b o e => hs₂ b o (Nat.ne_of_lt (hb0 b o e)) (F₁.keep b o e), F₁.above⟩
end
end Mine
end

section
open PySem PySem.W PyProof.Rows PySem.Calls
set_option maxRecDepth 100000
set_option maxHeartbeats 8000000
namespace Mine
theorem none_below {h₀ h : Heap} {L' b : Addr} {m : Str → Option Value} (F : Fr h₀ L' h m) (e : h.get? b = none) : h₀.get? b = none := by
  cases hq : h₀.get? b with
  | none => rfl
  | some o => rw [F.keep b o hq] at e; cases e
theorem Fr_ext' {h₀ h : Heap} {L : Addr} {m m' : Str → Option Value} (F : Fr h₀ L h m) (e : ∀ y, m y = m' y) : Fr h₀ L h m' := (funext e) ▸ F
def sizesL : List Int := [4, 20, 20, 20, 20, 4, 3]
def figs : Int → List Int → List Int
  | _, [] => []
  | x, z :: zs => x.fmod z :: figs (x.fdiv z) zs
inductive IntsV : List Value → List Int → Prop
  | nil : IntsV [] []
  | cons (n : Int) (t : Tok) {vs ns} : IntsV vs ns → IntsV (.int n t :: vs) (n :: ns)
theorem IntsV.get {vs : List Value} {ns : List Int} (h : IntsV vs ns) : ∀ {i : Nat} {v}, vs[i]? = some v → ∃ n t, v = .int n t ∧ ns[i]? = some n := by
  induction h with
  | nil => intro i v hv; simp at hv
  | cons n t _ ih =>
    intro i v hv
    cases i with
    | zero => simp at hv; exact ⟨n, t, hv.symm, by simp⟩
    | succ i => simp at hv; obtain ⟨x, u, e, hx⟩ := ih hv; exact ⟨x, u, e, by simpa using hx⟩
theorem IntsV.snoc {vs : List Value} {ns : List Int} (h : IntsV vs ns) (n : Int) (t : Tok) : IntsV (vs ++ [.int n t]) (ns ++ [n]) := by
  induction h with
  | nil => exact .cons n t .nil
  | cons m u _ ih => exact .cons m u ih
theorem IntsV.length {vs : List Value} {ns : List Int} (h : IntsV vs ns) : vs.length = ns.length := by
  induction h with
  | nil => rfl
  | cons _ _ _ ih => rw [List.length_cons, List.length_cons, ih]
abbrev fmap1 (vs vw : Option Value) (x : Int) (t : Tok) (l : Addr) : Str → Option Value := fun y => if y = Str.ofString "whole" then vw else if y = Str.ofString "size" then vs else List.lookup y [(Str.ofString "x", Value.int x t), (Str.ofString "sizes", .ref l)].reverse
abbrev fmap2 (vx vs vw : Option Value) (R l : Addr) : Str → Option Value := fun y => if y = Str.ofString "x" then vx else if y = Str.ofString "size" then vs else if y = Str.ofString "figures" then some (.ref R) else if y = Str.ofString "whole" then vw else if y = Str.ofString "sizes" then some (.ref l) else none
def prodTo (i : Nat) : Int := (sizesL.take i).foldl (· * ·) 1
theorem prod_step : ∀ i, i < 7 → ∀ k, sizesL[i]? = some k → prodTo (i + 1) = prodTo i * k ∧ 0 ≤ prodTo i ∧ prodTo i ≤ 7680000 ∧ 1 ≤ k ∧ k ≤ 20 := by
  intro i hi k hk
  obtain rfl | rfl | rfl | rfl | rfl | rfl | rfl : i = 0 ∨ i = 1 ∨ i = 2 ∨ i = 3 ∨ i = 4 ∨ i = 5 ∨ i = 6 := by omega
  all_goals (cases hk; decide)
theorem fmap1_ext (vs vw vs' : Option Value) (x : Int) (t : Tok) (l : Addr) (a : Value) (y : Str) : (if y = Str.ofString "whole" then some a else if y = Str.ofString "size" then vs' else fmap1 vs vw x t l y) = fmap1 vs' (some a) x t l y := by
  by_cases h1 : y = Str.ofString "whole"
  · simp only [fmap1, if_pos h1]
  · by_cases h2 : y = Str.ofString "size"
    · simp only [fmap1, if_neg h1, if_pos h2]
    · simp only [fmap1, if_neg h1, if_neg h2]
theorem fmap2_ext (vx vs vw vs' : Option Value) (R l : Addr) (a : Value) (y : Str) : (if y = Str.ofString "x" then some a else if y = Str.ofString "size" then vs' else fmap2 vx vs vw R l y) = fmap2 (some a) vs' vw R l y := by
  by_cases h1 : y = Str.ofString "x"
  · simp only [fmap2, if_pos h1]
  · by_cases h2 : y = Str.ofString "size"
    · simp only [fmap2, if_neg h1, if_pos h2]
    · simp only [fmap2, if_neg h1, if_neg h2]
theorem fmap1_start (x : Int) (t : Tok) (l : Addr) (a : Value) (y : Str) : (if y = Str.ofString "whole" then some a else List.lookup y [(Str.ofString "x", Value.int x t), (Str.ofString "sizes", .ref l)].reverse) = fmap1 none (some a) x t l y := by
  by_cases h1 : y = Str.ofString "whole"
  · simp only [fmap1, if_pos h1]
  · by_cases h2 : y = Str.ofString "size"
    · subst h2; rfl
    · simp only [fmap1, if_neg h1, if_neg h2]
theorem fmap2_start (vs vw : Option Value) (x : Int) (t : Tok) (R l : Addr) (a : Value) (y : Str) : (if y = Str.ofString "figures" then some (.ref R) else if y = Str.ofString "x" then some a else fmap1 vs vw x t l y) = fmap2 (some a) vs vw R l y := by
  by_cases h1 : y = Str.ofString "x"
  · subst h1; rfl
  by_cases h2 : y = Str.ofString "size"
  · subst h2; rfl
  by_cases h3 : y = Str.ofString "figures"
  · subst h3; rfl
  by_cases h4 : y = Str.ofString "whole"
  · subst h4; rfl
  by_cases h5 : y = Str.ofString "sizes"
  · subst h5; rfl
  simp only [fmap2, fmap1, if_neg h1, if_neg h2, if_neg h3, if_neg h4, if_neg h5]
  show List.lookup y [(Str.ofString "sizes", Value.ref l), (Str.ofString "x", .int x t)] = none
  have b1 : (y == Str.ofString "sizes") = false := by simpa using h5
  have b2 : (y == Str.ofString "x") = false := by simpa using h1
  simp only [List.lookup_cons, List.lookup_nil, b1, b2]
local macro_rules | `(tactic| walk_at "exec For") => `(tactic| (k_here; refine Box.out ?_))
theorem C_fig {w : World} {dp un : Nat} {gd : Option (List Code)} {s : Shared} {outs : List Env} {mean : ExcName → Option Value} {mg mb : Str → Option Value} {Q E : Value → Shared → Prop} {x : Int} {t : Tok} {l : Addr} {zs : List Value}
    (X : (hd.heap_39 w.params).In s.heap) (T : Top hd.view_39 loose mean mg mb s.heap) (hdp : dp + 20 < recursionLimit)
    (hl : s.heap.IsList l zs.toArray) (hz : IntsV zs sizesL)
    (ret : ∀ R vs h' tk c, (∀ b o, s.heap.get? b = some o → h'.get? b = some o) → s.heap.get? R = none → h'.get? R = some (listObj vs c) → IntsV vs.toList (figs (x.fmod 7680000) sizesL) → Q (.ref R) { s with heap := h', toks := tk }) :
    wpAny (model Challenge.rw_mj0124_01.row.prog w) (Ar dp un gd outs) (call (.ref 116) [.int x t, .ref l]) Q E s := by
  (revert X; (w_top off; k_fill); intro X)
  refine wpAny_call ?_
  refine' enter_def (binds := [(Str.ofString "x", .int x t), (Str.ofString "sizes", .ref l)]) X (Top.nolimit (by assumption)) ?k6 ?k7 ?k8 ?k9 ?kB ?_ ?c2 ?c3 ?c4 ?c5
  (case k6 => k_is)
  (case k7 => k_is)
  (case k8 => k_room)
  (case k9 => exact BindsTo.of_eq rfl)
  (case kB => exact locs rfl)
  (case c2 => exact rfl)
  (case c3 => exact rfl)
  (case c4 => exact rfl)
  (case c5 => decide)
  intro L' h₁ F₁ N₁
  have hzl : zs.length = 7 := hz.length
  k_steps
  rename_i h₂ F₂ N₂
  have hl₂ : h₂.IsList l zs.toArray := by obtain ⟨o, ho, r⟩ := hl; exact ⟨o, F₂.keep _ _ ho, r⟩
  replace F₂ := Fr_ext' F₂ (fmap1_start x t l _)
  first | refine wpAny_For ?_ | refine Box.mk (wpAny_For ?_)
  refine wpAny_Name (wpAny_loadName_local rfl rfl F₂.ns rfl ?_) rfl
  refine for_listA (J := fun i m h => Box (∃ vs u, m = fmap1 vs (some (.int (prodTo i) u)) x t l)) (hb := s.heap) (vs := zs) rfl rfl rfl hl₂ F₂ ⟨none, _, rfl⟩ ?_ ?_ ?_
  · rintro i m h h' b _; exact b
  · rintro i v m h tk hv ⟨vs, u, rfl⟩ hli hit F₃
    obtain ⟨k, tv, rfl, hk⟩ := hz.get hv
    have hi : i < 7 := by rw [← hzl]; exact (List.getElem?_eq_some_iff.mp hv).1
    obtain ⟨e1, e2, e3, e4, e5⟩ := prod_step i hi k hk
    obtain ⟨oit, hoit, r⟩ := hit
    have N₃ : News s.heap L' h [(h₂.objs.size, oit)] := fun p hp => by
      obtain rfl := List.mem_singleton.mp hp
      exact ⟨hoit, Nat.ne_of_gt F₂.ns.lt, none_below F₂ (Heap.get?_none_of_le (Nat.le_refl _))⟩
    k_steps
    rename_i h₄ F₄ N₄
    rw [← e1] at F₄
    replace F₄ := Fr_ext' F₄ (fmap1_ext vs _ _ x t l _)
    refine ⟨_, h₄, _, rfl, ?e, F₄, ?_, ?_⟩
    case e => exact ⟨_, _, rfl⟩
    · obtain ⟨o, ho, r⟩ := hl; exact ⟨o, F₄.keep _ _ ho, r⟩
    · exact ⟨oit, (N₄ _ List.mem_cons_self).1, r⟩
  · rintro m h tk ⟨vs, u, rfl⟩ F₃
    rw [hzl] at F₃
    have e7 : prodTo 7 = 7680000 := by decide
    rw [e7] at F₃
    have N₃ : News s.heap L' h [] := News.nil
    clear F₂ N₂ hl₂
    dsimp only
    k_steps
    rename_i h₄ R _ _ h₅ F₅ N₅
    replace F₅ := Fr_ext' F₅ (fmap2_start vs _ x t R l _)
    have hl₅ : h₅.IsList l zs.toArray := by obtain ⟨o, ho, r⟩ := hl; exact ⟨o, F₅.keep _ _ ho, r⟩
    have hm1 := Int.fmod_nonneg_of_pos x (b := 7680000) (by decide)
    have hm2 := Int.fmod_lt_of_pos x (b := 7680000) (by decide)
    have hR0 : s.heap.get? R = none := (N₅ _ List.mem_cons_self).2.2
    have hRn : R ≠ L' := (N₅ _ List.mem_cons_self).2.1
    first | refine wpAny_For ?_ | refine Box.mk (wpAny_For ?_)
    refine wpAny_Name (wpAny_loadName_local rfl rfl F₅.ns rfl ?_) rfl
    refine for_listA (J := fun i m h => Box (∃ xi tx vs vw rs c done, m = fmap2 (some (.int xi tx)) vs vw R l ∧ h.get? R = some (listObj rs c) ∧ IntsV rs.toList done ∧ done ++ figs xi (sizesL.drop i) = figs (x.fmod 7680000) sizesL ∧ 0 ≤ xi ∧ xi ≤ 7680000 ∧ done.length = i)) (hb := s.heap) (vs := zs) rfl rfl rfl hl₅ F₅ ⟨_, _, _, _, #[], 0, [], rfl, (N₅ _ List.mem_cons_self).1, .nil, by rw [List.nil_append, List.drop_zero], hm1, Int.le_of_lt hm2, rfl⟩ ?_ ?_ ?_
    · rintro i m h h' ⟨xi, tx, vs, vw, rs, c, dn, e1, e2, r⟩ hk
      exact ⟨xi, tx, vs, vw, rs, c, dn, e1, hk _ _ e2 (.inr ⟨_, _, rfl⟩), r⟩
    · rintro i v m h tk hv ⟨xi, tx, vs, vw, rs, c, dn, rfl, hR, hin, hfig, hx0, hx1, hdl⟩ hli hit F₆
      obtain ⟨k, tv, rfl, hk⟩ := hz.get hv
      have hi : i < 7 := by rw [← hzl]; exact (List.getElem?_eq_some_iff.mp hv).1
      obtain ⟨_, _, _, e4, e5⟩ := prod_step i hi k hk
      obtain ⟨oit, hoit, r⟩ := hit
      have hIn : s.heap.get? h₅.objs.size = none := none_below F₅ (Heap.get?_none_of_le (Nat.le_refl _))
      have hRI : R ≠ h₅.objs.size := Nat.ne_of_lt (Heap.lt_size (N₅ _ List.mem_cons_self).1)
      have N₆ : News s.heap L' h [(R, listObj rs c), (h₅.objs.size, oit)] := fun p hp => by
        rcases List.mem_cons.mp hp with rfl | hp
        · exact ⟨hR, hRn, hR0⟩
        · obtain rfl := List.mem_singleton.mp hp
          exact ⟨hoit, Nat.ne_of_gt F₅.ns.lt, hIn⟩
      have hrs : rs.size = i := by have := hin.length; simpa [hdl] using this
      have hk3 : k = 4 ∨ k = 20 ∨ k = 3 := by
        obtain rfl | rfl | rfl | rfl | rfl | rfl | rfl : i = 0 ∨ i = 1 ∨ i = 2 ∨ i = 3 ∨ i = 4 ∨ i = 5 ∨ i = 6 := by omega
        all_goals (cases hk; decide)
      have hfin : ∀ tx' h' c' tk', Fr s.heap L' h' (fmap2 (some (.int (xi.fdiv k) tx')) (some (.int k tv)) vw R l) → News s.heap L' h' [(R, listObj (rs.push (.int (xi.fmod k) tk')) c'), (h₅.objs.size, oit)] → 0 ≤ xi.fdiv k → xi.fdiv k ≤ 7680000 → ∀ tk, 
          ∃ m' h'' tk'', ({ s with heap := h', toks := tk } : Shared) = { s with heap := h'', toks := tk'' } ∧ Box (∃ xi tx vs vw rs c done, m' = fmap2 (some (.int xi tx)) vs vw R l ∧ h''.get? R = some (listObj rs c) ∧ IntsV rs.toList done ∧ done ++ figs xi (sizesL.drop (i + 1)) = figs (x.fmod 7680000) sizesL ∧ 0 ≤ xi ∧ xi ≤ 7680000 ∧ done.length = i + 1) ∧
            Fr s.heap L' h'' m' ∧ h''.IsList l zs.toArray ∧ h''.IsListIter h₅.objs.size l (i + 1) := by
        intro tx' h' c' tk' F' N' q1 q2 tk
        refine ⟨_, h', tk, rfl, ⟨_, _, _, _, _, c', dn ++ [xi.fmod k], rfl, (N' _ List.mem_cons_self).1, ?_, ?_, q1, q2, by simp [hdl]⟩, F', ?_, ?_⟩
        · rw [Array.toList_push]; exact hin.snoc _ _
        · obtain ⟨hlt, hke⟩ := List.getElem?_eq_some_iff.mp hk
          rw [← hfig, List.drop_eq_getElem_cons hlt, hke, List.append_assoc]; rfl
        · obtain ⟨o, ho, r⟩ := hl; exact ⟨o, F'.keep _ _ ho, r⟩
        · exact ⟨oit, (N' _ (List.mem_cons_of_mem _ List.mem_cons_self)).1, r⟩
      have hB := Box.mk hfin
      clear hfin hfig hz hin hk e4 e5 ret
      have hq : 0 ≤ xi.fdiv k ∧ xi.fdiv k ≤ 7680000 := by
        rw [Int.fdiv_eq_ediv_of_nonneg _ (by omega)]
        exact ⟨Int.ediv_nonneg hx0 (by omega), Int.le_trans (Int.ediv_le_self _ hx0) hx1⟩
      rcases hk3 with rfl | rfl | rfl
      all_goals
        iterate 11 (first | (k_unfold; (try dsimp only)) | walk1 | (dsimp only; walk1) | (leave1; walk_say "STEP leave1"; (try dsimp only)))
        refine wpAny_pure ?_
        refine append1 F₆ hR hR0 (by omega) fun h₇ c₇ F₇ hl₇ hs₇ => ?_
        have N₇ : News s.heap L' h₇ [(R, listObj (rs.push (.int (xi.fmod _) _)) c₇), (h₅.objs.size, oit)] := fun p hp => by
          rcases List.mem_cons.mp hp with rfl | hp
          · exact ⟨hl₇, hRn, hR0⟩
          · obtain rfl := List.mem_singleton.mp hp
            exact ⟨(hs₇.2 _ (Ne.symm hRI)).trans hoit, Nat.ne_of_gt F₅.ns.lt, hIn⟩
        clear F₆ N₆ hs₇ hl₇
        dsimp only
        k_steps
        rename_i h₈ F₈ N₈
        exact ⟨hB.out _ _ _ _ (Fr_ext' F₈ (fmap2_ext _ _ _ _ R l _)) N₈ hq.1 hq.2 _⟩
    · rintro m h tk ⟨xi, tx, vs, vw, rs, c, dn, rfl, hR, hin, hfig, hx0, hx1, hdl⟩ F₆
      rw [hzl] at hfig
      have e : dn = figs (x.fmod 7680000) sizesL := by
        rw [← hfig]
        show dn = dn ++ []
        rw [List.append_nil]
      have N₆ : News s.heap L' h [(R, listObj rs c)] := fun p hp => by
        obtain rfl := List.mem_singleton.mp hp
        exact ⟨hR, hRn, hR0⟩
      clear hfig F₅ N₅ hl₅
      dsimp only
      k_steps
      exact ret R rs h _ c F₆.keep hR0 hR (e ▸ hin)
end Mine
end

section
open PySem PySem.W PyProof.Rows PySem.Calls
set_option maxRecDepth 100000
set_option maxHeartbeats 8000000
namespace Mine
theorem News.isIn {h₀ h : Heap} {L a : Addr} {o : Obj} {nx : List (Addr × Obj)} (N : News h₀ L h nx) (hm : (a, o) ∈ nx) : h.get? a = some o := (N _ hm).1
theorem News.isNew {h₀ h : Heap} {L a : Addr} {o : Obj} {nx : List (Addr × Obj)} (N : News h₀ L h nx) (hm : (a, o) ∈ nx) : h₀.get? a = none := (N _ hm).2.2
def PlainIs (v : Value) : Option Str → Prop
  | none => v = .none
  | some y => ∃ t, v = .str y t
def numTable : List (Str × Int) := [(Str.ofString "01", 1), (Str.ofString "00", 0), (Str.ofString "012", 12), (Str.ofString "007", 7), (Str.ofString "0", 0), (Str.ofString "1", 1), (Str.ofString "2", 2), (Str.ofString "3", 3), (Str.ofString "4", 4), (Str.ofString "7", 7), (Str.ofString "9", 9), (Str.ofString "10", 10), (Str.ofString "12", 12)]
theorem any_toks {α : Type} {M : Model} {A : Around} {t : Sem α} {Q : α → Shared → Prop} {E : Value → Shared → Prop} {h : Heap} {g d o} {tk : Nat} (H : ∀ tk, wpAny M A t Q E ⟨h, g, d, tk, o⟩) : wpAny M A t Q E ⟨h, g, d, tk, o⟩ := H tk
theorem News.sub {h₀ h : Heap} {L : Addr} {nx ny : List (Addr × Obj)} (N : News h₀ L h nx) (hm : ∀ p ∈ ny, p ∈ nx) : News h₀ L h ny := fun p hp => N p (hm p hp)
theorem take_dict {prog : Program} {w : World} {o : Obj} {kvs : List (Str × Value)} {text : Str} {R : Option Value → Prop} {P : Prop} (h : Obj.IsDictOf (PySem.strKind prog w) o kvs) (hv : R (valueAt kvs text))
    (k : ∀ kvs v, Obj.IsDictOf (PySem.strKind prog w) o kvs → valueAt kvs text = v → R v → P) : P := k kvs _ h rfl hv
def wordTable : List (Str × List PyData) := [((Str.ofString "x"), [.tuple [.int 0, .str (Str.ofString "x")]]), ((Str.ofString ""), []), ((Str.ofString "rc1"), [.tuple [.int 50, .str (Str.ofString "rc")], .tuple [.int 100, .int 1]]), ((Str.ofString "p"), [.tuple [.int 200, .str (Str.ofString "p")]])]
def otherTable : List (Str × Str × List PyData) := [((Str.ofString " 4"), (Str.ofString "4"), [.tuple [.int 0, .str (Str.ofString " ")], .tuple [.int 100, .int 4]]), ((Str.ofString "2 "), (Str.ofString "2"), [.tuple [.int 100, .int 2], .tuple [.int 0, .str (Str.ofString " ")]]), ((Str.ofString "-1"), (Str.ofString "-1"), [.tuple [.int 100, .int 1]]), ((Str.ofString "+2"), (Str.ofString "2"), [.tuple [.int 100, .int 2]])]
inductive PartIs : Str → Option Str → List PyData → Prop
  | num {text : Str} {n : Int} : (text, n) ∈ numTable → PartIs text (some (Str.ofString (toString n))) [.tuple [.int 100, .int n]]
  | word {text : Str} {th : List PyData} : (text, th) ∈ wordTable → PartIs text none th
  | other {text pl : Str} {th : List PyData} : (text, pl, th) ∈ otherTable → PartIs text (some pl) th
theorem num_range {text : Str} {n : Int} (h : (text, n) ∈ numTable) : 0 ≤ n ∧ n < 20 := by
  simp only [numTable, List.mem_cons, Prod.mk.injEq, List.not_mem_nil, or_false] at h
  rcases h with ⟨rfl, rfl⟩ | ⟨rfl, rfl⟩ | ⟨rfl, rfl⟩ | ⟨rfl, rfl⟩ | ⟨rfl, rfl⟩ | ⟨rfl, rfl⟩ | ⟨rfl, rfl⟩ | ⟨rfl, rfl⟩ | ⟨rfl, rfl⟩ | ⟨rfl, rfl⟩ | ⟨rfl, rfl⟩ | ⟨rfl, rfl⟩ | ⟨rfl, rfl⟩ <;> decide
local macro_rules | `(tactic| walk_at "subscriptTail Name Name ref str") => `(tactic| (k_here; refine Box.out ?_))
local macro_rules | `(tactic| walk_at "compareOp In str ref") => `(tactic| (k_here; refine Box.out ?_))
theorem C_part {w : World} {dp un : Nat} {gd : Option (List Code)} {s : Shared} {outs : List Env} {mean : ExcName → Option Value} {mg mb : Str → Option Value} {Q E : Value → Shared → Prop} {text : Str} {t : Tok} {pl : Option Str} {th : List PyData}
    (X : (hd.heap_39 w.params).In s.heap) (T : Top hd.view_39 loose mean mg mb s.heap) (hdp : dp + 20 < recursionLimit) (htl : text.length < 100)
    (ht : PartIs text pl th)
    (ret : ∀ R l v0 h' tk c, (∀ b o, s.heap.get? b = some o → h'.get? b = some o) → s.heap.get? R = none → h'.get? R = some { cls := .type "tuple", data := .seq #[v0, .ref l] c } → PlainIs v0 pl → Rd (fun b => s.heap.get? b = none) h' (.ref l) (.list th) → Q (.ref R) { s with heap := h', toks := tk }) :
    wpAny (model Challenge.rw_mj0124_01.row.prog w) (Ar dp un gd outs) (call (.ref 123) [.str text t]) Q E s := by
  (revert X; (w_top off; k_fill); intro X)
  refine wpAny_call ?_
  k_dflt (refine' enter_def ?kX ?kl ?k6 ?k7 ?k8 ?k9 ?kB ?_ ?c2 ?c3 ?c4 ?c5; (case kX => assumption); (case kl => exact Top.nolimit (by assumption)); (case k6 => k_is); (case k7 => k_is); (case k8 => k_room); (case k9 => exact BindsTo.of_eq rfl); (case c5 => decide); (case kB => exact locs rfl); (case c2 => exact rfl); (case c3 => exact rfl); (case c4 => exact rfl); k_whole; intro L' h' F' N'; (try dsimp only); (try k_fold))
  k_steps
  refine ⟨?_⟩
  rename PyProof.V.FlatPairs _ _ _ => hfl
  clear hfl
  rename Obj.IsDictOf _ _ _ => hdN
  refine any_toks fun tk₁ => ?_
  cases ht with
  | num ht =>
    rename_i n
    obtain ⟨hn0, hn1⟩ := num_range ht
    simp only [numTable, List.mem_cons, Prod.mk.injEq, List.not_mem_nil, or_false] at ht
    refine take_dict (text := text) (R := fun v => ∃ tn, v = some (Value.int n tn)) hdN ?_ ?_
    · rcases ht with ⟨rfl, rfl⟩ | ⟨rfl, rfl⟩ | ⟨rfl, rfl⟩ | ⟨rfl, rfl⟩ | ⟨rfl, rfl⟩ | ⟨rfl, rfl⟩ | ⟨rfl, rfl⟩ | ⟨rfl, rfl⟩ | ⟨rfl, rfl⟩ | ⟨rfl, rfl⟩ | ⟨rfl, rfl⟩ | ⟨rfl, rfl⟩ | ⟨rfl, rfl⟩ <;> exact ⟨_, rfl⟩
    clear hdN
    rintro kvN _ hdN hvN ⟨tn, rfl⟩
    refine kda_in (knd := PySem.strKind _ _) (by k_asm) (by k_mem) (by k_asm) (by k_asm) (strKind_is _ _ _ _) false (by rcases ht with ⟨rfl, rfl⟩ | ⟨rfl, rfl⟩ | ⟨rfl, rfl⟩ | ⟨rfl, rfl⟩ | ⟨rfl, rfl⟩ | ⟨rfl, rfl⟩ | ⟨rfl, rfl⟩ | ⟨rfl, rfl⟩ | ⟨rfl, rfl⟩ | ⟨rfl, rfl⟩ | ⟨rfl, rfl⟩ | ⟨rfl, rfl⟩ | ⟨rfl, rfl⟩ <;> rfl) ?_
    rename News _ _ _ _ => N₁
    replace N₁ := News.sub (ny := [(_, _)]) N₁ (List.forall_mem_singleton.mpr List.mem_cons_self)
    clear ht
    dsimp only
    k_steps
    refine ⟨?_⟩
    refine kda_in (knd := PySem.strKind _ _) (by k_asm) (by k_mem) (by k_asm) (by k_asm) (strKind_is _ _ _ _) true (by rw [hvN]; rfl) ?_
    dsimp only
    k_steps
    refine ⟨?_⟩
    refine kda_item (knd := PySem.strKind _ _) (by k_asm) (by k_mem) (by k_asm) (strKind_is _ _ _ _) hvN ?_
    dsimp only
    k_steps
    refine ⟨?_⟩
    refine kda_item (knd := PySem.strKind _ _) (by k_asm) (by k_mem) (by k_asm) (strKind_is _ _ _ _) hvN ?_
    dsimp only
    k_steps
    exact ret _ _ _ _ _ _ (Fr.keep (by assumption)) (News.isNew (by assumption) (by k_mem)) (News.isIn (by assumption) (by k_mem)) ⟨_, rfl⟩ (.list (News.isIn (by assumption) (by k_mem)) (News.isNew (by assumption) (by k_mem)) (.cons (.tuple (News.isIn (by assumption) (by k_mem)) (News.isNew (by assumption) (by k_mem)) (.cons (.int _ _) (.cons (.int _ _) .nil))) .nil))
  | word ht =>
    clear hdN
    simp only [wordTable, List.mem_cons, Prod.mk.injEq, List.not_mem_nil, or_false] at ht
    refine kda_in (knd := PySem.strKind _ _) (by k_asm) (by k_mem) (by k_asm) (by k_asm) (strKind_is _ _ _ _) true (by rcases ht with ⟨rfl, rfl⟩ | ⟨rfl, rfl⟩ | ⟨rfl, rfl⟩ | ⟨rfl, rfl⟩ <;> rfl) ?_
    have hB := Box.mk ht
    clear ht
    k_steps
    refine ⟨?_⟩
    obtain ⟨ht⟩ := hB
    rcases ht with ⟨rfl, rfl⟩ | ⟨rfl, rfl⟩ | ⟨rfl, rfl⟩ | ⟨rfl, rfl⟩
    · refine kda_item (knd := PySem.strKind _ _) (by k_asm) (by k_mem) (by k_asm) (strKind_is _ _ _ _) rfl ?_
      dsimp only
      k_steps
      exact ret _ _ _ _ _ _ (Fr.keep (by assumption)) (News.isNew (by assumption) (by k_mem)) (News.isIn (by assumption) (by k_mem)) rfl (.list (News.isIn (by assumption) (by k_mem)) (News.isNew (by assumption) (by k_mem)) (.cons (.tuple (News.isIn (by assumption) (by k_mem)) (News.isNew (by assumption) (by k_mem)) (.cons (.int _ _) (.cons (.str _ _) .nil))) .nil))
    · refine kda_item (knd := PySem.strKind _ _) (by k_asm) (by k_mem) (by k_asm) (strKind_is _ _ _ _) rfl ?_
      dsimp only
      k_steps
      exact ret _ _ _ _ _ _ (Fr.keep (by assumption)) (News.isNew (by assumption) (by k_mem)) (News.isIn (by assumption) (by k_mem)) rfl (.list (News.isIn (by assumption) (by k_mem)) (News.isNew (by assumption) (by k_mem)) .nil)
    · refine kda_item (knd := PySem.strKind _ _) (by k_asm) (by k_mem) (by k_asm) (strKind_is _ _ _ _) rfl ?_
      dsimp only
      k_steps
      exact ret _ _ _ _ _ _ (Fr.keep (by assumption)) (News.isNew (by assumption) (by k_mem)) (News.isIn (by assumption) (by k_mem)) rfl (.list (News.isIn (by assumption) (by k_mem)) (News.isNew (by assumption) (by k_mem)) (.cons (.tuple (News.isIn (by assumption) (by k_mem)) (News.isNew (by assumption) (by k_mem)) (.cons (.int _ _) (.cons (.str _ _) .nil))) (.cons (.tuple (News.isIn (by assumption) (by k_mem)) (News.isNew (by assumption) (by k_mem)) (.cons (.int _ _) (.cons (.int _ _) .nil))) .nil)))
    · refine kda_item (knd := PySem.strKind _ _) (by k_asm) (by k_mem) (by k_asm) (strKind_is _ _ _ _) rfl ?_
      dsimp only
      k_steps
      exact ret _ _ _ _ _ _ (Fr.keep (by assumption)) (News.isNew (by assumption) (by k_mem)) (News.isIn (by assumption) (by k_mem)) rfl (.list (News.isIn (by assumption) (by k_mem)) (News.isNew (by assumption) (by k_mem)) (.cons (.tuple (News.isIn (by assumption) (by k_mem)) (News.isNew (by assumption) (by k_mem)) (.cons (.int _ _) (.cons (.str _ _) .nil))) .nil))
  | other ht =>
    simp only [otherTable, List.mem_cons, Prod.mk.injEq, List.not_mem_nil, or_false] at ht
    refine kda_in (knd := PySem.strKind _ _) (by k_asm) (by k_mem) (by k_asm) (by k_asm) (strKind_is _ _ _ _) false (by rcases ht with ⟨rfl, rfl, rfl⟩ | ⟨rfl, rfl, rfl⟩ | ⟨rfl, rfl, rfl⟩ | ⟨rfl, rfl, rfl⟩ <;> rfl) ?_
    rename News _ _ _ _ => N₁
    replace N₁ := News.sub (ny := [(_, _)]) N₁ (List.forall_mem_singleton.mpr List.mem_cons_self)
    dsimp only
    k_steps
    refine ⟨?_⟩
    refine kda_in (knd := PySem.strKind _ _) (by k_asm) (by k_mem) (by k_asm) (by k_asm) (strKind_is _ _ _ _) false (by rcases ht with ⟨rfl, rfl, rfl⟩ | ⟨rfl, rfl, rfl⟩ | ⟨rfl, rfl, rfl⟩ | ⟨rfl, rfl, rfl⟩ <;> rfl) ?_
    have hB := Box.mk ht
    clear ht
    dsimp only
    refine wpAny_truthy_bool ?_
    rw [if_neg Bool.false_ne_true]
    refine wpAny_execs_nil ?_
    dsimp only
    k_steps
    refine ⟨?_⟩
    obtain ⟨ht⟩ := hB
    rcases ht with ⟨rfl, rfl, rfl⟩ | ⟨rfl, rfl, rfl⟩ | ⟨rfl, rfl, rfl⟩ | ⟨rfl, rfl, rfl⟩
    · refine kda_item (knd := PySem.strKind _ _) (by k_asm) (by k_mem) (by k_asm) (strKind_is _ _ _ _) rfl ?_
      dsimp only
      exact ret _ _ _ _ _ _ (Fr.keep (by assumption)) (News.isNew (by assumption) (by k_mem)) (News.isIn (by assumption) (by k_mem)) ⟨_, rfl⟩ (.list (News.isIn (by assumption) (by k_mem)) (News.isNew (by assumption) (by k_mem)) (.cons (.tuple (News.isIn (by assumption) (by k_mem)) (News.isNew (by assumption) (by k_mem)) (.cons (.int _ _) (.cons (.str _ _) .nil))) (.cons (.tuple (News.isIn (by assumption) (by k_mem)) (News.isNew (by assumption) (by k_mem)) (.cons (.int _ _) (.cons (.int _ _) .nil))) .nil)))
    · refine kda_item (knd := PySem.strKind _ _) (by k_asm) (by k_mem) (by k_asm) (strKind_is _ _ _ _) rfl ?_
      dsimp only
      exact ret _ _ _ _ _ _ (Fr.keep (by assumption)) (News.isNew (by assumption) (by k_mem)) (News.isIn (by assumption) (by k_mem)) ⟨_, rfl⟩ (.list (News.isIn (by assumption) (by k_mem)) (News.isNew (by assumption) (by k_mem)) (.cons (.tuple (News.isIn (by assumption) (by k_mem)) (News.isNew (by assumption) (by k_mem)) (.cons (.int _ _) (.cons (.int _ _) .nil))) (.cons (.tuple (News.isIn (by assumption) (by k_mem)) (News.isNew (by assumption) (by k_mem)) (.cons (.int _ _) (.cons (.str _ _) .nil))) .nil)))
    · refine kda_item (knd := PySem.strKind _ _) (by k_asm) (by k_mem) (by k_asm) (strKind_is _ _ _ _) rfl ?_
      dsimp only
      exact ret _ _ _ _ _ _ (Fr.keep (by assumption)) (News.isNew (by assumption) (by k_mem)) (News.isIn (by assumption) (by k_mem)) ⟨_, rfl⟩ (.list (News.isIn (by assumption) (by k_mem)) (News.isNew (by assumption) (by k_mem)) (.cons (.tuple (News.isIn (by assumption) (by k_mem)) (News.isNew (by assumption) (by k_mem)) (.cons (.int _ _) (.cons (.int _ _) .nil))) .nil))
    · refine kda_item (knd := PySem.strKind _ _) (by k_asm) (by k_mem) (by k_asm) (strKind_is _ _ _ _) rfl ?_
      dsimp only
      exact ret _ _ _ _ _ _ (Fr.keep (by assumption)) (News.isNew (by assumption) (by k_mem)) (News.isIn (by assumption) (by k_mem)) ⟨_, rfl⟩ (.list (News.isIn (by assumption) (by k_mem)) (News.isNew (by assumption) (by k_mem)) (.cons (.tuple (News.isIn (by assumption) (by k_mem)) (News.isNew (by assumption) (by k_mem)) (.cons (.int _ _) (.cons (.int _ _) .nil))) .nil))
end Mine
end

section
open PySem PySem.W PyProof.Rows PySem.Calls
set_option maxRecDepth 100000
set_option maxHeartbeats 8000000
namespace Mine
theorem News.swap {h₀ h : Heap} {L : Addr} {a b : Addr × Obj} (N : News h₀ L h [a, b]) : News h₀ L h [b, a] := fun p hp => by
  rcases List.mem_cons.mp hp with rfl | hp
  · exact N _ (List.mem_cons_of_mem _ List.mem_cons_self)
  · rw [List.mem_singleton.mp hp]; exact N _ List.mem_cons_self
local macro_rules | `(tactic| walk_at "call ref") => `(tactic| (k_here; (with_reducible show wpAny _ _ (PySem.call (Value.ref 116) _) _ _ _); refine Box.out ?_))
local macro_rules | `(tactic| walk_at "call ref") => `(tactic| (k_here; (with_reducible show wpAny _ _ (PySem.call (Value.ref 123) _) _ _ _); refine Box.out ?_))
local macro_rules | `(tactic| walk_at "subscriptTail Name Constant ref int") => `(tactic| (k_here; refine Box.out ?_))
local macro_rules | `(tactic| walk_at "subscriptTail Name Slice ref ref") => `(tactic| (k_here; (with_reducible show wpAny _ _ (subscriptTail _ (PySem.Expr.Slice _ _ none _) (Value.ref _) (Value.ref _)) _ _ _); k_dflt (refine slice_list (by assumption) (by assumption) (by first | assumption | exact News.isList (by assumption) (by k_mem)) (by first | exact .none | exact .int _ _) (by first | exact .none | exact .int _ _) ?_); intro _ _ _))
local macro_rules | `(tactic| walk_at "newTuple") => `(tactic| (k_here; refine Box.out ?_))
local macro_rules | `(tactic| walk_at "call builtin:str.join") => `(tactic| (k_here; refine Box.out ?_))
def texts20 : List Str := [Str.ofString "0", Str.ofString "1", Str.ofString "01", Str.ofString "2", Str.ofString "10", Str.ofString "9", Str.ofString "012", Str.ofString " 4", Str.ofString "-1", Str.ofString "+2", Str.ofString "x", Str.ofString "", Str.ofString "rc1", Str.ofString "p", Str.ofString "3", Str.ofString "1", Str.ofString "2", Str.ofString "00", Str.ofString "1", Str.ofString "2 "]
theorem figs_list {vs : Array Value} {x : Int} (h : IntsV vs.toList (figs x sizesL)) : ∃ f0 t0 f1 t1 f2 t2 f3 t3 f4 t4 f5 t5 f6 t6, vs = #[Value.int f0 t0, .int f1 t1, .int f2 t2, .int f3 t3, .int f4 t4, .int f5 t5, .int f6 t6] ∧
    (0 ≤ f0 ∧ f0 < 4) ∧ (0 ≤ f1 ∧ f1 < 20) ∧ (0 ≤ f2 ∧ f2 < 20) ∧ (0 ≤ f3 ∧ f3 < 20) ∧ (0 ≤ f4 ∧ f4 < 20) ∧ (0 ≤ f5 ∧ f5 < 4) ∧ (0 ≤ f6 ∧ f6 < 3) := by
  obtain ⟨l⟩ := vs
  simp only [sizesL, figs] at h
  cases h with | cons f0 t0 h =>
  cases h with | cons f1 t1 h =>
  cases h with | cons f2 t2 h =>
  cases h with | cons f3 t3 h =>
  cases h with | cons f4 t4 h =>
  cases h with | cons f5 t5 h =>
  cases h with | cons f6 t6 h =>
  cases h
  have p : ∀ (y b : Int), 0 < b → 0 ≤ y.fmod b ∧ y.fmod b < b := fun y b hb => ⟨Int.fmod_nonneg_of_pos y hb, Int.fmod_lt_of_pos y hb⟩
  exact ⟨_, _, _, _, _, _, _, _, _, _, _, _, _, _, rfl, p _ _ (by decide), p _ _ (by decide), p _ _ (by decide), p _ _ (by decide), p _ _ (by decide), p _ _ (by decide), p _ _ (by decide)⟩
theorem slice_fig {f0 f1 f2 f3 f4 f5 f6 : Int} {t0 t1 t2 t3 t4 t5 t6 : Tok} (g : 0 ≤ f0 ∧ f0 < 4) : slicePick #[Value.int f0 t0, .int f1 t1, .int f2 t2, .int f3 t3, .int f4 t4, .int f5 t5, .int f6 t6] (some 1) (some (f0 + 2)) none = ((#[Value.int f0 t0, .int f1 t1, .int f2 t2, .int f3 t3, .int f4 t4, .int f5 t5, .int f6 t6].toList.drop 1).take (f0.toNat + 1)).toArray := by
  have e : f0 + 2 = ((f0.toNat + 2 : Nat) : Int) := by omega
  rw [e]
  rw [show (some (1 : Int)) = some ((1 : Nat) : Int) from rfl, slicePick_run _ 1 (f0.toNat + 2) (by show f0.toNat + 2 ≤ 7; omega) (by omega)]
  rfl
def builds4 : List Str := [Str.ofString "", Str.ofString "7", Str.ofString "007", Str.ofString "x"]
def partTab : List (Str × (Option Str × List PyData)) := [((Str.ofString "x"), (none, [.tuple [.int 0, .str (Str.ofString "x")]])), ((Str.ofString ""), (none, [])), ((Str.ofString "rc1"), (none, [.tuple [.int 50, .str (Str.ofString "rc")], .tuple [.int 100, .int 1]])), ((Str.ofString "p"), (none, [.tuple [.int 200, .str (Str.ofString "p")]])), ((Str.ofString "01"), (some (Str.ofString "1"), [.tuple [.int 100, .int 1]])), ((Str.ofString "00"), (some (Str.ofString "0"), [.tuple [.int 100, .int 0]])), ((Str.ofString "012"), (some (Str.ofString "12"), [.tuple [.int 100, .int 12]])), ((Str.ofString "007"), (some (Str.ofString "7"), [.tuple [.int 100, .int 7]])), ((Str.ofString "0"), (some (Str.ofString "0"), [.tuple [.int 100, .int 0]])), ((Str.ofString "1"), (some (Str.ofString "1"), [.tuple [.int 100, .int 1]])), ((Str.ofString "2"), (some (Str.ofString "2"), [.tuple [.int 100, .int 2]])), ((Str.ofString "3"), (some (Str.ofString "3"), [.tuple [.int 100, .int 3]])), ((Str.ofString "4"), (some (Str.ofString "4"), [.tuple [.int 100, .int 4]])), ((Str.ofString "7"), (some (Str.ofString "7"), [.tuple [.int 100, .int 7]])), ((Str.ofString "9"), (some (Str.ofString "9"), [.tuple [.int 100, .int 9]])), ((Str.ofString "10"), (some (Str.ofString "10"), [.tuple [.int 100, .int 10]])), ((Str.ofString "12"), (some (Str.ofString "12"), [.tuple [.int 100, .int 12]])), ((Str.ofString " 4"), (some (Str.ofString "4"), [.tuple [.int 0, .str (Str.ofString " ")], .tuple [.int 100, .int 4]])), ((Str.ofString "2 "), (some (Str.ofString "2"), [.tuple [.int 100, .int 2], .tuple [.int 0, .str (Str.ofString " ")]])), ((Str.ofString "-1"), (some (Str.ofString "-1"), [.tuple [.int 100, .int 1]])), ((Str.ofString "+2"), (some (Str.ofString "2"), [.tuple [.int 100, .int 2]]))]
def partOf (z : Str) : Option Str × List PyData := (partTab.lookup z).getD (none, [])
theorem part_is {z : Str} (h : z ∈ partTab.map (·.1)) : PartIs z (partOf z).1 (partOf z).2 := by
  simp only [partTab, List.map_cons, List.map_nil, List.mem_cons, List.not_mem_nil, or_false] at h
  rcases h with rfl | rfl | rfl | rfl | rfl | rfl | rfl | rfl | rfl | rfl | rfl | rfl | rfl | rfl | rfl | rfl | rfl | rfl | rfl | rfl | rfl
  · exact .word (List.mem_of_getElem? (i := 0) rfl)
  · exact .word (List.mem_of_getElem? (i := 1) rfl)
  · exact .word (List.mem_of_getElem? (i := 2) rfl)
  · exact .word (List.mem_of_getElem? (i := 3) rfl)
  · exact .num (n := 1) (List.mem_of_getElem? (i := 0) rfl)
  · exact .num (n := 0) (List.mem_of_getElem? (i := 1) rfl)
  · exact .num (n := 12) (List.mem_of_getElem? (i := 2) rfl)
  · exact .num (n := 7) (List.mem_of_getElem? (i := 3) rfl)
  · exact .num (n := 0) (List.mem_of_getElem? (i := 4) rfl)
  · exact .num (n := 1) (List.mem_of_getElem? (i := 5) rfl)
  · exact .num (n := 2) (List.mem_of_getElem? (i := 6) rfl)
  · exact .num (n := 3) (List.mem_of_getElem? (i := 7) rfl)
  · exact .num (n := 4) (List.mem_of_getElem? (i := 8) rfl)
  · exact .num (n := 7) (List.mem_of_getElem? (i := 9) rfl)
  · exact .num (n := 9) (List.mem_of_getElem? (i := 10) rfl)
  · exact .num (n := 10) (List.mem_of_getElem? (i := 11) rfl)
  · exact .num (n := 12) (List.mem_of_getElem? (i := 12) rfl)
  · exact .other (List.mem_of_getElem? (i := 0) rfl)
  · exact .other (List.mem_of_getElem? (i := 1) rfl)
  · exact .other (List.mem_of_getElem? (i := 2) rfl)
  · exact .other (List.mem_of_getElem? (i := 3) rfl)
theorem drawn_in : ∀ z ∈ texts20 ++ builds4, z ∈ partTab.map (·.1) := by decide +kernel
theorem drawn_short : ∀ z ∈ texts20 ++ builds4, z.length < 100 := by decide +kernel
def PlainF (v y : Value) : Prop := ∃ z u, v = Value.str z u ∧ PlainIs y (partOf z).1
def optD : Option Str → PyData
  | none => .none
  | some y => .str y
def keptOf (bey : List Str) : List Str := if bey.any (fun q => (partOf q).1.isNone) then bey.take 3 else (bey.map fun q => ((partOf q).1).getD (Str.ofString "")).take 3
theorem plain_data {h : Heap} {vs ps : List Value} {bey : List Str} (hb : StrsAre vs bey) (hp : Paired PlainF vs ps) : RdA (fun _ => True) h ps (bey.map fun q => optD (partOf q).1) := by
  induction hp generalizing bey with
  | nil => cases hb; exact .nil
  | cons hq _ ih =>
    cases hb with
    | cons x t hb =>
      refine .cons ?_ (ih hb)
      show Rd _ _ _ (optD (partOf x).1)
      obtain ⟨z, u, e, hz⟩ := hq
      injection e with e1 _
      subst e1
      cases hpo : (partOf x).1 with
      | none => rw [hpo] at hz; rw [show _ = Value.none from hz]; exact .none
      | some y => rw [hpo] at hz; obtain ⟨t, rfl⟩ := hz; exact .str y t
theorem drawn_ok : ∀ z ∈ texts20 ++ builds4, (optD (partOf z).1).canLay0 = true := by decide +kernel
theorem opt_can : ∀ bey : List Str, (∀ q ∈ bey, q ∈ texts20 ++ builds4) → PyData.canLayAll0 (bey.map fun q => optD (partOf q).1) = true
  | [], _ => rfl
  | q :: bey, h => by
    rw [List.map_cons]
    show ((optD (partOf q).1).canLay0 && _) = true
    rw [drawn_ok q (h q List.mem_cons_self), opt_can bey fun q hq => h q (List.mem_cons_of_mem _ hq)]
    rfl
theorem opt_any : ∀ bey : List Str, ((bey.map fun q => optD (partOf q).1).any fun y => PyData.eqv y .none) = bey.any (fun q => (partOf q).1.isNone)
  | [] => rfl
  | q :: bey => by
    rw [List.map_cons, List.any_cons, List.any_cons, opt_any bey]
    congr 1
    cases hq : (partOf q).1 <;> rfl
theorem plain_strs {h : Heap} : ∀ {bey : List Str} {ps : List Value}, RdA (fun _ => True) h ps (bey.map fun q => optD (partOf q).1) → bey.any (fun q => (partOf q).1.isNone) = false → StrsAre ps (bey.map fun q => ((partOf q).1).getD (Str.ofString ""))
  | [], ps, r, _ => by cases r; exact .nil
  | q :: bey, ps, r, ha => by
    rw [List.any_cons, Bool.or_eq_false_iff] at ha
    cases r with
    | cons r1 r2 =>
      have ih := plain_strs r2 ha.2
      have r1 : Rd (fun _ => True) h _ (optD (partOf q).1) := r1
      rw [List.map_cons]
      cases hq : (partOf q).1 with
      | none => rw [hq] at ha; cases ha.1
      | some y =>
        rw [hq] at r1
        cases r1 with
        | str _ t => exact .cons y t ih
theorem drawn_kept : ∀ z ∈ texts20 ++ builds4, ((partOf z).1).getD (Str.ofString "") ∈ partTab.map (·.1) := by decide +kernel
theorem kept_in {bey : List Str} (h : ∀ q ∈ bey, q ∈ texts20 ++ builds4) : ∀ z ∈ keptOf bey, z ∈ partTab.map (·.1) := by
  intro z hz
  unfold keptOf at hz
  split at hz
  · exact drawn_in z (h z (List.mem_of_mem_take hz))
  · obtain ⟨q, hq, rfl⟩ := List.mem_map.mp (List.mem_of_mem_take hz)
    exact drawn_kept q (h q hq)
theorem kept_len (bey : List Str) : (keptOf bey).length ≤ 3 := by
  unfold keptOf
  split <;> (rw [List.length_take]; exact Nat.min_le_left _ _)
abbrev tmap (vt : Option Value) (K P B : Addr) (b : Str) (ub : Tok) (D R : Addr) (x : Int) (t : Tok) (H : Addr) : Str → Option Value := fun y => if y = Str.ofString "things" then some (.ref H) else if y = Str.ofString "text" then vt else if y = Str.ofString "kept" then some (.ref K) else if y = Str.ofString "plain" then some (.ref P) else if y = Str.ofString "beyond" then some (.ref B) else if y = Str.ofString "build" then some (.str b ub) else if y = Str.ofString "parts" then some (.ref D) else if y = Str.ofString "figures" then some (.ref R) else if y = Str.ofString "x" then some (.int x t) else none
theorem tmap_start (K P B : Addr) (b : Str) (ub : Tok) (D R : Addr) (x : Int) (t : Tok) (H : Addr) (y : Str) : (if y = Str.ofString "things" then some (Value.ref H) else if y = Str.ofString "kept" then some (.ref K) else if y = Str.ofString "plain" then some (.ref P) else if y = Str.ofString "beyond" then some (.ref B) else if y = Str.ofString "build" then some (.str b ub) else if y = Str.ofString "parts" then some (.ref D) else if y = Str.ofString "figures" then some (.ref R) else if y = Str.ofString "x" then some (.int x t) else none) = tmap none K P B b ub D R x t H y := by
  by_cases h1 : y = Str.ofString "things"
  · simp only [tmap, if_pos h1]
  · by_cases h2 : y = Str.ofString "text"
    · subst h2; rfl
    · simp only [tmap, if_neg h1, if_neg h2]
theorem tmap_ext (vt vt' : Option Value) (K P B : Addr) (b : Str) (ub : Tok) (D R : Addr) (x : Int) (t : Tok) (H H' : Addr) (y : Str) : (if y = Str.ofString "things" then some (Value.ref H') else if y = Str.ofString "text" then vt' else tmap vt K P B b ub D R x t H y) = tmap vt' K P B b ub D R x t H' y := by
  by_cases h1 : y = Str.ofString "things"
  · simp only [tmap, if_pos h1]
  · by_cases h2 : y = Str.ofString "text"
    · simp only [tmap, if_neg h1, if_pos h2]
    · simp only [tmap, if_neg h1, if_neg h2]
theorem part_short : ∀ z ∈ partTab.map (·.1), z.length < 100 := by decide +kernel
theorem part_few : ∀ z ∈ partTab.map (·.1), (partOf z).2.length ≤ 2 := by decide +kernel
mutual
theorem Rd.keepsQ {S S' : Addr → Prop} {h h' : Heap} (hk : ∀ b cl vs n, S b → h.get? b = some { cls := cl, data := .seq vs n } → h'.get? b = some { cls := cl, data := .seq vs n }) (hs : ∀ b, S b → S' b) : ∀ {v : Value} {d : PyData}, Rd S h v d → Rd S' h' v d
  | _, _, .none => .none
  | _, _, .bool b => .bool b
  | _, _, .int i t => .int i t
  | _, _, .str x t => .str x t
  | _, _, .list e m r => .list (hk _ _ _ _ m e) (hs _ m) (RdA.keepsQ hk hs r)
  | _, _, .tuple e m r => .tuple (hk _ _ _ _ m e) (hs _ m) (RdA.keepsQ hk hs r)
theorem RdA.keepsQ {S S' : Addr → Prop} {h h' : Heap} (hk : ∀ b cl vs n, S b → h.get? b = some { cls := cl, data := .seq vs n } → h'.get? b = some { cls := cl, data := .seq vs n }) (hs : ∀ b, S b → S' b) : ∀ {vs : List Value} {ds : List PyData}, RdA S h vs ds → RdA S' h' vs ds
  | _, _, .nil => .nil
  | _, _, .cons r q => .cons (Rd.keepsQ hk hs r) (RdA.keepsQ hk hs q)
end
section
variable {prog : Program} {w : World} {A : Around} {E : Value → Shared → Prop} {s : Shared}
theorem add1 {l b : Addr} {vs ws : Array Value} {n n2 : Nat} {Q : Value → Shared → Prop} (hl : s.heap.get? l = some (listObj vs n)) (hb : s.heap.get? b = some (listObj ws n2)) (hsz : vs.size + ws.size ≤ 100000)
    (h : Q (.ref s.heap.objs.size) { s with heap := s.heap.push (listObj (vs ++ ws) 0) }) : wpAny (model prog w) A (binaryOp .Add (.ref l) (.ref b)) Q E s :=
  concat_meets ⟨_, hl, rfl⟩ ⟨_, hb, rfl⟩ noFill_list_add seq_list_add PySem.F.slot_list_add PySem.F.entry_list_add (PySem.F.args_list_add_2 _ _) (list_addW l b vs ws n n2 none none #[] #[] (by rw [sizeLine_eq]; omega)) ⟨hl, hb, h⟩
end
theorem text_len : ∀ z ∈ texts20, z.length ≤ 3 := by decide +kernel
theorem join_sum {qs : List Str} (h : ∀ q ∈ qs, q ∈ texts20) (h4 : qs.length ≤ 4) : (qs.map (·.length)).sum + qs.length * 1 ≤ 16777216 := by
  have : (qs.map (·.length)).sum ≤ 3 * qs.length := by
    clear h4
    induction qs with
    | nil => exact Nat.le_refl _
    | cons q qs ih =>
      have h1 := text_len q (h q List.mem_cons_self)
      have h2 := ih fun q hq => h q (List.mem_cons_of_mem _ hq)
      simp only [List.map_cons, List.sum_cons, List.length_cons]
      omega
  omega
def beyOf (qs : List Str) (b : Str) : List Str := qs ++ if b = Str.ofString "" then [] else [b]
def rowData (host : Str) (qs : List Str) (b : Str) : PyData := .tuple [.str host, .str (Txt.join (Str.ofString ".") qs), .str b, .list ((keptOf (beyOf qs b)).map .str), .list ((keptOf (beyOf qs b)).flatMap fun z => (partOf z).2)]
theorem host_is {f : Int} (h : 0 ≤ f ∧ f < 3) : Txt.item (Str.ofString "hhk") f = Str.ofString "h" ∨ Txt.item (Str.ofString "hhk") f = Str.ofString "k" := by
  obtain rfl | rfl | rfl : f = 0 ∨ f = 1 ∨ f = 2 := by omega
  all_goals decide +kernel
def Pick (v y : Value) : Prop := ∃ f u z u', v = .int f u ∧ y = .str z u' ∧ texts20[f.toNat]? = some z
theorem C_row {w : World} {dp un : Nat} {gd : Option (List Code)} {s : Shared} {outs : List Env} {mean : ExcName → Option Value} {mg mb : Str → Option Value} {Q E : Value → Shared → Prop} {x : Int} {t : Tok}
    (X : (hd.heap_39 w.params).In s.heap) (T : Top hd.view_39 loose mean mg mb s.heap) (hdp : dp + 30 < recursionLimit) (hun : un + 100 < cLine)
    (ret : ∀ R host qs b h' tk, (∀ a o, s.heap.get? a = some o → h'.get? a = some o) → (host = Str.ofString "h" ∨ host = Str.ofString "k") → (∀ q ∈ qs, q ∈ texts20) → (1 ≤ qs.length ∧ qs.length ≤ 4) → b ∈ builds4 → Rd (fun a => s.heap.get? a = none) h' (.ref R) (rowData host qs b) → Q (.ref R) { s with heap := h', toks := tk }) :
    wpAny (model Challenge.rw_mj0124_01.row.prog w) (Ar dp un gd outs) (call (.ref 128) [.int x t]) Q E s := by
  (revert X; (w_top off; k_fill); intro X)
  refine wpAny_call ?_
  refine' enter_defC (binds := [(Str.ofString "x", .int x t)]) X (Top.nolimit (by assumption)) ?k6 ?k7 ?k8 ?k9 ?kB ?kD ?_ ?c2 ?c3 ?c4
  (case k6 => k_is)
  (case k7 => k_is)
  (case k8 => k_room)
  (case k9 => exact BindsTo.of_eq rfl)
  (case kB => exact rfl)
  (case kD => decide +kernel)
  (case c2 => exact rfl)
  (case c3 => exact rfl)
  (case c4 => exact rfl)
  intro L' h₁ tk₁ cells F₁ N₁ Y₁
  obtain ⟨oc, rfl, hoc⟩ := CellsAre.one Y₁
  replace hoc : oc.data = .cell none := hoc
  clear Y₁
  replace F₁ : Fr s.heap L' h₁ (fun y => if y = Str.ofString "x" then some (.int x t) else none) := F₁
  have N₂ : News s.heap L' h₁ [(L' + 1, oc)] := N₁
  clear N₁
  refine wpAny_execs_cons ?_
  refine wpAny_mono (Q := fun f s' => Box (f = .next ∧ ∃ h tk oc tl vs c, s' = { s with heap := h, toks := tk } ∧ Fr s.heap L' h (fun y => if y = Str.ofString "x" then some (.int x t) else none) ∧ News s.heap L' h [(L' + 1, oc), (tl, listObj vs c)] ∧ oc.data = .cell (some (.ref tl)) ∧ StrsAre vs.toList texts20)) (E := fun _ _ => False) ?_ ?_ ?_
  rotate_left 2
  · intro _ _ e; exact e.elim
  · k_steps
    rename_i tl h₂ _ h₃ oc' F₃ N₃ hd₃
    refine ⟨trivial, h₃, _, oc', tl, _, _, rfl, F₃, News.swap N₃, hd₃, ?_⟩
    repeat (first | exact .nil | refine .cons _ _ ?_)
  clear F₁ N₂ hoc
  rintro f s' ⟨rfl, h₂, tk₂, oc, tl, vs, c, rfl, F₂, N₂, hoc, hvs⟩
  dsimp only
  refine wpAny_execs_cons ?_
  refine wpAny_mono (Q := fun f s' => Box (f = .next ∧ ∃ h tk R fs c', s' = { s with heap := h, toks := tk } ∧ Fr s.heap L' h (fun y => if y = Str.ofString "figures" then some (.ref R) else if y = Str.ofString "x" then some (.int x t) else none) ∧ News s.heap L' h [(L' + 1, oc), (tl, listObj vs c), (R, listObj fs c')] ∧ IntsV fs.toList (figs (x.fmod 7680000) sizesL))) (E := fun _ _ => False) ?_ ?_ ?_
  rotate_left 2
  · intro _ _ e; exact e.elim
  · k_steps
    rename_i lz h₃ F₃ N₃ _
    refine ⟨?_⟩
    refine C_fig (dp := dp + 1) (zs := [_, _, _, _, _, _, _]) (X.keeps F₃.keep) (T.keeps F₃.keep) (by omega) ⟨_, (N₃ _ List.mem_cons_self).1, rfl, _, rfl⟩ (.cons _ _ (.cons _ _ (.cons _ _ (.cons _ _ (.cons _ _ (.cons _ _ (.cons _ _ .nil))))))) ?_
    intro R fs h₄ tk₄ c₄ up hR0 hR hfs
    have F₄ := F₃.keeps up
    have N₄ : News s.heap L' h₄ [(L' + 1, oc), (tl, listObj vs c), (R, listObj fs c₄)] := fun p hp => by
      rcases List.mem_cons.mp hp with rfl | hp
      · have := N₃ _ (List.mem_cons_of_mem _ List.mem_cons_self); exact ⟨up _ _ this.1, this.2⟩
      rcases List.mem_cons.mp hp with rfl | hp
      · have := N₃ _ (List.mem_cons_of_mem _ (List.mem_cons_of_mem _ List.mem_cons_self)); exact ⟨up _ _ this.1, this.2⟩
      · rw [List.mem_singleton.mp hp]
        refine ⟨hR, fun e => ?_, none_below F₃ hR0⟩
        obtain ⟨o, _, _, ho, _⟩ := F₃.ns
        have e2 : R = L' := e
        rw [← e2] at ho
        rw [show h₃.get? R = none from hR0] at ho; cases ho
    clear F₃ N₃
    k_steps
    rename_i h₅ F₅ N₅
    exact ⟨trivial, h₅, _, R, fs, c₄, rfl, F₅, N₅, hfs⟩
  rintro f s' ⟨rfl, h₃, tk₃, R, fs, c₃, rfl, F₃, N₃, hfs⟩
  dsimp only
  obtain ⟨f0, t0, f1, t1, f2, t2, f3, t3, f4, t4, f5, t5, f6, t6, hfsE, g0, g1, g2, g3, g4, g5, g6⟩ := figs_list hfs
  have hfz : fs.toList.length = 7 := by rw [hfsE]; rfl
  have hf0 : fs.toList[(0 : Int).toNat]? = some (.int f0 t0) := by rw [hfsE]; rfl
  have hf5 : fs.toList[(5 : Int).toNat]? = some (.int f5 t5) := by rw [hfsE]; rfl
  have hf6 : fs.toList[(6 : Int).toNat]? = some (.int f6 t6) := by rw [hfsE]; rfl
  replace hfsE := Box.mk hfsE
  clear hfs
  refine wpAny_execs_cons ?_
  refine wpAny_Assign_ListComp_free (fun _ => true) Pick (cl := [(Str.ofString "texts", L' + 1)]) rfl ?hclos (by decide) rfl ?hnm rfl rfl rfl ?_
  (case hclos => rfl)
  (case hnm => decide)
  refine wpAny_mono (Q := fun xv s₁ => Box (∃ ax h tk, xv = .ref ax ∧ s₁ = { s with heap := h, toks := tk } ∧ Fr s.heap L' h (fun y => if y = Str.ofString "figures" then some (.ref R) else if y = Str.ofString "x" then some (.int x t) else none) ∧ News s.heap L' h [(ax, listObj (slicePick fs (some 1) (some (f0 + 2)) none) 0), (L' + 1, oc), (tl, listObj vs c), (R, listObj fs c₃)])) (E := fun _ _ => False) ?_ ?_ ?_
  rotate_left 2
  · intro _ _ e; exact e.elim
  · --SLICE
    k_steps
    refine ⟨?_⟩
    refine item_litK (vs := fs.toList) ⟨_, (N₃ _ (List.mem_cons_of_mem _ (List.mem_cons_of_mem _ List.mem_cons_self))).1, rfl, _, rfl⟩ (by decide) (by decide) hf0 ?_
    k_steps
    rename_i h₄ F₄ N₄
    exact ⟨_, h₄, _, rfl, rfl, F₄, N₄⟩
    --END
  rintro xv s₁ ⟨ax, h₄, tk₄, rfl, rfl, F₄, N₄⟩
  rw [hfsE.out, slice_fig g0, ← hfsE.out] at N₄
  have hax := (N₄ _ List.mem_cons_self).1
  obtain ⟨ps, hps⟩ : ∃ ps, ps = ((fs.toList.drop 1).take (f0.toNat + 1)) := ⟨_, rfl⟩
  rw [← hps] at N₄ hax
  have hpi : ∀ v ∈ ps, ∃ f u, v = Value.int f u ∧ 0 ≤ f ∧ f < 20 := by
    intro v hv
    rw [hps, hfsE.out] at hv
    have g0' : f0.toNat + 1 ≤ 4 := by omega
    rw [← Nat.min_eq_left g0', ← List.take_take] at hv
    have hv := List.mem_of_mem_take hv
    have : v ∈ [Value.int f1 t1, .int f2 t2, .int f3 t3, .int f4 t4] := hv
    simp only [List.mem_cons, List.not_mem_nil, or_false] at this
    rcases this with rfl | rfl | rfl | rfl
    · exact ⟨_, _, rfl, g1⟩
    · exact ⟨_, _, rfl, g2⟩
    · exact ⟨_, _, rfl, g3⟩
    · exact ⟨_, _, rfl, g4⟩
  have hpl : ps.length = f0.toNat + 1 := by
    rw [hps, List.length_take, List.length_drop, hfz]
    omega
  clear hps
  have hl₄ : h₄.IsList ax ps.toArray := ⟨_, hax, rfl, _, rfl⟩
  have haxs : ax < h₄.objs.size := Heap.lt_size hax
  have notI : ∀ b, b < h₄.objs.size → b ∉ [h₄.objs.size] := fun b hb hm => Nat.ne_of_lt hb (List.mem_singleton.mp hm)
  refine wpAny_pyIter_list hl₄ ?_
  refine ⟨h₄.objs.size, [h₄.objs.size, ax], [h₄.objs.size], ps.toArray.size, (fun i v => ps.toArray[i]? = some v), _, _, rfl, Walks.list rfl h₄.objs.size ax (Nat.ne_of_lt haxs) ps.toArray, ?_,
    ⟨⟨_, Heap.get?_push_size _ rfl, rfl, rfl⟩, hl₄.push _⟩, ?_, notI _ F₄.ns.lt, (F₄.push _).ns, ⟨?_, ?_⟩, ?_⟩
  · rw [List.size_toArray, hpl, sizeLine_eq]; omega
  · intro b hb
    show b < (h₄.push _).objs.size
    rw [Heap.size_push]
    rcases List.mem_cons.mp hb with rfl | hb
    · exact Nat.lt_succ_self _
    · rw [List.mem_singleton.mp hb]; exact Nat.lt_succ_of_lt haxs
  · intro C i v s₃ m₃ E' _ hP hn hm hold _
    exact wpAny_tests_nil ⟨rfl, _, _, rfl, fun _ _ e => e⟩
  · intro C i v s₃ m₃ E' hC hP _ hn hm hold _
    obtain ⟨f, u, rfl, hf0, hf1⟩ := hpi v (by simpa using List.mem_of_getElem? (by simpa using hP))
    have old : ∀ b o, h₄.get? b = some o → s₃.heap.get? b = some o := fun b o e => hold b o (notI b (Heap.lt_size e)) (Heap.get?_push_of_some _ e)
    have hlen : vs.toList.length = 20 := strsAre_length hvs
    obtain ⟨vz, hvz⟩ : ∃ vz, vs.toList[f.toNat]? = some vz := ⟨_, List.getElem?_eq_getElem (by rw [hlen]; omega)⟩
    obtain ⟨z, uz, rfl, hz⟩ := strsAre_get hvs hvz
    have htl : s₃.heap.IsList tl vs := ⟨_, old _ _ (N₄ _ (List.mem_cons_of_mem _ (List.mem_cons_of_mem _ List.mem_cons_self))).1, rfl, _, rfl⟩
    refine wpAny_Subscript_Name (T := "list") slot_list_getitem.lookup ?_
    refine wpAny_Name (wpAny_loadName_cell (c := L' + 1) rfl rfl rfl ⟨oc, old _ _ (N₄ _ (List.mem_cons_of_mem _ List.mem_cons_self)).1, hoc⟩ ?_) rfl
    refine wpAny_Name (wpAny_loadName_local rfl rfl hn hm ?_) rfl
    exact ⟨htl.typeIs, wpAny_getItem_list htl hf0 (by omega) (by simpa using hvz) ⟨⟨f, u, z, uz, rfl, rfl, hz⟩, _, _, rfl, fun _ _ e => e⟩⟩
  intro D h₅ tk₅ ys ws hD hys hpys hwl hwP hpair hns hkeep
  have hws : ws = ps := by have := list_of_places (items := ps.toArray) hwl hwP; simpa using this
  subst hws
  obtain ⟨qs, hqs, hq20, hqn⟩ : ∃ qs, StrsAre ys.toList qs ∧ (∀ q ∈ qs, q ∈ texts20) ∧ qs.length = ws.length := by
    have : ∀ (l : List Value) (y : List Value), Paired Pick l y → ∃ qs, StrsAre y qs ∧ (∀ q ∈ qs, q ∈ texts20) ∧ qs.length = l.length := by
      intro l y h
      induction h with
      | nil => exact ⟨[], .nil, List.forall_mem_nil _, rfl⟩
      | cons hp _ ih =>
        obtain ⟨qs, a, b, c⟩ := ih
        obtain ⟨f, u, z, u', rfl, rfl, hz⟩ := hp
        exact ⟨z :: qs, .cons z u' a, fun q hq => by
          rcases List.mem_cons.mp hq with rfl | hq
          · exact List.mem_of_getElem? hz
          · exact b q hq, by rw [List.length_cons, List.length_cons, c]⟩
    have h2 := this _ _ hpair
    rw [List.filter_eq_self.mpr (fun _ _ => rfl)] at h2
    exact h2
  obtain ⟨nD, hDo⟩ := hpys
  have keep5 : ∀ b o, b ≠ L' → h₄.get? b = some o → h₅.get? b = some o := fun b o hb e => hkeep b o hb (notI b (Heap.lt_size e)) (Heap.get?_push_of_some _ e)
  have F₅ : Fr s.heap L' h₅ (fun y => if y = Str.ofString "parts" then some (.ref D) else if y = Str.ofString "figures" then some (.ref R) else if y = Str.ofString "x" then some (.int x t) else none) :=
    ⟨hns, fun b o e => keep5 b o (Nat.ne_of_lt (Nat.lt_of_lt_of_le (Heap.lt_size e) F₄.above)) (F₄.keep b o e), F₄.above⟩
  have N₅ : News s.heap L' h₅ [(D, listObj ys nD), (R, listObj fs c₃)] := fun p hp => by
    rcases List.mem_cons.mp hp with rfl | hp
    · have hDn : h₄.get? D = none := by
        cases e : h₄.get? D with
        | none => rfl
        | some o => rw [Heap.get?_push_of_some _ e] at hD; cases hD
      refine ⟨hDo, fun e => ?_, none_below F₄ hDn⟩
      obtain ⟨o, _, _, ho, _⟩ := F₄.ns
      rw [show D = L' from e, ho] at hDn; cases hDn
    · obtain rfl := List.mem_singleton.mp hp
      have := N₄ _ (List.mem_cons_of_mem _ (List.mem_cons_of_mem _ (List.mem_cons_of_mem _ List.mem_cons_self)))
      exact ⟨keep5 _ _ this.2.1 this.1, this.2⟩
  have hyl : ys.toList.length = qs.length := strsAre_length hqs
  have hq4 : 1 ≤ qs.length ∧ qs.length ≤ 4 := by omega
  clear hns hkeep hD keep5 hDo hys F₄ N₄ hpair hwP hwl hl₄ haxs notI hax hpi hpl F₃ N₃ F₂ N₂ hoc hvs g0 g1 g2 g3 g4
  dsimp only
  refine wpAny_execs_cons ?_
  refine wpAny_mono (Q := fun f s' => Box (f = .next ∧ ∃ h tk b u, s' = { s with heap := h, toks := tk } ∧ Fr s.heap L' h (fun y => if y = Str.ofString "build" then some (.str b u) else if y = Str.ofString "parts" then some (.ref D) else if y = Str.ofString "figures" then some (.ref R) else if y = Str.ofString "x" then some (.int x t) else none) ∧
    News s.heap L' h [(D, listObj ys nD), (R, listObj fs c₃)] ∧ b ∈ builds4)) (E := fun _ _ => False) ?_ ?_ ?_
  rotate_left 2
  · intro _ _ e; exact e.elim
  · --S4
    k_steps
    rename_i l4 h₆ F₆ N₆ _
    refine ⟨?_⟩
    refine item_litK (vs := fs.toList) ⟨_, (N₆ _ (List.mem_cons_of_mem _ (List.mem_cons_of_mem _ List.mem_cons_self))).1, rfl, _, rfl⟩ (by decide) (by decide) hf5 ?_
    k_steps
    all_goals
      rename_i h₇ F₇ N₇
      exact ⟨trivial, h₇, _, _, _, rfl, F₇, fun p hp => N₇ p (List.mem_cons_of_mem _ hp), by simp [builds4]⟩
    --END
  rintro f s' ⟨rfl, h₆, tk₆, b, ub, rfl, F₆, N₆, hb⟩
  clear F₅ N₅
  dsimp only
  have hbl : b.length < 100 := by
    simp only [builds4, List.mem_cons, List.not_mem_nil, or_false] at hb
    rcases hb with rfl | rfl | rfl | rfl <;> decide
  replace hb := Box.mk hb
  have hqsB := Box.mk hqs
  refine wpAny_execs_cons ?_
  refine wpAny_mono (Q := fun f s' => Box (f = .next ∧ ∃ h tk B bs c', s' = { s with heap := h, toks := tk } ∧ Fr s.heap L' h (fun y => if y = Str.ofString "beyond" then some (.ref B) else if y = Str.ofString "build" then some (.str b ub) else if y = Str.ofString "parts" then some (.ref D) else if y = Str.ofString "figures" then some (.ref R) else if y = Str.ofString "x" then some (.int x t) else none) ∧
    News s.heap L' h [(B, listObj bs c'), (D, listObj ys nD), (R, listObj fs c₃)] ∧ StrsAre bs.toList (qs ++ if b = Str.ofString "" then [] else [b]))) (E := fun _ _ => False) ?_ ?_ ?_
  rotate_left 2
  · intro _ _ e; exact e.elim
  · --S5
    k_steps
    · rename_i hne lz _ _ _ h₇ F₇ N₇
      refine ⟨trivial, h₇, _, _, (ys.toList ++ #[Value.str b ub].toList).toArray, 0, rfl, F₇, (fun p hp => ?_), ?_⟩
      · rcases List.mem_cons.mp hp with rfl | hp
        · exact N₇ _ List.mem_cons_self
        · exact N₇ _ (List.mem_cons_of_mem _ (List.mem_cons_of_mem _ hp))
      · rw [if_neg (by simpa using hne)]
        exact strsAre_snoc hqsB.out b ub
    · rename_i hne h₇ F₇ N₇
      refine ⟨rfl, h₇, _, D, ys, nD, rfl, F₇, (fun p hp => ?_), ?_⟩
      · rcases List.mem_cons.mp hp with rfl | hp
        · exact N₇ _ List.mem_cons_self
        · exact N₇ _ hp
      · rw [if_pos (by simpa using hne), List.append_nil]
        exact hqsB.out
    --END
  rintro f s' ⟨rfl, h₇, tk₇, B, bs, c₇, rfl, F₇, N₇, hbs⟩
  clear F₆ N₆
  dsimp only
  have hmem : ∀ q ∈ (qs ++ if b = Str.ofString "" then [] else [b]), q ∈ texts20 ++ builds4 := by
    intro q hq
    rcases List.mem_append.mp hq with hq | hq
    · exact List.mem_append.mpr (.inl (hq20 q hq))
    · split at hq
      · cases hq
      · rw [List.mem_singleton.mp hq]; exact List.mem_append.mpr (.inr hb.out)
  have hbz : bs.toList.length ≤ 5 := by
    rw [strsAre_length hbs, List.length_append]
    split <;> simp <;> omega
  refine wpAny_execs_cons ?_
  refine wpAny_Assign_ListComp_free (fun _ => true) PlainF (cl := []) rfl rfl (by decide) rfl (by decide) rfl rfl rfl ?_
  refine wpAny_Name (wpAny_loadName_local rfl rfl F₇.ns rfl ?_) rfl
  have hB := (N₇ _ List.mem_cons_self).1
  have hl₇ : h₇.IsList B bs.toList.toArray := ⟨_, hB, rfl, _, rfl⟩
  have hBs : B < h₇.objs.size := Heap.lt_size hB
  have notI : ∀ b, b < h₇.objs.size → b ∉ [h₇.objs.size] := fun b hb hm => Nat.ne_of_lt hb (List.mem_singleton.mp hm)
  refine wpAny_pyIter_list hl₇ ?_
  refine ⟨h₇.objs.size, [h₇.objs.size, B], [h₇.objs.size], bs.toList.toArray.size, (fun i v => bs.toList.toArray[i]? = some v), _, _, rfl, Walks.list rfl h₇.objs.size B (Nat.ne_of_lt hBs) bs.toList.toArray, ?_,
    ⟨⟨_, Heap.get?_push_size _ rfl, rfl, rfl⟩, hl₇.push _⟩, ?_, notI _ F₇.ns.lt, (F₇.push _).ns, ⟨?_, ?_⟩, ?_⟩
  · rw [List.size_toArray, sizeLine_eq]; omega
  · intro b hb
    show b < (h₇.push _).objs.size
    rw [Heap.size_push]
    rcases List.mem_cons.mp hb with rfl | hb
    · exact Nat.lt_succ_self _
    · rw [List.mem_singleton.mp hb]; exact Nat.lt_succ_of_lt hBs
  · intro C i v s₃ m₃ E' _ hP hn hm hold _
    exact wpAny_tests_nil ⟨rfl, _, _, rfl, fun _ _ e => e⟩
  · --S6
    intro C i v s₂ m₂ E' hC hP _ hn hm hold _
    obtain ⟨z, u, rfl, hz⟩ := strsAre_val hbs (v := v) (List.mem_of_getElem? (i := i) (by simpa using hP))
    have F₈ : Fr h₇ C s₂.heap m₂ := ⟨hn, fun b o e => hold b o (notI b (Heap.lt_size e)) (Heap.get?_push_of_some _ e), Nat.le_trans (Nat.le_succ _) (by have := hC; rw [Heap.size_push] at this; exact this)⟩
    have N₈ : News h₇ C s₂.heap [] := News.nil
    have X₈ := X.keeps F₇.keep
    have T₈ := T.keeps F₇.keep
    have hzp := Box.mk (part_is (drawn_in z (hmem z hz)))
    have hzl := drawn_short z (hmem z hz)
    clear F₇ N₇ hold hP hqs hbs hqsB
    refine wpAny_mono (Q := fun y s₄ => Box (PlainF (.str z u) y ∧ Keeps s₂ s₄)) (E := fun _ _ => False) ?_ (fun _ _ b => b.out) ?_
    rotate_left 1
    · intro _ _ e; exact e.elim
    k_steps
    refine ⟨?_⟩
    refine C_part (dp := dp + 1) (X₈.keeps F₈.keep) (T₈.keeps F₈.keep) (by omega) hzl hzp.out ?_
    intro R₉ l₉ v₉ h₉ tk₉ c₉ up hR0 hR hv0 hrd
    have F₉ := F₈.keeps up
    have N₉ : News h₇ C h₉ [(R₉, { cls := .type "tuple", data := .seq #[v₉, .ref l₉] c₉ })] := fun p hp => by
      obtain rfl := List.mem_singleton.mp hp
      refine ⟨hR, fun e => ?_, none_below F₈ hR0⟩
      obtain ⟨o, _, _, ho, _⟩ := F₈.ns
      rw [show R₉ = C from e, ho] at hR0; cases hR0
    clear F₈ N₈
    k_steps
    exact ⟨⟨z, u, rfl, hv0⟩, h₉, _, rfl, up⟩
    --END
  intro P h₈ tk₈ ps ws' hP0 hpl hppl hwl hwP hpair hns hkeep
  have hws : ws' = bs.toList := by have := list_of_places (items := bs.toList.toArray) hwl hwP; simpa using this
  subst hws
  rw [List.filter_eq_self.mpr (fun _ _ => rfl)] at hpair
  obtain ⟨bey, hbey⟩ : ∃ bey, bey = (qs ++ if b = Str.ofString "" then [] else [b]) := ⟨_, rfl⟩
  rw [← hbey] at hmem hbs
  have hps : RdA (fun _ => True) h₈ ps.toList (bey.map fun q => optD (partOf q).1) := plain_data hbs hpair
  clear hpair
  obtain ⟨nP, hPo⟩ := hppl
  have keep8 : ∀ b o, b ≠ L' → h₇.get? b = some o → h₈.get? b = some o := fun b o hb e => hkeep b o hb (notI b (Heap.lt_size e)) (Heap.get?_push_of_some _ e)
  have F₈ : Fr s.heap L' h₈ (fun y => if y = Str.ofString "plain" then some (.ref P) else if y = Str.ofString "beyond" then some (.ref B) else if y = Str.ofString "build" then some (.str b ub) else if y = Str.ofString "parts" then some (.ref D) else if y = Str.ofString "figures" then some (.ref R) else if y = Str.ofString "x" then some (.int x t) else none) :=
    ⟨hns, fun b o e => keep8 b o (Nat.ne_of_lt (Nat.lt_of_lt_of_le (Heap.lt_size e) F₇.above)) (F₇.keep b o e), F₇.above⟩
  have N₈ : News s.heap L' h₈ [(P, listObj ps nP), (B, listObj bs c₇), (D, listObj ys nD), (R, listObj fs c₃)] := fun p hp => by
    rcases List.mem_cons.mp hp with rfl | hp
    · have hDn : h₇.get? P = none := by
        cases e : h₇.get? P with
        | none => rfl
        | some o => rw [Heap.get?_push_of_some _ e] at hP0; cases hP0
      refine ⟨hPo, fun e => ?_, none_below F₇ hDn⟩
      obtain ⟨o, _, _, ho, _⟩ := F₇.ns
      rw [show P = L' from e, ho] at hDn; cases hDn
    · have := N₇ _ hp
      exact ⟨keep8 _ _ this.2.1 this.1, this.2⟩
  have hbn : bey.length ≤ 5 := by rw [← strsAre_length hbs]; exact hbz
  clear hns hkeep hP0 keep8 hPo hpl F₇ N₇ hwP hwl hl₇ hBs notI hB
  dsimp only
  refine wpAny_execs_cons ?_
  refine wpAny_mono (Q := fun f s' => Box (f = .next ∧ ∃ h tk K ks c', s' = { s with heap := h, toks := tk } ∧ Fr s.heap L' h (fun y => if y = Str.ofString "kept" then some (.ref K) else if y = Str.ofString "plain" then some (.ref P) else if y = Str.ofString "beyond" then some (.ref B) else if y = Str.ofString "build" then some (.str b ub) else if y = Str.ofString "parts" then some (.ref D) else if y = Str.ofString "figures" then some (.ref R) else if y = Str.ofString "x" then some (.int x t) else none) ∧
    News s.heap L' h [(K, listObj ks c'), (D, listObj ys nD), (R, listObj fs c₃)] ∧ StrsAre ks.toList (keptOf bey))) (E := fun _ _ => False) ?_ ?_ ?_
  rotate_left 2
  · intro _ _ e; exact e.elim
  · --S7
    have hbB := Box.mk hbs
    have hpB := Box.mk hps
    have hpz : ps.toList.length ≤ 5 := by rw [hps.length, List.length_map]; exact hbn
    clear hbs hps
    obtain ⟨as, hrd⟩ := hpB.out.reads
    have hrP := (Reads.list (N₈ _ List.mem_cons_self).1 rfl rfl hrd)
    k_steps
    refine PySem.SeqAt.in_list_reads hrP .none (opt_can bey hmem) rfl (by rw [show PyData.depth PyData.none = 0 from rfl, Nat.min_zero]; show un + 3 + 1 + 0 < cLine; omega) ?_
    rw [opt_any]
    clear hrP hrd
    cases hany : bey.any (fun q => (partOf q).1.isNone)
    · k_steps
      rename_i h₉ h₁₀ F₁₀ N₁₀
      refine ⟨rfl, h₁₀, _, _, slicePick ps none (some 3) none, 0, rfl, F₁₀, (fun p hp => ?_), ?_⟩
      · rcases List.mem_cons.mp hp with rfl | hp
        · exact N₁₀ _ List.mem_cons_self
        · exact N₁₀ _ (List.mem_cons_of_mem _ (List.mem_cons_of_mem _ (List.mem_cons_of_mem _ hp)))
      · rw [show (some (3 : Int)) = some ((3 : Nat) : Int) from rfl, slicePick_upto', keptOf, if_neg (by rw [hany]; exact Bool.false_ne_true)]
        exact strsAre_take (plain_strs hpB.out hany) 3
    · k_steps
      rename_i h₉ h₁₀ F₁₀ N₁₀
      refine ⟨rfl, h₁₀, _, _, slicePick bs none (some 3) none, 0, rfl, F₁₀, (fun p hp => ?_), ?_⟩
      · rcases List.mem_cons.mp hp with rfl | hp
        · exact N₁₀ _ List.mem_cons_self
        · exact N₁₀ _ (List.mem_cons_of_mem _ (List.mem_cons_of_mem _ (List.mem_cons_of_mem _ hp)))
      · rw [show (some (3 : Int)) = some ((3 : Nat) : Int) from rfl, slicePick_upto', keptOf, if_pos hany]
        exact strsAre_take hbB.out 3
    --END
  rintro f s' ⟨rfl, h₉, tk₉, K, ks, c₉, rfl, F₉, N₉, hks⟩
  clear F₈ N₈
  dsimp only
  obtain ⟨kept, hkept⟩ : ∃ kept, kept = keptOf bey := ⟨_, rfl⟩
  rw [← hkept] at hks
  have hkm : ∀ z ∈ kept, z ∈ partTab.map (·.1) := hkept ▸ kept_in hmem
  have hkn : kept.length ≤ 3 := hkept ▸ kept_len bey
  have hksl := strsAre_length hks
  clear hps hbs hqsB
  refine wpAny_execs_cons ?_
  refine wpAny_mono (Q := fun f s' => Box (f = .next ∧ ∃ h tk H, s' = { s with heap := h, toks := tk } ∧ Fr s.heap L' h (tmap none K P B b ub D R x t H) ∧
    News s.heap L' h [(H, listObj #[] 0), (K, listObj ks c₉), (D, listObj ys nD), (R, listObj fs c₃)])) (E := fun _ _ => False) ?_ ?_ ?_
  rotate_left 2
  · intro _ _ e; exact e.elim
  · --S8
    k_steps
    rename_i H _ _ h₁₀ F₁₀ N₁₀
    exact ⟨trivial, h₁₀, _, H, rfl, Fr_ext' F₁₀ (tmap_start K P B b ub D R x t H), N₁₀⟩
    --END
  rintro f s' ⟨rfl, h₁₀, tk₁₀, H, rfl, F₁₀, N₁₀⟩
  clear F₉ N₉
  dsimp only
  have hKD : K ≠ L' := (N₁₀ _ (List.mem_cons_of_mem _ List.mem_cons_self)).2.1
  have hK0 := (N₁₀ _ (List.mem_cons_of_mem _ List.mem_cons_self)).2.2
  have hD0 := (N₁₀ _ (List.mem_cons_of_mem _ (List.mem_cons_of_mem _ List.mem_cons_self))).2
  have hR0 := (N₁₀ _ (List.mem_cons_of_mem _ (List.mem_cons_of_mem _ (List.mem_cons_of_mem _ List.mem_cons_self)))).2
  have hlK : h₁₀.IsList K ks.toList.toArray := ⟨_, (N₁₀ _ (List.mem_cons_of_mem _ List.mem_cons_self)).1, rfl, _, rfl⟩
  refine wpAny_execs_cons ?_
  refine wpAny_For ?_
  refine wpAny_Name (wpAny_loadName_local rfl rfl F₁₀.ns rfl ?_) rfl
  refine for_listA (J := fun i m h => Box (∃ vt H hs c', m = tmap vt K P B b ub D R x t H ∧ News s.heap L' h [(H, listObj hs c'), (K, listObj ks c₉), (D, listObj ys nD), (R, listObj fs c₃)] ∧ hs.size ≤ 2 * i ∧
    RdA (fun a => s.heap.get? a = none ∧ a ≠ L') h hs.toList ((kept.take i).flatMap fun z => (partOf z).2))) (hb := s.heap) (vs := ks.toList) rfl rfl rfl hlK F₁₀ ⟨none, H, #[], 0, rfl, N₁₀, Nat.le_refl _, .nil⟩ ?_ ?_ ?_
  · rintro i m h h' ⟨vt, H, hs, c', e, N, r, rd⟩ hk
    refine ⟨vt, H, hs, c', e, (fun p hp => ?_), r, RdA.keepsQ (fun a cl vs n _ e => hk _ _ e (.inr ⟨_, _, rfl⟩)) (fun _ e => e) rd⟩
    have := N p hp
    refine ⟨hk _ _ this.1 (.inr ?_), this.2⟩
    simp only [List.mem_cons, List.not_mem_nil, or_false] at hp
    rcases hp with rfl | rfl | rfl | rfl <;> exact ⟨_, _, rfl⟩
  · --S9
    rintro i v m h tk hv ⟨vt, H, hs, c', rfl, N₁₁, hsz, hrd⟩ hli hit F₁₁
    obtain ⟨z, u, rfl, hzi⟩ := strsAre_get hks hv
    have hzm : z ∈ kept := List.mem_of_getElem? hzi
    have hzp := Box.mk (part_is (hkm z hzm))
    have hzl := part_short z (hkm z hzm)
    have hil : i < 3 := by have := (List.getElem?_eq_some_iff.mp hzi).1; omega
    obtain ⟨oit, hoit, hitr⟩ := hit
    have hI0 : s.heap.get? h₁₀.objs.size = none := none_below F₁₀ (Heap.get?_none_of_le (Nat.le_refl _))
    have hIL : h₁₀.objs.size ≠ L' := Nat.ne_of_gt F₁₀.ns.lt
    have N₁₂ : News s.heap L' h [(H, listObj hs c'), (K, listObj ks c₉), (D, listObj ys nD), (R, listObj fs c₃), (h₁₀.objs.size, oit)] := fun p hp => by
      simp only [List.mem_cons, List.not_mem_nil, or_false] at hp
      rcases hp with rfl | rfl | rfl | rfl | rfl
      · exact N₁₁ _ List.mem_cons_self
      · exact N₁₁ _ (List.mem_cons_of_mem _ List.mem_cons_self)
      · exact N₁₁ _ (List.mem_cons_of_mem _ (List.mem_cons_of_mem _ List.mem_cons_self))
      · exact N₁₁ _ (List.mem_cons_of_mem _ (List.mem_cons_of_mem _ (List.mem_cons_of_mem _ List.mem_cons_self)))
      · exact ⟨hoit, hIL, hI0⟩
    have hrB := Box.mk hrd
    clear hrd N₁₁ F₁₀ N₁₀ hks hli
    k_steps
    refine ⟨?_⟩
    refine C_part (dp := dp + 1) (X.keeps F₁₁.keep) (T.keeps F₁₁.keep) (by omega) hzl hzp.out ?_
    intro R₉ l₉ v₉ h₁₃ tk₁₃ c₁₃ up hR₉0 hR₉ hv0 hrd
    have hpf := part_few z (hkm z hzm)
    cases hrd with
    | @list _ ls cl _ hl₉ hl₉0 hra =>
    have hlz : ls.size ≤ 2 := by have := hra.length; simp at this; omega
    have hLh : ∃ o, h.get? L' = some o := by obtain ⟨o, _, _, ho, _⟩ := F₁₁.ns; exact ⟨o, ho⟩
    have F₁₃ := F₁₁.keeps up
    have N₁₃ : News s.heap L' h₁₃ [(R₉, { cls := .type "tuple", data := .seq #[v₉, .ref l₉] c₁₃ })] := fun p hp => by
      obtain rfl := List.mem_singleton.mp hp
      refine ⟨hR₉, fun e => ?_, none_below F₁₁ hR₉0⟩
      obtain ⟨o, ho⟩ := hLh
      rw [show R₉ = L' from e, ho] at hR₉0; cases hR₉0
    have hH := (N₁₂ _ List.mem_cons_self).1
    have hH' : h₁₃.get? H = some (listObj hs c') := up _ _ hH
    iterate 2 (first | (k_unfold; (try dsimp only)) | walk1 | (dsimp only; walk1))
    refine add1 hH' hl₉ (by omega) ?_
    dsimp only
    have F₁₄ := F₁₃.push (listObj (hs ++ ls) 0)
    refine wpAny_storeName_local rfl F₁₄.ns (fun h₁₅ hn₁₅ hs₁₅ => ?_) rfl
    have F₁₅ := F₁₄.set hn₁₅ hs₁₅
    have keep : ∀ a o, a ≠ L' → h₁₃.get? a = some o → h₁₅.get? a = some o := fun a o ha e => (hs₁₅.2 a ha).trans (Heap.get?_push_of_some _ e)
    have keep2 : ∀ a o, a ≠ L' → h.get? a = some o → h₁₅.get? a = some o := fun a o ha e => keep a o ha (up a o e)
    have hL13 : L' < h₁₃.objs.size := F₁₃.ns.lt
    refine wpAny_execs_nil ?_
    refine ⟨_, h₁₅, _, rfl, ?e, Fr_ext' F₁₅ (tmap_ext _ _ K P B b ub D R x t H _), ?_, ?_⟩
    case e =>
      refine ⟨_, h₁₃.objs.size, hs ++ ls, 0, rfl, (fun p hp => ?_), (by rw [Array.size_append]; omega), ?_⟩
      · rcases List.mem_cons.mp hp with rfl | hp
        · exact ⟨(hs₁₅.2 _ (Nat.ne_of_gt hL13)).trans (Heap.get?_push_size _ rfl), Nat.ne_of_gt hL13, none_below F₁₃ (Heap.get?_none_of_le (Nat.le_refl _))⟩
        · have q := N₁₂ p (List.mem_cons_of_mem _ (by simp only [List.mem_cons, List.not_mem_nil, or_false] at hp ⊢; rcases hp with h | h | h <;> simp [h]))
          exact ⟨keep2 _ _ q.2.1 q.1, q.2⟩
      · rw [Array.toList_append]
        obtain ⟨hlt, hke⟩ := List.getElem?_eq_some_iff.mp hzi
        rw [List.take_succ_eq_append_getElem hlt, hke, List.flatMap_append]
        refine RdA.append (RdA.keeps (fun a o ha e => keep2 a o ha.2 e) (fun _ e => e) hrB.out) ?_
        rw [List.flatMap_cons, List.flatMap_nil, List.append_nil]
        have nL : ∀ a, h.get? a = none → a ≠ L' := fun a ha q => by
          obtain ⟨o2, ho2⟩ := hLh
          rw [q, ho2] at ha; cases ha
        exact RdA.keeps (fun a o ha e => keep a o (nL a ha) e) (fun a ha => ⟨none_below F₁₁ ha, nL a ha⟩) hra
    · have q := N₁₂ _ (List.mem_cons_of_mem _ List.mem_cons_self)
      exact ⟨_, keep2 _ _ q.2.1 q.1, rfl, _, rfl⟩
    · exact ⟨oit, keep2 _ _ hIL hoit, hitr⟩
    --END
  · rintro m h tk ⟨vt, H, hs, c', rfl, N₁₁, hsz, hrd⟩ F₁₁
    rw [hksl, List.take_length] at hrd
    have hrB := Box.mk hrd
    have hLh : ∃ o, h.get? L' = some o := by obtain ⟨o, _, _, ho, _⟩ := F₁₁.ns; exact ⟨o, ho⟩
    have hqsum := join_sum hq20 hq4.2
    have hkB := Box.mk hkept
    have hbeyB : Box (bey = beyOf qs b) := Box.mk hbey
    have hksB := Box.mk hks
    clear hrd F₁₀ N₁₀ hkm hkn hmem hK0 hD0 hR0 hlK hbey hkept hbz hbn
    dsimp only
    k_steps
    refine ⟨?_⟩
    refine item_litK (vs := fs.toList) ⟨_, (N₁₁ _ (List.mem_cons_of_mem _ (List.mem_cons_of_mem _ (List.mem_cons_of_mem _ List.mem_cons_self)))).1, rfl, _, rfl⟩ (by decide) (by decide) hf6 ?_
    k_steps
    refine ⟨?_⟩
    have hD := (N₁₁ _ (List.mem_cons_of_mem _ (List.mem_cons_of_mem _ List.mem_cons_self))).1
    refine join_list ⟨_, hD, rfl, _, rfl⟩ hqs hqsum fun t₇ k₇ => ?_
    k_steps
    refine ⟨?_⟩
    refine wpAny_newObj_type ?_ (by show 5 ≤ sizeLine; rw [sizeLine_eq]; omega)
    have hst : ∀ a o, h.get? a = some o → (h.push { cls := .type "tuple", data := .seq [Value.str (Txt.item (Str.ofString "hhk") f6) (tk + 1 + 1), Value.str (Txt.join (Str.ofString ".") qs) t₇, Value.str b ub, Value.ref K, Value.ref H].toArray }).get? a = some o := fun a o e => Heap.get?_push_of_some _ e
    refine ret _ (Txt.item (Str.ofString "hhk") f6) qs b _ _ (fun a o e => hst a o (F₁₁.keep a o e)) (host_is g6) hq20 hq4 hb.out ?_
    refine .tuple (Heap.get?_push_size _ rfl) (none_below F₁₁ (Heap.get?_none_of_le (Nat.le_refl _))) (.cons (.str _ _) (.cons (.str _ _) (.cons (.str _ _) (.cons ?_ (.cons ?_ .nil)))))
    · have q := N₁₁ _ (List.mem_cons_of_mem _ List.mem_cons_self)
      exact .list (hst _ _ q.1) q.2.2 (RdA.of_strs (by rw [← hbeyB.out, ← hkB.out]; exact hksB.out))
    · have q := N₁₁ _ List.mem_cons_self
      refine .list (hst _ _ q.1) q.2.2 ?_
      have r := RdA.keeps (S' := fun a => s.heap.get? a = none) (fun a o _ e => hst a o e) (fun a ha => ha.1) hrB.out
      rw [hkB.out, hbeyB.out] at r
      exact r
end Mine
end

section
open PySem PySem.W PyProof.Rows PySem.Calls
set_option maxRecDepth 100000
namespace Mine
def keptQ (qs : List Str) (b : Str) : List Str := keptOf (beyOf qs b)
def thQ (qs : List Str) (b : Str) : List PyData := (keptQ qs b).flatMap fun z => (partOf z).2
def verQ (qs : List Str) : Str := Txt.join (Str.ofString ".") qs
def normQ (qs : List Str) (b : Str) : Str := Txt.join (Str.ofString ".") (keptQ qs b)
def pathQ (qs : List Str) (b : Str) : Str := Str.ofString "/" ++ Txt.join (Str.ofString "/") (keptQ qs b)
def openT : PyData → List PyData
  | .tuple xs => xs
  | _ => []
def flatQ (qs : List Str) (b : Str) : List PyData := (thQ qs b).flatMap openT
def shelfD (host : Str) (qs : List Str) (b : Str) : PyData := .tuple [rowD host (verQ qs) b (keptQ qs b) (thQ qs b), .list (flatQ qs b), .str (pathQ qs b)]
theorem rowData_is (host : Str) (qs : List Str) (b : Str) : rowData host qs b = rowD host (verQ qs) b (keptQ qs b) (thQ qs b) := rfl
structure Good (host : Str) (qs : List Str) (b : Str) : Prop where
  host : host = Str.ofString "h" ∨ host = Str.ofString "k"
  parts : ∀ q ∈ qs, q ∈ texts20
  few : 1 ≤ qs.length ∧ qs.length ≤ 4
  build : b ∈ builds4
end Mine
end

section
open PySem PySem.W PyProof.Rows PySem.Calls
set_option maxRecDepth 100000
namespace Mine
theorem tjoin (z : Str) (P : List Str) : Txt.join z P = Str.join z P := StrLaws.glued_eq_join z P
/-- a rank and what bears it -/
def Th (d : PyData) : Prop := ∃ t v, d = .tuple [.int t, v] ∧ ((t = 100 ∧ ∃ n, v = .int n) ∨ (t ≠ 100 ∧ ∃ x, v = .str x))
theorem kinds_two {t t' : Int} {v v' : PyData} (h : (t = 100 ∧ ∃ n, v = .int n) ∨ (t ≠ 100 ∧ ∃ x, v = .str x)) (h' : (t' = 100 ∧ ∃ n, v' = .int n) ∨ (t' ≠ 100 ∧ ∃ x, v' = .str x)) (e : PyData.eqv (.int t) (.int t') = true) : sameKind v v' := by
  have e' : t = t' := by simpa [PyData.eqv] using e
  rcases h with ⟨h1, n, rfl⟩ | ⟨h1, x, rfl⟩ <;> rcases h' with ⟨h2, n', rfl⟩ | ⟨h2, x', rfl⟩
  · trivial
  · exact absurd (e' ▸ h1) h2
  · exact absurd (e'.symm ▸ h2) h1
  · trivial
theorem lex_th : ∀ xs ys : List PyData, (∀ d ∈ xs, Th d) → (∀ d ∈ ys, Th d) → LexOk okT xs ys
  | [], _, _, _ => by simp [LexOk]
  | _ :: _, [], _, _ => by simp [LexOk]
  | x :: xs, y :: ys, hx, hy => by
    refine ⟨fun _ => lex_th xs ys (fun d hd => hx d (List.mem_cons_of_mem _ hd)) fun d hd => hy d (List.mem_cons_of_mem _ hd), fun _ => ?_⟩
    obtain ⟨t, v, rfl, k⟩ := hx x List.mem_cons_self
    obtain ⟨t', v', rfl, k'⟩ := hy y List.mem_cons_self
    exact ⟨fun e => ⟨fun _ => by simp [LexOk], fun _ => kinds_two k k' e⟩, fun _ => trivial⟩
theorem lex_flat : ∀ xs ys : List PyData, (∀ d ∈ xs, Th d) → (∀ d ∈ ys, Th d) → LexOk sameKind (xs.flatMap openT) (ys.flatMap openT)
  | [], _, _, _ => by simp [LexOk]
  | x :: _, [], hx, _ => by
    obtain ⟨t, v, rfl, k⟩ := hx x List.mem_cons_self
    simp [openT, LexOk]
  | x :: xs, y :: ys, hx, hy => by
    have ih := lex_flat xs ys (fun d hd => hx d (List.mem_cons_of_mem _ hd)) fun d hd => hy d (List.mem_cons_of_mem _ hd)
    obtain ⟨t, v, rfl, k⟩ := hx x List.mem_cons_self
    obtain ⟨t', v', rfl, k'⟩ := hy y List.mem_cons_self
    rw [List.flatMap_cons, List.flatMap_cons]
    exact ⟨fun e => ⟨fun _ => ih, fun _ => kinds_two k k' e⟩, fun _ => trivial⟩
theorem lexL_flat : ∀ xs ys : List PyData, (∀ d ∈ xs, Th d) → (∀ d ∈ ys, Th d) → lexL ltE (xs.flatMap openT) (ys.flatMap openT) = lexL ltT xs ys
  | [], [], _, _ => rfl
  | [], y :: _, _, hy => by
    obtain ⟨t, v, rfl, k⟩ := hy y List.mem_cons_self
    simp [openT, lexL]
  | x :: _, [], hx, _ => by
    obtain ⟨t, v, rfl, k⟩ := hx x List.mem_cons_self
    simp [openT, lexL]
  | x :: xs, y :: ys, hx, hy => by
    have ih := lexL_flat xs ys (fun d hd => hx d (List.mem_cons_of_mem _ hd)) fun d hd => hy d (List.mem_cons_of_mem _ hd)
    obtain ⟨t, v, rfl, k⟩ := hx x List.mem_cons_self
    obtain ⟨t', v', rfl, k'⟩ := hy y List.mem_cons_self
    rw [List.flatMap_cons, List.flatMap_cons]
    show (if PyData.eqv (.int t) (.int t') then (if PyData.eqv v v' then lexL ltE (xs.flatMap openT) (ys.flatMap openT) else ltE v v') else ltE (.int t) (.int t')) =
      (if PyData.eqv (.tuple [.int t, v]) (.tuple [.int t', v']) then lexL ltT xs ys else lexL ltE [.int t, v] [.int t', v'])
    rw [ih, show PyData.eqv (.tuple [.int t, v]) (.tuple [.int t', v']) = (PyData.eqv (.int t) (.int t') && (PyData.eqv v v' && true)) by simp [PyData.eqv, PyData.eqvAll]]
    simp only [lexL]
    cases PyData.eqv (.int t) (.int t') <;> cases PyData.eqv v v' <;> simp
theorem flat_len : ∀ xs : List PyData, (∀ d ∈ xs, Th d) → (xs.flatMap openT).length = 2 * xs.length
  | [], _ => rfl
  | x :: xs, hx => by
    have ih := flat_len xs fun d hd => hx d (List.mem_cons_of_mem _ hd)
    obtain ⟨t, v, rfl, k⟩ := hx x List.mem_cons_self
    rw [List.flatMap_cons, List.length_append, ih, List.length_cons]
    show 2 + _ = _
    omega
theorem begin_flat : ∀ xs ys : List PyData, (∀ d ∈ xs, Th d) → (∀ d ∈ ys, Th d) → PyData.eqvAll ((ys.flatMap openT).take (xs.flatMap openT).length) (xs.flatMap openT) = PyData.eqvAll (ys.take xs.length) xs
  | [], ys, _, _ => by simp
  | x :: xs, [], hx, _ => by
    obtain ⟨t, v, rfl, k⟩ := hx x List.mem_cons_self
    simp [openT, PyData.eqvAll]
  | x :: xs, y :: ys, hx, hy => by
    have ih := begin_flat xs ys (fun d hd => hx d (List.mem_cons_of_mem _ hd)) fun d hd => hy d (List.mem_cons_of_mem _ hd)
    obtain ⟨t, v, rfl, k⟩ := hx x List.mem_cons_self
    obtain ⟨t', v', rfl, k'⟩ := hy y List.mem_cons_self
    rw [List.flatMap_cons, List.flatMap_cons]
    show PyData.eqvAll (((.int t') :: v' :: ys.flatMap openT).take ((.int t :: v :: xs.flatMap openT) : List PyData).length) (.int t :: v :: xs.flatMap openT) = PyData.eqvAll (.tuple [.int t', v'] :: ys.take xs.length) (.tuple [.int t, v] :: xs)
    rw [List.length_cons, List.length_cons, List.take_succ_cons, List.take_succ_cons]
    simp only [PyData.eqvAll, ih]
    rw [show PyData.eqv (.tuple [.int t', v']) (.tuple [.int t, v]) = (PyData.eqv (.int t') (.int t) && (PyData.eqv v' v && true)) by simp [PyData.eqv, PyData.eqvAll]]
    cases PyData.eqv (.int t') (.int t) <;> cases PyData.eqv v' v <;> simp
def thB : PyData → Bool
  | .tuple [.int t, .int _] => t == 100
  | .tuple [.int t, .str _] => t != 100
  | _ => false
theorem th_of {d : PyData} (h : thB d = true) : Th d := by
  unfold thB at h
  split at h
  · exact ⟨_, _, rfl, .inl ⟨by simpa using h, _, rfl⟩⟩
  · exact ⟨_, _, rfl, .inr ⟨by simpa using h, _, rfl⟩⟩
  · cases h
def keys : List Str := partTab.map (·.1)
theorem part_th : ∀ z ∈ keys, (partOf z).2.all thB = true := by decide +kernel
theorem part_can : ∀ z ∈ keys, PyData.canLayAll0 (partOf z).2 = true ∧ (partOf z).2.all (fun d => d.canLay0 && decide (d.depth ≤ 2)) = true ∧ PyData.canLayAll0 ((partOf z).2.flatMap openT) = true ∧ PyData.depthAll (partOf z).2 ≤ 5 ∧ PyData.depthAll ((partOf z).2.flatMap openT) ≤ 5 := by decide +kernel
theorem keys_len : ∀ z ∈ keys, z.length ≤ 10 ∧ PyData.strOk z = true := by decide +kernel
theorem keys_free : ∀ z ∈ keys, 46 ∉ z.cps.toList ∧ 47 ∉ z.cps.toList := by decide +kernel
theorem bey_in {host b : Str} {qs : List Str} (g : Good host qs b) : ∀ q ∈ beyOf qs b, q ∈ texts20 ++ builds4 := by
  intro q hq
  unfold beyOf at hq
  rcases List.mem_append.mp hq with hq | hq
  · exact List.mem_append_left _ (g.parts q hq)
  · split at hq
    · cases hq
    · rw [List.mem_singleton.mp hq]; exact List.mem_append_right _ g.build
theorem kept_keys {host b : Str} {qs : List Str} (g : Good host qs b) : ∀ z ∈ keptQ qs b, z ∈ keys := kept_in (bey_in g)
theorem kept_size {host b : Str} {qs : List Str} (g : Good host qs b) : 1 ≤ (keptQ qs b).length ∧ (keptQ qs b).length ≤ 3 := by
  refine ⟨?_, kept_len _⟩
  have h : 1 ≤ (beyOf qs b).length := by unfold beyOf; rw [List.length_append]; have := g.few.1; omega
  show 1 ≤ (keptOf (beyOf qs b)).length
  unfold keptOf
  split <;> (rw [List.length_take]; try rw [List.length_map]) <;> omega
theorem kept_ne {host b : Str} {qs : List Str} (g : Good host qs b) : keptQ qs b ≠ [] := fun e => by have := (kept_size g).1; rw [e] at this; cases this
theorem kept_short {host b : Str} {qs : List Str} (g : Good host qs b) : ∀ z ∈ keptQ qs b, z.length ≤ 10 := fun z hz => (keys_len z (kept_keys g z hz)).1
theorem can_strs : ∀ xs : List Str, (∀ z ∈ xs, PyData.strOk z = true) → PyData.canLayAll0 (xs.map .str) = true
  | [], _ => rfl
  | x :: xs, h => by
    simp only [List.map_cons, PyData.canLayAll0, PyData.canLay0, h x List.mem_cons_self, can_strs xs fun z hz => h z (List.mem_cons_of_mem _ hz), Bool.and_self]
theorem kept_ok {host b : Str} {qs : List Str} (g : Good host qs b) : PyData.canLayAll0 ((keptQ qs b).map .str) = true := can_strs _ fun z hz => (keys_len z (kept_keys g z hz)).2
theorem join_len {sep : Str} (hs : sep.length = 1) {P : List Str} (h : ∀ z ∈ P, z.length ≤ 10) (h3 : P.length ≤ 4) : (Txt.join sep P).length ≤ 100 := by
  rw [tjoin]
  refine Nat.le_trans (StrLaws.join_length_le sep P) ?_
  have : (P.map (·.length)).sum ≤ 10 * P.length := by
    clear h3
    induction P with
    | nil => exact Nat.le_refl _
    | cons q P ih =>
      have h1 := h q List.mem_cons_self
      have h2 := ih fun q hq => h q (List.mem_cons_of_mem _ hq)
      simp only [List.map_cons, List.sum_cons, List.length_cons]
      omega
  rw [hs]
  omega
theorem kept_join {host b : Str} {qs : List Str} (g : Good host qs b) : ((keptQ qs b).map (·.length)).sum + (keptQ qs b).length * 1 ≤ 16777216 := by
  have h3 := (kept_size g).2
  have h := kept_short g
  generalize keptQ qs b = P at h h3
  have : (P.map (·.length)).sum ≤ 10 * P.length := by
    clear h3
    induction P with
    | nil => exact Nat.le_refl _
    | cons q P ih =>
      have h1 := h q List.mem_cons_self
      have h2 := ih fun q hq => h q (List.mem_cons_of_mem _ hq)
      simp only [List.map_cons, List.sum_cons, List.length_cons]
      omega
  omega
theorem texts_short : ∀ z ∈ texts20 ++ builds4, z.length ≤ 10 := by decide +kernel
theorem ver_short {host b : Str} {qs : List Str} (g : Good host qs b) : (verQ qs).length < 1000 :=
  Nat.lt_of_le_of_lt (join_len rfl (fun z hz => texts_short z (List.mem_append_left _ (g.parts z hz))) g.few.2) (by decide)
theorem build_short {host b : Str} {qs : List Str} (g : Good host qs b) : b.length < 1000 :=
  Nat.lt_of_le_of_lt (texts_short b (List.mem_append_right _ g.build)) (by decide)
theorem norm_short {host b : Str} {qs : List Str} (g : Good host qs b) : (normQ qs b).length < 1000 :=
  Nat.lt_of_le_of_lt (join_len rfl (kept_short g) (Nat.le_succ_of_le (kept_size g).2)) (by decide)
theorem join_short {host b : Str} {qs : List Str} (g : Good host qs b) : (Txt.join (Str.ofString "/") (keptQ qs b)).length < 900 :=
  Nat.lt_of_le_of_lt (join_len rfl (kept_short g) (Nat.le_succ_of_le (kept_size g).2)) (by decide)
theorem host_short {host b : Str} {qs : List Str} (g : Good host qs b) : host.length < 1000 ∧ PyData.strOk host = true := by
  rcases g.host with rfl | rfl <;> decide +kernel
theorem depth_app : ∀ xs ys : List PyData, PyData.depthAll (xs ++ ys) = max (PyData.depthAll xs) (PyData.depthAll ys)
  | [], ys => by simp [PyData.depthAll]
  | x :: xs, ys => by simp only [List.cons_append, PyData.depthAll, depth_app xs ys]; omega
theorem can_app : ∀ xs ys : List PyData, PyData.canLayAll0 (xs ++ ys) = (PyData.canLayAll0 xs && PyData.canLayAll0 ys)
  | [], ys => by simp [PyData.canLayAll0]
  | x :: xs, ys => by simp only [List.cons_append, PyData.canLayAll0, can_app xs ys, Bool.and_assoc]
theorem things_ok : ∀ P : List Str, (∀ z ∈ P, z ∈ keys) → (∀ d ∈ P.flatMap fun z => (partOf z).2, Th d ∧ d.canLay0 = true ∧ d.depth ≤ 2) ∧ PyData.canLayAll0 (P.flatMap fun z => (partOf z).2) = true ∧ PyData.canLayAll0 ((P.flatMap fun z => (partOf z).2).flatMap openT) = true ∧
    PyData.depthAll (P.flatMap fun z => (partOf z).2) ≤ 5 ∧ PyData.depthAll ((P.flatMap fun z => (partOf z).2).flatMap openT) ≤ 5 ∧ (P.flatMap fun z => (partOf z).2).length ≤ 2 * P.length
  | [], _ => ⟨fun _ h => (by simp at h), rfl, rfl, by simp [PyData.depthAll], by simp [PyData.depthAll], Nat.le_refl _⟩
  | z :: P, h => by
    obtain ⟨i1, i2, i3, i4, i5, i6⟩ := things_ok P fun z hz => h z (List.mem_cons_of_mem _ hz)
    have hz := h z List.mem_cons_self
    obtain ⟨c1, c2, c3, c4, c5⟩ := part_can z hz
    have c6 := part_th z hz
    have c7 := part_few z hz
    rw [List.flatMap_cons, List.flatMap_append]
    refine ⟨fun d hd => ?_, by rw [can_app, c1, i2]; rfl, by rw [can_app, c3, i3]; rfl, by rw [depth_app]; omega, by rw [depth_app]; omega, by rw [List.length_append, List.length_cons]; omega⟩
    rcases List.mem_append.mp hd with hd | hd
    · have q := List.all_eq_true.mp c2 d hd
      rw [Bool.and_eq_true] at q
      exact ⟨th_of (List.all_eq_true.mp c6 d hd), q.1, by simpa using q.2⟩
    · exact i1 d hd
theorem th_ths {host b : Str} {qs : List Str} (g : Good host qs b) : ∀ d ∈ thQ qs b, Th d := fun d hd => ((things_ok _ (kept_keys g)).1 d hd).1
theorem th_few {host b : Str} {qs : List Str} (g : Good host qs b) : (thQ qs b).length ≤ 6 := Nat.le_trans (things_ok _ (kept_keys g)).2.2.2.2.2 (by have := (kept_size g).2; omega)
theorem flat_ok {host b : Str} {qs : List Str} (g : Good host qs b) : PyData.canLayAll0 (flatQ qs b) = true ∧ PyData.depthAll (flatQ qs b) ≤ 5 ∧ (flatQ qs b).length ≤ 100 := by
  have t := things_ok _ (kept_keys g)
  refine ⟨t.2.2.1, t.2.2.2.2.1, ?_⟩
  rw [show flatQ qs b = (thQ qs b).flatMap openT from rfl, flat_len _ (th_ths g)]
  have := th_few g
  omega
theorem th_ok {host b : Str} {qs : List Str} (g : Good host qs b) : PyData.canLayAll0 (thQ qs b) = true ∧ PyData.depthAll (thQ qs b) ≤ 5 ∧ (thQ qs b).length ≤ 100 ∧ ∀ d ∈ thQ qs b, d.canLay0 = true ∧ d.depth ≤ 2 := by
  have t := things_ok _ (kept_keys g)
  exact ⟨t.2.1, t.2.2.2.1, Nat.le_trans (th_few g) (by decide), fun d hd => (t.1 d hd).2⟩
theorem lex_ok {host b : Str} {qs : List Str} {host' b' : Str} {qs' : List Str} (g : Good host qs b) (g' : Good host' qs' b') : LexOk sameKind (flatQ qs b) (flatQ qs' b') ∧ LexOk okT (thQ qs b) (thQ qs' b') :=
  ⟨lex_flat _ _ (th_ths g) (th_ths g'), lex_th _ _ (th_ths g) (th_ths g')⟩
end Mine
end

section
open PySem PySem.W PyProof.Rows PySem.Calls
set_option maxRecDepth 100000
namespace Mine
theorem dot_is : Str.ofString "." = (⟨#[46]⟩ : Str) := by decide +kernel
theorem slash_is : Str.ofString "/" = (⟨#[47]⟩ : Str) := by decide +kernel
theorem drawn_free : ∀ z ∈ texts20 ++ builds4, 46 ∉ z.cps.toList := by decide +kernel
theorem split_ver {host b : Str} {qs : List Str} (g : Good host qs b) : Txt.split (verQ qs) (Str.ofString ".") = qs := by
  unfold verQ
  rw [tjoin, dot_is]
  exact split_join (fun e => by have := g.few.1; rw [e] at this; cases this) fun p hp => drawn_free p (List.mem_append_left _ (g.parts p hp))
theorem build_nil : ∀ b ∈ builds4, (b.length = 0 ↔ b = Str.ofString "") := by decide +kernel
theorem texts_are {host b : Str} {qs : List Str} (g : Good host qs b) : Txt.split (verQ qs) (Str.ofString ".") ++ (if b.length = 0 then [] else [b]) = beyOf qs b := by
  rw [split_ver g]
  unfold beyOf
  by_cases h : b = Str.ofString ""
  · rw [if_pos h, if_pos ((build_nil b g.build).mpr h)]
  · rw [if_neg h, if_neg fun e => h ((build_nil b g.build).mp e)]
theorem norm_few {host b : Str} {qs : List Str} (g : Good host qs b) : (Txt.split (verQ qs) (Str.ofString ".")).length ≤ 1000 := by
  rw [split_ver g]
  exact Nat.le_trans g.few.2 (by decide)
theorem num_is : ∀ z ∈ texts20 ++ builds4, (PySem.intText? z).isSome = !(partOf z).1.isNone ∧ ((PySem.intText? z).isSome = true → numStr z = ((partOf z).1).getD (Str.ofString "")) := by decide +kernel
theorem norm_all : ∀ xs : List Str, (∀ z ∈ xs, z ∈ texts20 ++ builds4) → normTexts xs = if xs.any (fun q => (partOf q).1.isNone) then xs else xs.map fun q => ((partOf q).1).getD (Str.ofString "") := by
  intro xs h
  have hall : xs.all (fun x => (PySem.intText? x).isSome) = !xs.any (fun q => (partOf q).1.isNone) := by
    induction xs with
    | nil => rfl
    | cons x xs ih =>
      rw [List.all_cons, List.any_cons, ih fun z hz => h z (List.mem_cons_of_mem _ hz), (num_is x (h x List.mem_cons_self)).1, Bool.not_or]
  unfold normTexts
  rw [hall]
  by_cases ha : xs.any (fun q => (partOf q).1.isNone) = true
  · rw [ha, if_pos rfl, if_neg (by simp)]
  · have ha' : xs.any (fun q => (partOf q).1.isNone) = false := by simpa using ha
    rw [ha', if_neg Bool.false_ne_true, if_pos (by rfl)]
    refine List.map_congr_left fun z hz => (num_is z (h z hz)).2 ?_
    rw [(num_is z (h z hz)).1]
    cases hn : (partOf z).1.isNone with
    | false => rfl
    | true =>
      have : xs.any (fun q => (partOf q).1.isNone) = true := List.any_eq_true.mpr ⟨z, hz, hn⟩
      rw [ha'] at this; cases this
theorem norm_is {host b : Str} {qs : List Str} (g : Good host qs b) : (normTexts (Txt.split (verQ qs) (Str.ofString ".") ++ (if b.length = 0 then [] else [b]))).take 3 = keptQ qs b := by
  rw [texts_are g, norm_all _ (bey_in g)]
  unfold keptQ keptOf
  split <;> rfl
theorem num_of {z : Str} {n : Int} (h1 : PySem.intText? z = some n) (h2 : z.length ≤ 640) (h3 : n.natAbs.log2 < 1920) : ∃ n, Num z n := ⟨n, h1, h2, h3⟩
theorem drawn_num : ∀ z ∈ texts20 ++ builds4, (∃ n, Num z n) ∨ Bad z := by
  intro z hz
  simp only [texts20, builds4, List.cons_append, List.nil_append, List.mem_cons, List.not_mem_nil, or_false] at hz
  rcases hz with rfl | rfl | rfl | rfl | rfl | rfl | rfl | rfl | rfl | rfl | rfl | rfl | rfl | rfl | rfl | rfl | rfl | rfl | rfl | rfl | rfl | rfl | rfl | rfl
  · exact .inl ⟨0, by decide +kernel, by decide +kernel, by decide⟩
  · exact .inl ⟨1, by decide +kernel, by decide +kernel, by decide⟩
  · exact .inl ⟨1, by decide +kernel, by decide +kernel, by decide⟩
  · exact .inl ⟨2, by decide +kernel, by decide +kernel, by decide⟩
  · exact .inl ⟨10, by decide +kernel, by decide +kernel, by decide⟩
  · exact .inl ⟨9, by decide +kernel, by decide +kernel, by decide⟩
  · exact .inl ⟨12, by decide +kernel, by decide +kernel, by decide⟩
  · exact .inl ⟨4, by decide +kernel, by decide +kernel, by decide⟩
  · exact .inl ⟨-1, by decide +kernel, by decide +kernel, by decide⟩
  · exact .inl ⟨2, by decide +kernel, by decide +kernel, by decide⟩
  · exact .inr ⟨by decide +kernel, by kernel_rfl, by decide +kernel⟩
  · exact .inr ⟨by decide +kernel, by kernel_rfl, by decide +kernel⟩
  · exact .inr ⟨by decide +kernel, by kernel_rfl, by decide +kernel⟩
  · exact .inr ⟨by decide +kernel, by kernel_rfl, by decide +kernel⟩
  · exact .inl ⟨3, by decide +kernel, by decide +kernel, by decide⟩
  · exact .inl ⟨1, by decide +kernel, by decide +kernel, by decide⟩
  · exact .inl ⟨2, by decide +kernel, by decide +kernel, by decide⟩
  · exact .inl ⟨0, by decide +kernel, by decide +kernel, by decide⟩
  · exact .inl ⟨1, by decide +kernel, by decide +kernel, by decide⟩
  · exact .inl ⟨2, by decide +kernel, by decide +kernel, by decide⟩
  · exact .inr ⟨by decide +kernel, by kernel_rfl, by decide +kernel⟩
  · exact .inl ⟨7, by decide +kernel, by decide +kernel, by decide⟩
  · exact .inl ⟨7, by decide +kernel, by decide +kernel, by decide⟩
  · exact .inr ⟨by decide +kernel, by kernel_rfl, by decide +kernel⟩
theorem norm_texts {host b : Str} {qs : List Str} (g : Good host qs b) : ∀ x ∈ Txt.split (verQ qs) (Str.ofString ".") ++ (if b.length = 0 then [] else [b]), (∃ n, Num x n) ∨ Bad x := by
  rw [texts_are g]
  exact fun x hx => drawn_num x (bey_in g x hx)
theorem path_is {host b : Str} {qs : List Str} (g : Good host qs b) : Txt.replace (normQ qs b) (Str.ofString ".") (Str.ofString "/") = Txt.join (Str.ofString "/") (keptQ qs b) := by
  unfold normQ
  rw [tjoin, tjoin, dot_is]
  exact replace_join (kept_ne g) fun p hp => (keys_free p (kept_keys g p hp)).1
theorem ok_app {a b : Str} (h : PyData.strOk a = true) (h' : PyData.strOk b = true) : PyData.strOk (a ++ b) = true := by
  unfold PyData.strOk at *
  rw [Array.all_eq_true] at *
  rw [show (a ++ b).cps = a.cps ++ b.cps from Str.cps_append ..]
  intro i hi
  rw [Array.getElem_append]
  split
  · exact h _ _
  · exact h' _ _
theorem ok_join {sep : Str} (hs : PyData.strOk sep = true) : ∀ P : List Str, (∀ z ∈ P, PyData.strOk z = true) → PyData.strOk (Str.join sep P) = true
  | [], _ => (by decide +kernel : PyData.strOk Str.empty = true)
  | [x], h => h x List.mem_cons_self
  | x :: y :: P, h => ok_app (ok_app (h x List.mem_cons_self) hs) (ok_join hs (y :: P) fun z hz => h z (List.mem_cons_of_mem _ hz))
theorem path_short {host b : Str} {qs : List Str} (g : Good host qs b) : (pathQ qs b).length < 1000 ∧ PyData.strOk (pathQ qs b) = true := by
  refine ⟨?_, ?_⟩
  · have := join_short g
    unfold pathQ
    rw [Str.length_append, show (Str.ofString "/").length = 1 from rfl]
    omega
  · unfold pathQ
    rw [tjoin]
    exact ok_app (by decide +kernel) (ok_join (by decide +kernel) _ fun z hz => (keys_len z (kept_keys g z hz)).2)
end Mine
end

section
open PySem
set_option maxRecDepth 100000
namespace Mine
def nxL : List Nat → Option Nat
  | [] => none
  | c :: l => if isD c || isP c then some 0 else (nxL l).map (· + 1)
def dlL : List Nat → Nat
  | [] => 0
  | c :: l => if isD c then dlL l + 1 else 0
def enL (l : List Nat) : Nat := if isD (l.headD 0) then dlL l else 1
def pcs : Nat → List Nat → List (List Nat)
  | 0, l => [l]
  | k + 1, l => match nxL l with
    | none => [l]
    | some p => l.take p :: (l.drop p).take (enL (l.drop p)) :: pcs k (l.drop (p + enL (l.drop p)))

theorem drop_arr {text : Array Nat} {s : Nat} (h : s < text.size) : text.toList.drop s = text.getD s 0 :: text.toList.drop (s + 1) := by
  rw [List.drop_eq_getElem_cons (by simpa using h)]
  simp [Array.getD, h]
theorem nextAt_list (text : Array Nat) : ∀ k s, s + k = text.size → nextAt text text.size k s = (nxL (text.toList.drop s)).map (s + ·)
  | 0, s, h => by
    rw [List.drop_of_length_le (by simp; omega)]
    rfl
  | k + 1, s, h => by
    rw [drop_arr (by omega)]
    unfold nextAt nxL
    split
    · simp
    · rw [nextAt_list text k (s + 1) (by omega), Option.map_map]
      congr 1
      funext x
      simp; omega
theorem digitsAt_list (text : Array Nat) : ∀ k s, s + k = text.size → digitsAt text k s = dlL (text.toList.drop s)
  | 0, s, h => by
    rw [List.drop_of_length_le (by simp; omega)]
    rfl
  | k + 1, s, h => by
    rw [drop_arr (by omega)]
    unfold digitsAt dlL
    rw [digitsAt_list text k (s + 1) (by omega)]
theorem endAt_list (text : Array Nat) (s : Nat) (h : s < text.size) : endAt text text.size s = s + enL (text.toList.drop s) := by
  unfold endAt enL
  rw [digitsAt_list text _ s (by omega), drop_arr h, List.headD_cons]
  cases isD (text.getD s 0) <;> rfl
theorem ext_list (text : Array Nat) (a b : Nat) : text.extract a b = ((text.toList.drop a).take (b - a)).toArray := by
  apply Array.ext'
  simp
theorem nxL_lt : ∀ {l : List Nat} {p : Nat}, nxL l = some p → p < l.length
  | [], _, h => by cases h
  | c :: l, p, h => by
    unfold nxL at h
    split at h
    · cases h; simp
    · cases hq : nxL l with
      | none => rw [hq] at h; cases h
      | some q =>
        rw [hq] at h
        cases h
        have := nxL_lt hq
        simp; omega
theorem dlL_le : ∀ l : List Nat, dlL l ≤ l.length
  | [] => Nat.le_refl _
  | c :: l => by
    unfold dlL
    split
    · have := dlL_le l; simp; omega
    · exact Nat.zero_le _
theorem enL_in {l : List Nat} (h : 0 < l.length) : 0 < enL l ∧ enL l ≤ l.length := by
  cases l with
  | nil => cases h
  | cons c l =>
    have e : enL (c :: l) = if isD c then dlL (c :: l) else 1 := rfl
    rw [e]
    by_cases hd : isD c = true
    · rw [if_pos hd]
      refine ⟨?_, dlL_le _⟩
      unfold dlL
      rw [if_pos hd]; omega
    · rw [if_neg hd]; simp
theorem pieces_list (text : Array Nat) : ∀ k last, last ≤ text.size → pieces text text.size k last = (pcs k (text.toList.drop last)).map fun l => ⟨l.toArray⟩
  | 0, last, h => by
    unfold pieces pcs
    rw [ext_list, List.take_of_length_le (by simp)]
    rfl
  | k + 1, last, h => by
    unfold pieces pcs
    rw [nextAt_list text _ last (by omega)]
    cases hq : nxL (text.toList.drop last) with
    | none =>
      simp only [Option.map_none]
      rw [ext_list, List.take_of_length_le (by simp)]
      rfl
    | some q =>
      have hlt := nxL_lt hq
      rw [List.length_drop, Array.length_toList] at hlt
      simp only [Option.map_some]
      have he := endAt_list text (last + q) (by omega)
      rw [← List.drop_drop] at he
      have hin := enL_in (l := (text.toList.drop last).drop q) (by simp; omega)
      rw [List.length_drop, List.length_drop, Array.length_toList] at hin
      rw [pieces_list text k _ (by omega), he, ext_list, ext_list]
      simp only [List.map_cons, List.drop_drop]
      have e1 : last + q - last = q := by omega
      have e2 : ∀ n, last + q + n - (last + q) = n := fun n => by omega
      rw [e1, e2]
      simp only [Nat.add_assoc]
theorem pcs_fuel : ∀ k j l, l.length < k → l.length < j → pcs k l = pcs j l
  | 0, _, _, h, _ => absurd h (Nat.not_lt_zero _)
  | _ + 1, 0, _, _, h => absurd h (Nat.not_lt_zero _)
  | k + 1, j + 1, l, h, h' => by
    unfold pcs
    cases hq : nxL l with
    | none => rfl
    | some p =>
      have h1 := nxL_lt hq
      have h2 := enL_in (l := l.drop p) (by simp; omega)
      dsimp only
      rw [pcs_fuel k j _ (by simp; omega) (by simp; omega)]
theorem nxL_dot (r : List Nat) : ∀ a : List Nat, nxL (a ++ 46 :: r) = some ((nxL a).getD a.length)
  | [] => rfl
  | c :: a => by
    rw [List.cons_append]
    unfold nxL
    split
    · rfl
    · rw [nxL_dot r a]
      cases nxL a <;> rfl
theorem dlL_dot (r : List Nat) : ∀ a : List Nat, dlL (a ++ 46 :: r) = dlL a
  | [] => rfl
  | c :: a => by
    rw [List.cons_append]
    unfold dlL
    rw [dlL_dot r a]
theorem pcs_dot (r : List Nat) : ∀ n a, a.length ≤ n → ∀ k, a.length + r.length + 1 < k → pcs k (a ++ 46 :: r) = pcs k a ++ [46] :: pcs k r
  | n, a, hn, 0, h => absurd h (Nat.not_lt_zero _)
  | n, a, hn, k + 1, h => by
    have e : pcs (k + 1) r = pcs k r := pcs_fuel _ _ _ (by omega) (by omega)
    rw [e]
    generalize hR : pcs k r = R
    unfold pcs
    rw [nxL_dot]
    cases hq : nxL a with
    | none =>
      simp only [Option.getD_none, List.take_left, List.drop_left]
      have e1 : enL (46 :: r) = 1 := rfl
      rw [e1]
      have e2 : (a ++ 46 :: r).drop (a.length + 1) = r := by
        rw [← List.drop_drop, List.drop_left]; rfl
      rw [e2, hR]
      rfl
    | some p =>
      have h1 := nxL_lt hq
      have h2 := enL_in (l := a.drop p) (by simp; omega)
      rw [List.length_drop] at h2
      simp only [Option.getD_some]
      have d1 : (a ++ 46 :: r).drop p = a.drop p ++ 46 :: r := List.drop_append_of_le_length (by omega)
      have d2 : enL (a.drop p ++ 46 :: r) = enL (a.drop p) := by
        have : a.drop p ≠ [] := by intro e; have := congrArg List.length e; simp at this; omega
        unfold enL
        rw [dlL_dot]
        cases hd : a.drop p with
        | nil => exact absurd hd this
        | cons c l => rfl
      rw [d1, d2, List.take_append_of_le_length (by omega), List.take_append_of_le_length (by rw [List.length_drop]; omega), List.drop_append_of_le_length (by omega)]
      cases n with
      | zero => omega
      | succ n =>
        rw [pcs_dot r n (a.drop (p + enL (a.drop p))) (by simp; omega) k (by simp; omega), hR]
        rfl
end Mine
end

section
open PySem PySem.W PyProof.Rows PySem.Calls
set_option maxRecDepth 100000
namespace Mine
theorem Kinds.append {xs : List Str} {ds : List PyData} (h : Kinds xs ds) {ys : List Str} {es : List PyData} (h' : Kinds ys es) : Kinds (xs ++ ys) (ds ++ es) := by
  induction h' with
  | nil => rw [List.append_nil, List.append_nil]; exact h
  | snoc _ k ih => rw [← List.append_assoc, ← List.append_assoc]; exact .snoc ih k
theorem Kinds.one {x : Str} {es : List PyData} (k : Kind x es) : Kinds [x] es := .snoc .nil k
theorem Kinds.inv {zs : List Str} {es : List PyData} (h : Kinds zs es) : (zs = [] ∧ es = []) ∨ ∃ xs x ds e, zs = xs ++ [x] ∧ es = ds ++ e ∧ Kinds xs ds ∧ Kind x e := by
  cases h with
  | nil => exact .inl ⟨rfl, rfl⟩
  | snoc a b => exact .inr ⟨_, _, _, _, rfl, rfl, a, b⟩
theorem kind_unique {x : Str} {es es' : List PyData} (h : Kind x es) (h' : Kind x es') : es = es' := by
  cases h with
  | sep a =>
    cases h' with
    | sep _ => rfl
    | num _ _ b => rw [a] at b; cases b
    | word _ b _ => rw [a] at b; cases b
  | num n hn a =>
    cases h' with
    | sep b => rw [a] at b; cases b
    | num m hm _ => have := hn.reads; rw [hm.reads] at this; rw [Option.some.inj this]
    | word hb _ _ => have := hn.reads; rw [hb.none] at this; cases this
  | word hb a m =>
    cases h' with
    | sep b => rw [a] at b; cases b
    | num m hm _ => have := hm.reads; rw [hb.none] at this; cases this
    | word _ _ _ => rfl
theorem kinds_unique {zs : List Str} {es es' : List PyData} (h : Kinds zs es) (h' : Kinds zs es') : es = es' := by
  induction h generalizing es' with
  | nil =>
    rcases h'.inv with ⟨_, e⟩ | ⟨xs, x, _, _, e, _⟩
    · exact e.symm
    · simp at e
  | snoc a b ih =>
    rcases h'.inv with ⟨e, _⟩ | ⟨xs, x, ds, e, e1, e2, e3, e4⟩
    · simp at e
    · obtain ⟨q1, q2⟩ := List.append_inj' e1 rfl
      subst q1
      cases q2
      rw [e2, ih e3, kind_unique b e4]
theorem kinds_mem {zs : List Str} {es : List PyData} (h : Kinds zs es) : ∀ x ∈ zs, ∃ e, Kind x e := by
  induction h with
  | nil => intro x hx; cases hx
  | snoc _ k ih =>
    intro x hx
    rcases List.mem_append.mp hx with hx | hx
    · exact ih x hx
    · rw [List.mem_singleton.mp hx]; exact ⟨_, k⟩
def tokTab : List (Str × List PyData) := [(Str.ofString "", []), (Str.ofString ".", []), (Str.ofString "-", []), (Str.ofString "+", []),
  (Str.ofString "0", [.int 100, .int 0]), (Str.ofString "1", [.int 100, .int 1]), (Str.ofString "01", [.int 100, .int 1]), (Str.ofString "2", [.int 100, .int 2]), (Str.ofString "10", [.int 100, .int 10]), (Str.ofString "9", [.int 100, .int 9]),
  (Str.ofString "012", [.int 100, .int 12]), (Str.ofString "4", [.int 100, .int 4]), (Str.ofString "3", [.int 100, .int 3]), (Str.ofString "00", [.int 100, .int 0]), (Str.ofString "7", [.int 100, .int 7]), (Str.ofString "007", [.int 100, .int 7]), (Str.ofString "12", [.int 100, .int 12]),
  (Str.ofString "x", [.int 0, .str (Str.ofString "x")]), (Str.ofString "rc", [.int 50, .str (Str.ofString "rc")]), (Str.ofString "p", [.int 200, .str (Str.ofString "p")]), (Str.ofString " ", [.int 0, .str (Str.ofString " ")])]
theorem tok_kind : ∀ p ∈ tokTab, Kind p.1 p.2 := by
  intro p hp
  simp only [tokTab, List.mem_cons, List.not_mem_nil, or_false] at hp
  rcases hp with rfl | rfl | rfl | rfl | rfl | rfl | rfl | rfl | rfl | rfl | rfl | rfl | rfl | rfl | rfl | rfl | rfl | rfl | rfl | rfl | rfl
  · exact .sep (by decide +kernel)
  · exact .sep (by decide +kernel)
  · exact .sep (by decide +kernel)
  · exact .sep (by decide +kernel)
  · exact .num _ ⟨by decide +kernel, by decide +kernel, by decide⟩ (by decide +kernel)
  · exact .num _ ⟨by decide +kernel, by decide +kernel, by decide⟩ (by decide +kernel)
  · exact .num _ ⟨by decide +kernel, by decide +kernel, by decide⟩ (by decide +kernel)
  · exact .num _ ⟨by decide +kernel, by decide +kernel, by decide⟩ (by decide +kernel)
  · exact .num _ ⟨by decide +kernel, by decide +kernel, by decide⟩ (by decide +kernel)
  · exact .num _ ⟨by decide +kernel, by decide +kernel, by decide⟩ (by decide +kernel)
  · exact .num _ ⟨by decide +kernel, by decide +kernel, by decide⟩ (by decide +kernel)
  · exact .num _ ⟨by decide +kernel, by decide +kernel, by decide⟩ (by decide +kernel)
  · exact .num _ ⟨by decide +kernel, by decide +kernel, by decide⟩ (by decide +kernel)
  · exact .num _ ⟨by decide +kernel, by decide +kernel, by decide⟩ (by decide +kernel)
  · exact .num _ ⟨by decide +kernel, by decide +kernel, by decide⟩ (by decide +kernel)
  · exact .num _ ⟨by decide +kernel, by decide +kernel, by decide⟩ (by decide +kernel)
  · exact .num _ ⟨by decide +kernel, by decide +kernel, by decide⟩ (by decide +kernel)
  · exact .word ⟨by decide +kernel, by kernel_rfl, by decide +kernel⟩ (by decide +kernel) (by decide +kernel)
  · exact .word ⟨by decide +kernel, by kernel_rfl, by decide +kernel⟩ (by decide +kernel) (by decide +kernel)
  · exact .word ⟨by decide +kernel, by kernel_rfl, by decide +kernel⟩ (by decide +kernel) (by decide +kernel)
  · exact .word ⟨by decide +kernel, by kernel_rfl, by decide +kernel⟩ (by decide +kernel) (by decide +kernel)
theorem lookup_mem {x : Str} {es : List PyData} : ∀ {tab : List (Str × List PyData)}, tab.lookup x = some es → (x, es) ∈ tab
  | [], h => by cases h
  | (k, v) :: tab, h => by
    rw [List.lookup_cons] at h
    split at h
    · rename_i e
      have e' : x = k := by simpa using e
      cases h
      rw [e']; exact List.mem_cons_self
    · exact List.mem_cons_of_mem _ (lookup_mem h)
def tokAll (xs : List Str) : List PyData := xs.flatMap fun x => (tokTab.lookup x).getD []
theorem kinds_of : ∀ xs : List Str, xs.all (fun x => (tokTab.lookup x).isSome) = true → Kinds xs (tokAll xs)
  | [], _ => .nil
  | x :: xs, h => by
    rw [List.all_cons, Bool.and_eq_true] at h
    obtain ⟨es, he⟩ := Option.isSome_iff_exists.mp h.1
    have : Kinds ([x] ++ xs) (es ++ tokAll xs) := (Kinds.one (tok_kind _ (lookup_mem he))).append (kinds_of xs h.2)
    show Kinds (x :: xs) ((tokTab.lookup x).getD [] ++ tokAll xs)
    rw [he]
    exact this
abbrev mkS (l : List Nat) : Str := ⟨l.toArray⟩
def pk (z : Str) : List Str := (pcs (z.cps.toList.length + 1) z.cps.toList).map mkS
theorem part_all : ∀ z ∈ keys, (pk z).all (fun x => (tokTab.lookup x).isSome) = true := by decide +kernel
theorem part_toks : ∀ z ∈ keys, tokAll (pk z) = (partOf z).2.flatMap openT := by
  intro z hz
  simp only [keys, partTab, List.map_cons, List.map_nil, List.mem_cons, List.not_mem_nil, or_false] at hz
  rcases hz with rfl | rfl | rfl | rfl | rfl | rfl | rfl | rfl | rfl | rfl | rfl | rfl | rfl | rfl | rfl | rfl | rfl | rfl | rfl | rfl | rfl <;> kernel_rfl
theorem part_kinds (z : Str) (hz : z ∈ keys) : Kinds (pk z) ((partOf z).2.flatMap openT) := by
  have := kinds_of (pk z) (part_all z hz)
  rw [part_toks z hz] at this
  exact this
theorem kinds_join : ∀ P : List Str, P ≠ [] → (∀ z ∈ P, z ∈ keys) → ∀ k, (Str.join ⟨#[46]⟩ P).cps.toList.length < k → Kinds ((pcs k (Str.join ⟨#[46]⟩ P).cps.toList).map mkS) ((P.flatMap fun z => (partOf z).2).flatMap openT)
  | [], h, _, _, _ => absurd rfl h
  | [p], _, h, k, hk => by
    have := part_kinds p (h p List.mem_cons_self)
    rw [List.flatMap_cons, List.flatMap_nil, List.append_nil]
    show Kinds ((pcs k p.cps.toList).map mkS) _
    rw [pcs_fuel k (p.cps.toList.length + 1) p.cps.toList hk (Nat.lt_succ_self _)]
    exact this
  | p :: q :: P, _, h, k, hk => by
    have hp := part_kinds p (h p List.mem_cons_self)
    rw [join_cons2] at hk ⊢
    rw [List.length_append, List.length_cons] at hk
    have ih := kinds_join (q :: P) (List.cons_ne_nil _ _) (fun z hz => h z (List.mem_cons_of_mem _ hz)) k (by omega)
    rw [pcs_dot _ _ _ (Nat.le_refl _) k (by omega), pcs_fuel k (p.cps.toList.length + 1) p.cps.toList (by omega) (Nat.lt_succ_self _), List.map_append, List.map_cons, List.flatMap_cons, List.flatMap_append]
    have hd : Kinds [mkS [46]] [] := Kinds.one (tok_kind (Str.ofString ".", []) (List.mem_of_getElem? (i := 1) rfl))
    exact hp.append (hd.append ih)
theorem norm_kinds {host b : Str} {qs : List Str} (g : Good host qs b) : Kinds (pieces (normQ qs b).cps (normQ qs b).cps.size ((normQ qs b).cps.size + 1) 0) (flatQ qs b) := by
  rw [pieces_list _ _ _ (Nat.zero_le _), List.drop_zero]
  have e : normQ qs b = Str.join ⟨#[46]⟩ (keptQ qs b) := by unfold normQ; rw [tjoin, dot_is]
  rw [e]
  exact kinds_join _ (kept_ne g) (kept_keys g) _ (by rw [Array.length_toList]; exact Nat.lt_succ_self _)
theorem comp_kinds {host b : Str} {qs : List Str} (g : Good host qs b) : ∀ x ∈ pieces (normQ qs b).cps (normQ qs b).cps.size ((normQ qs b).cps.size + 1) 0, ∃ es, Kind x es := kinds_mem (norm_kinds g)
theorem comp_is {host b : Str} {qs : List Str} {ds : List PyData} (g : Good host qs b) (k : Kinds (pieces (normQ qs b).cps (normQ qs b).cps.size ((normQ qs b).cps.size + 1) 0) ds) : ds = flatQ qs b := kinds_unique k (norm_kinds g)
end Mine
end

section
open PySem PySem.W PyProof.Rows PySem.Calls
set_option maxRecDepth 100000
namespace Mine
theorem last_idx (n : Nat) (h : 1 ≤ n) : Builtin.Str.strSliceIndices (some (-1)) none 1 n = [n - 1] := by
  have e : Builtin.Str.strSliceIndices (some (-1)) none 1 n = Builtin.Str.strSliceIndices (some ((n - 1 : Nat) : Int)) (some (n : Int)) 1 n := by
    simp only [Builtin.Str.strSliceIndices]
    have h1 : max (0 : Int) (min ((-1 : Int) + n) n) = ((n - 1 : Nat) : Int) := by omega
    have h2 : ¬ (((n - 1 : Nat) : Int) < 0) := by omega
    have h3 : ¬ ((n : Int) < 0) := by omega
    have h4 : max (0 : Int) (min (((n - 1 : Nat) : Int)) n) = ((n - 1 : Nat) : Int) := by omega
    have h5 : max (0 : Int) (min (n : Int) n) = n := by omega
    simp only [show ((-1 : Int) < 0) = True by simp, if_true, h2, h3, if_false, show ((1 : Int) > 0) = True by simp, h1, h4, h5]
  rw [e, StrLaws.strSliceIndices_plain (by omega) (Nat.le_refl _)]
  have : n - (n - 1) = 1 := by omega
  rw [this]
  rfl
theorem slice_last (p : Str) (A : List Nat) (c : Nat) (h : p.cps.toList = A ++ [c]) : Txt.slice p (some (-1)) none = ⟨#[c]⟩ := by
  have hl : p.length = A.length + 1 := by
    show p.cps.size = _
    rw [← Array.length_toList, h, List.length_append]; rfl
  have hc : p.cps[p.length - 1]? = some c := by
    rw [← Array.getElem?_toList, h, hl]
    simp
  unfold Txt.slice
  rw [last_idx _ (by omega)]
  split
  · rename_i hh
    have h1 : p.length = 1 := by have hh2 := hh; simp at hh2; omega
    have : A = [] := List.eq_nil_of_length_eq_zero (by omega)
    refine str_ext ?_
    rw [h, this]; rfl
  · rw [List.filterMap_cons, hc]
    rfl
theorem starts_iff (x y : Str) : Txt.startswith x y = true ↔ ∃ t, x.cps.toList = y.cps.toList ++ t := by
  have ly : y.length = y.cps.toList.length := Array.length_toList.symm
  have lx : x.length = x.cps.toList.length := Array.length_toList.symm
  unfold Txt.startswith
  rw [Bool.and_eq_true, decide_eq_true_iff, StrLaws.subAt_eq, List.drop_zero, beq_iff_eq, ly, lx, Nat.zero_add]
  constructor
  · rintro ⟨_, h⟩
    exact ⟨_, by rw [← h]; exact (List.take_append_drop _ _).symm.trans (by rw [h])⟩
  · rintro ⟨t, h⟩
    rw [h]
    exact ⟨by simp, by simp⟩
def body (us : List Str) : List Nat := us.flatMap fun z => z.cps.toList ++ [47]
abbrev jn (P : List Str) : List Nat := (Str.join ⟨#[47]⟩ P).cps.toList
theorem jn_snoc (z : Str) : ∀ us : List Str, jn (us ++ [z]) = body us ++ z.cps.toList
  | [] => rfl
  | [u] => by
    show jn (u :: z :: []) = _
    unfold jn
    rw [join_cons2]
    simp [body, Str.join]
  | u :: v :: us => by
    have ih := jn_snoc z (v :: us)
    show jn (u :: v :: (us ++ [z])) = _
    unfold jn at ih ⊢
    rw [join_cons2]
    rw [show v :: (us ++ [z]) = (v :: us) ++ [z] from rfl, ih]
    simp [body]
theorem starts_body : ∀ (us K : List Str), (∀ z ∈ us, 47 ∉ z.cps.toList) → K ≠ [] → (∀ z ∈ K, 47 ∉ z.cps.toList) → ((∃ t, jn K = body us ++ t) ↔ us.length < K.length ∧ K.take us.length = us)
  | [], K, _, hK, _ => by
    constructor
    · intro _; exact ⟨by cases K with | nil => exact absurd rfl hK | cons => exact Nat.succ_pos _, by simp⟩
    · intro _; exact ⟨jn K, by simp [body]⟩
  | u :: us, [], _, hK, _ => absurd rfl hK
  | u :: us, [k], hu, _, hk => by
    constructor
    · rintro ⟨t, h⟩
      have : 47 ∈ k.cps.toList := by
        show 47 ∈ jn [k]
        rw [h]; simp [body]
      exact absurd this (hk k List.mem_cons_self)
    · rintro ⟨h, _⟩
      simp at h
  | u :: us, k :: k' :: r, hu, _, hk => by
    have ih := starts_body us (k' :: r) (fun z hz => hu z (List.mem_cons_of_mem _ hz)) (List.cons_ne_nil _ _) fun z hz => hk z (List.mem_cons_of_mem _ hz)
    have ej : jn (k :: k' :: r) = k.cps.toList ++ 47 :: jn (k' :: r) := join_cons2 47 k k' r
    have eb : body (u :: us) = u.cps.toList ++ 47 :: body us := by simp [body]
    rw [ej, eb]
    constructor
    · rintro ⟨t, h⟩
      rw [List.append_assoc, List.cons_append] at h
      obtain ⟨e1, e2⟩ := cut_unique (hk k List.mem_cons_self) (hu u List.mem_cons_self) h
      obtain ⟨q1, q2⟩ := ih.mp ⟨t, e2⟩
      refine ⟨Nat.succ_lt_succ q1, ?_⟩
      rw [List.length_cons, List.take_succ_cons, q2, str_ext e1]
    · rintro ⟨q1, q2⟩
      rw [List.length_cons, List.take_succ_cons] at q2
      injection q2 with e1 e2
      obtain ⟨t, h⟩ := ih.mpr ⟨Nat.lt_of_succ_lt_succ q1, e2⟩
      exact ⟨t, by rw [h, e1]; simp⟩
abbrev pth (P : List Str) : Str := Str.ofString "/" ++ Txt.join (Str.ofString "/") P
theorem pth_list (P : List Str) : (pth P).cps.toList = 47 :: jn P := by
  unfold pth
  rw [tjoin, slash_is, Str.cps_append, Array.toList_append]
  rfl
theorem sub_law {h1 h2 : Str} {K1 K2 : List Str} (n1 : K1 ≠ []) (n2 : K2 ≠ []) (f1 : ∀ z ∈ K1, 47 ∉ z.cps.toList) (f2 : ∀ z ∈ K2, 47 ∉ z.cps.toList) :
    subOf h1 (pth K1) h2 (pth K2) = (decide (h1 = h2) && coversOf K1 K2) := by
  have hp : pth K1 = pth K2 ↔ K1 = K2 := by
    constructor
    · intro e
      have := congrArg (fun x : Str => x.cps.toList) e
      simp only [pth_list] at this
      injection this with _ e2
      exact join_inj n1 n2 f1 f2 e2
    · rintro rfl; rfl
  have he : PyData.eqv (.tuple [.str h1, .str (pth K1)]) (.tuple [.str h2, .str (pth K2)]) = (decide (h1 = h2) && decide (K1 = K2)) := by
    simp only [PyData.eqv, PyData.eqvAll, Bool.and_true]
    by_cases a : h1 = h2 <;> by_cases b : K1 = K2
    · simp [a, b]
    · have : ¬ pth K1 = pth K2 := fun e => b (hp.mp e)
      simp [a, b, this]
    · simp [a, b]
    · simp [a, b]
  unfold subOf
  rw [he]
  by_cases a : h1 = h2
  · by_cases b : K1 = K2
    · simp [a, b, coversOf]
    · have hne : (h1 != h2) = false := by simpa using a
      rw [decide_eq_true a, decide_eq_false b, Bool.and_false, if_neg Bool.false_ne_true, hne, if_neg Bool.false_ne_true, Bool.true_and]
      unfold coversOf
      rw [decide_eq_false b, Bool.false_or]
      obtain ⟨us, z, rfl⟩ : ∃ us z, K1 = us ++ [z] := ⟨K1.dropLast, K1.getLast n1, (List.dropLast_concat_getLast n1).symm⟩
      have hlen : (us ++ [z]).length - 1 = us.length := by simp
      have hget : (us ++ [z])[(us ++ [z]).length - 1]? = some z := by rw [hlen]; simp
      by_cases hz : z = Str.ofString ""
      · have e0 : z.cps.toList = [] := by rw [hz]; rfl
        have hup : upOf (us ++ [z]) = us := by
          unfold upOf
          rw [hget, if_pos (by rw [hz]), hlen]
          simp
        have hbody : (pth (us ++ [z])).cps.toList = 47 :: body us := by rw [pth_list, jn_snoc, e0, List.append_nil]
        obtain ⟨A, hA⟩ : ∃ A, 47 :: body us = A ++ [47] := by
          cases us with
          | nil => exact ⟨[], rfl⟩
          | cons u us =>
            obtain ⟨vs, v, e⟩ : ∃ vs v, u :: us = vs ++ [v] := ⟨(u :: us).dropLast, (u :: us).getLast (List.cons_ne_nil _ _), (List.dropLast_concat_getLast _).symm⟩
            rw [e]
            exact ⟨47 :: (body vs ++ v.cps.toList), by simp [body]⟩
        have hs : (Txt.slice (pth (us ++ [z])) (some (-1)) none != Str.ofString "/") = false := by
          rw [slice_last _ A 47 (hbody.trans hA), slash_is]; exact bne_self_eq_false _
        rw [hs, if_neg Bool.false_ne_true, hup]
        have hb := starts_body us K2 (fun y hy => f1 y (List.mem_append_left _ hy)) n2 f2
        rw [← Bool.decide_and]
        rw [Bool.eq_iff_iff, starts_iff, decide_eq_true_iff, hbody, pth_list]
        constructor
        · rintro ⟨t, e⟩
          rw [List.cons_append] at e
          injection e with _ e
          exact hb.mp ⟨t, e⟩
        · intro h
          obtain ⟨t, e⟩ := hb.mpr h
          exact ⟨t, by rw [e]; rfl⟩
      · have hup : upOf (us ++ [z]) = us ++ [z] := by
          unfold upOf
          rw [hget, if_neg (by simpa using hz)]
        obtain ⟨B, c, hBc⟩ : ∃ B c, z.cps.toList = B ++ [c] := by
          cases hq : z.cps.toList with
          | nil => exact absurd (str_ext (by rw [hq]; rfl)) hz
          | cons x xs => exact ⟨(x :: xs).dropLast, (x :: xs).getLast (List.cons_ne_nil _ _), (List.dropLast_concat_getLast _).symm⟩
        have hc : c ≠ 47 := fun e => f1 z (List.mem_append_right _ List.mem_cons_self) (by rw [hBc, e]; simp)
        have hlist : (pth (us ++ [z])).cps.toList = (47 :: (body us ++ B)) ++ [c] := by rw [pth_list, jn_snoc, hBc]; simp
        have hs : (Txt.slice (pth (us ++ [z])) (some (-1)) none != Str.ofString "/") = true := by
          rw [slice_last _ _ c hlist, slash_is]
          simp [bne_iff_ne, hc]
        have hbody : (pth (us ++ [z]) ++ Str.ofString "/").cps.toList = 47 :: body (us ++ [z]) := by
          rw [Str.cps_append, Array.toList_append, pth_list, jn_snoc, slash_is]
          simp [body]
        rw [hs, if_pos rfl, hup]
        have hb := starts_body (us ++ [z]) K2 f1 n2 f2
        rw [← Bool.decide_and]
        rw [Bool.eq_iff_iff, starts_iff, decide_eq_true_iff, hbody, pth_list]
        constructor
        · rintro ⟨t, e⟩
          rw [List.cons_append] at e
          injection e with _ e
          exact hb.mp ⟨t, e⟩
        · intro h
          obtain ⟨t, e⟩ := hb.mpr h
          exact ⟨t, by rw [e]; rfl⟩
  · have hne : (h1 != h2) = true := by simpa using a
    rw [decide_eq_false a, Bool.false_and, if_neg Bool.false_ne_true, if_pos hne, Bool.false_and]
theorem pair_true {host b : Str} {qs : List Str} {host' b' : Str} {qs' : List Str} (g : Good host qs b) (g' : Good host' qs' b') :
    pairOf host (pathQ qs b) host' (pathQ qs' b') (keptQ qs b) (keptQ qs' b') (flatQ qs b) (flatQ qs' b') (thQ qs b) (thQ qs' b') = true := by
  have a := sub_law (h1 := host) (h2 := host') (kept_ne g) (kept_ne g') (fun z hz => (keys_free z (kept_keys g z hz)).2) (fun z hz => (keys_free z (kept_keys g' z hz)).2)
  have b1 := lexL_flat _ _ (th_ths g) (th_ths g')
  have c1 := begin_flat _ _ (th_ths g) (th_ths g')
  unfold pairOf
  rw [show pathQ qs b = pth (keptQ qs b) from rfl, show pathQ qs' b' = pth (keptQ qs' b') from rfl, a, bne_self_eq_false, if_neg Bool.false_ne_true]
  rw [show flatQ qs b = (thQ qs b).flatMap openT from rfl, show flatQ qs' b' = (thQ qs' b').flatMap openT from rfl, b1, bne_self_eq_false, if_neg Bool.false_ne_true, c1]
  exact beq_self_eq_true _
end Mine
end

section
open PySem PySem.W PyProof.Rows PySem.Calls
set_option maxRecDepth 100000
set_option maxHeartbeats 8000000
namespace Mine
theorem call_fullC {prog : Program} {w : World} {A : Around} {R : Result → Shared → Prop} {s : Shared} {name : Str} {params : Arguments} {body : List Stmt} {scope : Scope}
    {dV kV pm cd doc : Value} {a : Addr} {o : Obj} {args : Args} {binds : List (Str × Value)}
    (hroom : A.depth < recursionLimit) (ho : s.heap.get? a = some o) (hdata : o.data = .func { docDef name params body scope pm cd doc with defaults := dV, kwdefaults := kV }) (hlim : s.heap.NoLimit) (hcd : s.heap.CodeRec cd name)
    (hbind : BindsTo s { docDef name params body scope pm cd doc with defaults := dV, kwdefaults := kV } args binds)
    (hloc : ∀ x ∈ binds, scope.names.lookup x.1 = some .local)
    (h : ∀ h₁, Fr s.heap s.heap.objs.size h₁ (fun x => binds.reverse.lookup x) →
      wpC (model prog w) (A.deeper (envOf name scope s.heap.objs.size a cd)) (execs body (envOf name scope s.heap.objs.size a cd))
        (fun f s' => R (.ok (.ret (match f with | .ret v => v | _ => .none))) s') (fun _ _ => False)
        { s with heap := h₁, toks := s.toks + binds.length })
    (hco : scope.isCoroutine = false := by rfl) (hgen : scope.isGenerator = false := by rfl) (hk : scope.kind = .function := by rfl)
    (hcell : ∀ x ∈ scope.names, x.2 ≠ .cell := by decide) :
    codeC (model prog w) A (.call (.ref a) args) R s :=
  codeC_call_def hroom ho hdata hlim hcd rfl hbind hcell hloc (fun h₁ hns hkeep => h h₁ ⟨hns, hkeep, Nat.le_refl _⟩) hco hgen hk
theorem IntsV.of {vs : List Value} {ns : List Int} (h : IntsAre vs ns) : IntsV vs ns := by
  induction h with
  | nil => exact .nil
  | cons n t _ ih => exact .cons n t ih
theorem IntsV.take {vs : List Value} {ns : List Int} (h : IntsV vs ns) : ∀ k, IntsV (vs.take k) (ns.take k) := by
  induction h with
  | nil => intro k; cases k <;> exact .nil
  | cons n t _ ih => intro k; cases k with
    | zero => exact .nil
    | succ k => exact .cons n t (ih k)
theorem four {b0 h : Heap} {L D l' : Addr} {m : Str → Option Value} {ws : List Value} {ns : List Int} {rest : List (Addr × Obj)} {t1 t2 t3 t4 : Tok} (F : Fr b0 L h m)
    (N : News b0 L h ((D, listObj ws.toArray 0) :: (l', listObj #[.int 249 t1, .int 328251 t2, .int 1280004 t3, .int 4 t4] 0) :: rest)) (hI : IntsAre ws (ns.take 4)) :
    Fr b0 L (h.push (listObj (#[.int 249 t1, .int 328251 t2, .int 1280004 t3, .int 4 t4] ++ ws.toArray) 0)) m ∧ News b0 L (h.push (listObj (#[.int 249 t1, .int 328251 t2, .int 1280004 t3, .int 4 t4] ++ ws.toArray) 0)) rest ∧
      (∀ p ∈ rest, h.objs.size ≠ p.1) ∧ h.objs.size ≠ L ∧ ∃ zs, (h.push (listObj (#[.int 249 t1, .int 328251 t2, .int 1280004 t3, .int 4 t4] ++ ws.toArray) 0)).IsList h.objs.size zs.toArray ∧ zs.length ≤ 8 ∧ IntsV zs ([249, 328251, 1280004, 4] ++ ns.take 4) := by
  have hz4 : (List.take 4 ns).length ≤ 4 := by rw [List.length_take]; exact Nat.min_le_left _ _
  have hw4 := hI.length
  refine ⟨F.push _, fun p hp => ?_, fun p hp => ?_, Nat.ne_of_gt F.ns.lt, [.int 249 t1, .int 328251 t2, .int 1280004 t3, .int 4 t4] ++ ws, ⟨_, Heap.get?_push_size _ rfl, rfl, 0, by simp⟩, by simp; omega, .cons _ _ (.cons _ _ (.cons _ _ (.cons _ _ (IntsV.of hI))))⟩
  · have q := N p (List.mem_cons_of_mem _ (List.mem_cons_of_mem _ hp))
    exact ⟨Heap.get?_push_of_some _ q.1, q.2⟩
  · have q := N p (List.mem_cons_of_mem _ (List.mem_cons_of_mem _ hp))
    exact Nat.ne_of_gt (Heap.lt_size q.1)
theorem row_open3 {S : Addr → Prop} {h : Heap} {R : Addr} {host b : Str} {qs : List Str} (rd : Rd S h (.ref R) (rowData host qs b)) : ∃ u1 u2 u3 K D c2 ks ck, h.get? R = some (tupO #[.str host u1, .str (verQ qs) u2, .str b u3, .ref K, .ref D] c2) ∧ h.get? K = some (listObj ks ck) ∧ StrsAre ks.toList (keptQ qs b) := by
  rw [rowData_is] at rd
  unfold rowD at rd
  cases rd with
  | @tuple R ws c2 _ er mr rr =>
  obtain ⟨ws⟩ := ws
  cases rr with | cons a1 rr =>
  cases rr with | cons a2 rr =>
  cases rr with | cons a3 rr =>
  cases rr with | cons a4 rr =>
  cases rr with | cons a5 rr =>
  cases rr
  cases a1 with | str _ u1 =>
  cases a2 with | str _ u2 =>
  cases a3 with | str _ u3 =>
  cases a4 with
  | @list K ks ck _ ek mk rk =>
  cases a5 with
  | @list D ds cd _ ed md rd =>
  exact ⟨u1, u2, u3, K, D, c2, ks, ck, er, ek, rk.strs⟩
theorem row_open {S : Addr → Prop} {h : Heap} {R : Addr} {host b : Str} {qs : List Str} (rd : Rd S h (.ref R) (rowData host qs b)) : ∃ u1 u2 u3 K D c2, h.get? R = some (tupO #[.str host u1, .str (verQ qs) u2, .str b u3, .ref K, .ref D] c2) :=
  let ⟨u1, u2, u3, K, D, c2, _, _, e, _⟩ := row_open3 rd
  ⟨u1, u2, u3, K, D, c2, e⟩
theorem flat_rd {S : Addr → Prop} {h : Heap} {vs : List Value} {ds : List PyData} (f : Flat vs ds) : RdA S h vs ds := by
  induction f with
  | nil => exact .nil
  | int n t _ ih => exact .cons (.int n t) ih
  | str x t _ ih => exact .cons (.str x t) ih
theorem News.tail1 {h₀ h : Heap} {L : Addr} {a b c : Addr × Obj} (N : News h₀ L h [a, b, c]) : News h₀ L h [b, c] := fun p hp => N p (List.mem_cons_of_mem _ hp)
inductive Rows (S : Addr → Prop) (h : Heap) : List Value → List (Str × List Str × Str) → Prop
  | nil : Rows S h [] []
  | snoc {vs gs v host qs b} : Rows S h vs gs → Good host qs b → Rd S h v (shelfD host qs b) → Rows S h (vs ++ [v]) (gs ++ [(host, qs, b)])
theorem Rows.keepsQ {S : Addr → Prop} {h h' : Heap} (hk : ∀ b cl vs n, S b → h.get? b = some { cls := cl, data := .seq vs n } → h'.get? b = some { cls := cl, data := .seq vs n }) {vs : List Value} {gs} (r : Rows S h vs gs) : Rows S h' vs gs := by
  induction r with
  | nil => exact .nil
  | snoc _ g rd ih => exact .snoc ih g (Rd.keepsQ hk (fun _ e => e) rd)
theorem Rows.get {S : Addr → Prop} {h : Heap} {vs : List Value} {gs} (r : Rows S h vs gs) : ∀ v ∈ vs, ∃ host qs b, Good host qs b ∧ Rd S h v (shelfD host qs b) := by
  induction r with
  | nil => intro v hv; cases hv
  | snoc _ g rd ih =>
    intro v hv
    rcases List.mem_append.mp hv with hv | hv
    · exact ih v hv
    · rw [List.mem_singleton.mp hv]; exact ⟨_, _, _, g, rd⟩
structure St (L S M MD : Addr) (es : List DictEntry) (n : Nat) (ss : Array Value) (c : Nat) (gs : List (Str × List Str × Str)) (h : Heap) : Prop where
  shelf : h.get? S = some (listObj ss c)
  mgr : h.get? M = some (instObj 105 MD)
  dct : h.get? MD = some (dictOf es n)
  neL : S ≠ L ∧ M ≠ L ∧ MD ≠ L
  neS : M ≠ S ∧ MD ≠ S
  rows : Rows (fun a => a ≠ S ∧ a ≠ L) h ss.toList gs
theorem St.keeps {L S M MD : Addr} {es : List DictEntry} {n : Nat} {ss : Array Value} {c : Nat} {gs} {h h' : Heap} (hk : ∀ b o, b ≠ L → h.get? b = some o → h'.get? b = some o) (x : St L S M MD es n ss c gs h) : St L S M MD es n ss c gs h' :=
  ⟨hk _ _ x.neL.1 x.shelf, hk _ _ x.neL.2.1 x.mgr, hk _ _ x.neL.2.2 x.dct, x.neL, x.neS, x.rows.keepsQ fun b _ _ _ hb e => hk _ _ hb.2 e⟩
theorem St.keepD {L S M MD k : Addr} {es : List DictEntry} {n : Nat} {ss : Array Value} {c : Nat} {gs} {h h' : Heap} (hk : KeepD L k h h') (hM : M < k) (hD : MD < k) (x : St L S M MD es n ss c gs h) : St L S M MD es n ss c gs h' :=
  ⟨hk _ _ x.shelf (.inr ⟨_, _, rfl⟩), hk _ _ x.mgr (.inl ⟨hM, x.neL.2.1⟩), hk _ _ x.dct (.inl ⟨hD, x.neL.2.2⟩), x.neL, x.neS, x.rows.keepsQ fun b _ _ _ hb e => hk _ _ e (.inr ⟨_, _, rfl⟩)⟩
abbrev lmap (vx vr vn : Option Value) (S M l : Addr) : Str → Option Value := fun y => if y = Str.ofString "x" then vx else if y = Str.ofString "row" then vr else if y = Str.ofString "norm" then vn else if y = Str.ofString "shelf" then some (.ref S) else if y = Str.ofString "manager" then some (.ref M) else List.lookup y [(Str.ofString "script", Value.ref l)].reverse
theorem lmap_start (S M l : Addr) (y : Str) : (if y = Str.ofString "shelf" then some (Value.ref S) else if y = Str.ofString "manager" then some (.ref M) else List.lookup y [(Str.ofString "script", Value.ref l)].reverse) = lmap none none none S M l y := by
  by_cases h1 : y = Str.ofString "x"
  · subst h1; rfl
  by_cases h2 : y = Str.ofString "row"
  · subst h2; rfl
  by_cases h3 : y = Str.ofString "norm"
  · subst h3; rfl
  simp only [lmap, if_neg h1, if_neg h2, if_neg h3]
theorem lmap_x (vx vr vn : Option Value) (S M l : Addr) (v : Value) (y : Str) : (if y = Str.ofString "x" then some v else lmap vx vr vn S M l y) = lmap (some v) vr vn S M l y := by
  by_cases h1 : y = Str.ofString "x"
  · simp only [lmap, if_pos h1]
  · simp only [lmap, if_neg h1]
theorem lmap_row (vx vr vn : Option Value) (S M l : Addr) (v : Value) (y : Str) : (if y = Str.ofString "row" then some v else lmap vx vr vn S M l y) = lmap vx (some v) vn S M l y := by
  by_cases h1 : y = Str.ofString "x"
  · subst h1; rfl
  by_cases h2 : y = Str.ofString "row"
  · simp only [lmap, if_neg h1, if_pos h2]
  · simp only [lmap, if_neg h1, if_neg h2]
theorem lmap_norm (vx vr vn : Option Value) (S M l : Addr) (v : Value) (y : Str) : (if y = Str.ofString "norm" then some v else lmap vx vr vn S M l y) = lmap vx vr (some v) S M l y := by
  by_cases h1 : y = Str.ofString "x"
  · subst h1; rfl
  by_cases h2 : y = Str.ofString "row"
  · subst h2; rfl
  by_cases h3 : y = Str.ofString "norm"
  · simp only [lmap, if_neg h1, if_neg h2, if_pos h3]
  · simp only [lmap, if_neg h1, if_neg h2, if_neg h3]
abbrev lmap2 (vo vt vx vr vn : Option Value) (S M l : Addr) : Str → Option Value := fun y => if y = Str.ofString "one" then vo else if y = Str.ofString "other" then vt else lmap vx vr vn S M l y
theorem lmap2_start (vx vr vn : Option Value) (S M l : Addr) (y : Str) : lmap vx vr vn S M l y = lmap2 none none vx vr vn S M l y := by
  by_cases h1 : y = Str.ofString "one"
  · subst h1; rfl
  by_cases h2 : y = Str.ofString "other"
  · subst h2; rfl
  simp only [lmap2, if_neg h1, if_neg h2]
theorem lmap2_one (vo vt vx vr vn : Option Value) (S M l : Addr) (v : Value) (y : Str) : (if y = Str.ofString "one" then some v else lmap2 vo vt vx vr vn S M l y) = lmap2 (some v) vt vx vr vn S M l y := by
  by_cases h1 : y = Str.ofString "one"
  · simp only [lmap2, if_pos h1]
  · simp only [lmap2, if_neg h1]
theorem lmap2_other (vo vt vx vr vn : Option Value) (S M l : Addr) (v : Value) (y : Str) : (if y = Str.ofString "other" then some v else lmap2 vo vt vx vr vn S M l y) = lmap2 vo (some v) vx vr vn S M l y := by
  by_cases h1 : y = Str.ofString "one"
  · subst h1; rfl
  by_cases h2 : y = Str.ofString "other"
  · simp only [lmap2, if_neg h1, if_pos h2]
  · simp only [lmap2, if_neg h1, if_neg h2]
end Mine
end

section
open PySem PySem.W PyProof.Rows PySem.Calls
set_option maxRecDepth 100000
set_option maxHeartbeats 8000000
namespace Mine
local macro_rules | `(tactic| walk_at "subscriptTail") => `(tactic| (k_here; refine Box.out ?_))
local macro_rules | `(tactic| walk_at "binaryOp Add ref ref") => `(tactic| (k_here; refine Box.out ?_))
local macro_rules | `(tactic| walk_at "binaryOp Add str str") => `(tactic| (k_here; (with_reducible show wpAny _ _ (binaryOp _ _ (Value.str (Txt.replace _ _ _) _)) _ _ _); refine Box.out ?_))
local macro_rules | `(tactic| walk_at "pyIter ref") => `(tactic| (k_here; refine Box.out ?_))
local macro_rules | `(tactic| walk_at "call ref") => `(tactic| (k_here; (with_reducible show wpAny _ _ (PySem.call (Value.ref 128) _) _ _ _); refine Box.out ?_))
local macro_rules | `(tactic| walk_at "call ref") => `(tactic| (k_here; (with_reducible show wpAny _ _ (PySem.call (Value.ref 142) _) _ _ _); refine Box.out ?_))
local macro_rules | `(tactic| walk_at "call builtin:str.join") => `(tactic| (k_here; refine Box.out ?_))
theorem the_law : PySem.Challenge.rw_mj0124_01.Holds := by
  refine hd ?_
  (w_top off; k_fill)
  intro w s₀ s₁ mg mb G Y fa o pm cd doc dV kV ho hdd hcd hD hmg hg args vals as hpre hlay hrd hwl hlo
  have KX := kIn_of Y
  have X := (Ground.X G).1
  have V := (Ground.X G).2
  refine Ground.open G ?_
  intro T B D TE TW
  try (refine guard_noD D (by decide +kernel) ?_; clear D)
  clear hmg
  wrow_args hpre hlay hrd hwl hlo
  have he := Dflts.none hD rfl; subst he
  rename_i ns _ _ _ _ _ _ _ l vs _ hl _ _ _ hI _ hn _
  refine wpC_call ?_
  refine codeC_mono (R := fun r s' => Box (r = .ok (.ret (.bool true)) ∧ ∃ h tk m, s' = { s₁ with heap := h, toks := tk } ∧ Fr s₁.heap s₁.heap.objs.size h m)) ?_ ?_
  rotate_left
  · rintro r s' ⟨rfl, h, tk, m, rfl, F⟩
    dsimp only
    refine GoodW.toG ?_
    clear G Y ho hcd X V B TE TW hdd hD
    have N : News s₁.heap s₁.heap.objs.size h [] := News.nil
    k_steps
  refine call_fullC (binds := [(Str.ofString "script", .ref l)]) (by decide) ho hdd (Top.nolimit T) hcd (BindsTo.of_eq rfl) (locs rfl) fun h₁ F₁ => ?_
  clear G Y ho hcd hdd hD X V TE TW
  replace B := Box.mk B
  dsimp only at F₁ ⊢
  change wpC _ (Ar (callerA.depth + 1) 7 (some []) [envOf _ _ _ _ _]) _ _ _ _
  have hdp : callerA.depth + 1 + 60 < recursionLimit := by decide
  generalize callerA.depth + 1 = dp at hdp ⊢
  have hun : 7 + 300 < cLine := by decide
  generalize 7 = un at hun ⊢
  have N₁ : News s₁.heap s₁.heap.objs.size h₁ [] := News.nil
  have K0 : Below callerA s₁.heap [] s₁.heap := below_caller s₁.heap
  generalize hLe : s₁.heap.objs.size = L at F₁ N₁ ⊢
  refine wpC_execs_cons (wpC_mono (Q := fun f s' => Box (f = .next ∧ ∃ h tk M MD es n, s' = { s₁ with heap := h, toks := tk } ∧ Fr s₁.heap L h (fun y => if y = Str.ofString "manager" then some (.ref M) else List.lookup y [(Str.ofString "script", Value.ref l)].reverse) ∧ News s₁.heap L h [(M, instObj 105 MD), (MD, dictOf es n)] ∧ getL (Str.ofString "is_suburi") es = some none)) (E := fun _ _ => False) (wpC_of ?_) ?_ fun _ _ x => x)
  · k_steps
    rename Fr _ _ _ _ => F₂
    rename News _ _ _ _ => N₂
    exact ⟨(by first | rfl | trivial), _, _, _, _, _, _, rfl, F₂, News.tail1 N₂, rfl⟩
  rintro f s' ⟨rfl, h₂, tk₂, M, MD, es, n, rfl, F₂, N₂, hes⟩
  dsimp only
  clear F₁ N₁
  refine wpC_execs_cons (wpC_mono (Q := fun f s' => Box (f = .next ∧ ∃ h tk S, s' = { s₁ with heap := h, toks := tk } ∧ Fr s₁.heap L h (lmap none none none S M l) ∧ News s₁.heap L h [(S, listObj #[] 0), (M, instObj 105 MD), (MD, dictOf es n)])) (E := fun _ _ => False) (wpC_of ?_) ?_ fun _ _ x => x)
  · k_steps
    rename Fr _ _ _ _ => F₃
    rename News _ _ _ _ => N₃
    exact ⟨(by first | rfl | trivial), _, _, _, rfl, Fr_ext' F₃ (lmap_start _ _ l), N₃⟩
  rintro f s' ⟨rfl, h₃, tk₃, S, rfl, F₃, N₃⟩
  dsimp only
  clear F₂ N₂
  refine wpC_execs_cons (wpC_For ?_)
  refine wpAny_mono (Q := fun x s' => Box (∃ h tk lx zs, x = .ref lx ∧ s' = { s₁ with heap := h, toks := tk } ∧ Fr s₁.heap L h (lmap none none none S M l) ∧ News s₁.heap L h [(S, listObj #[] 0), (M, instObj 105 MD), (MD, dictOf es n)] ∧ h.IsList lx zs.toArray ∧ lx ≠ S ∧ lx ≠ L ∧ zs.length ≤ 8 ∧ IntsV zs ([249, 328251, 1280004, 4] ++ ns.take 4))) (E := fun _ _ => False) ?_ ?_ ?_
  rotate_left 2
  · intro _ _ e; exact e.elim
  · k_steps
    rename Fr _ _ _ _ => F₄
    rename News _ _ _ _ => N₄
    rename IntsAre _ (List.take 4 ns) => hI4
    refine ⟨?_⟩
    have hz4 : (List.take 4 ns).length ≤ 4 := by rw [List.length_take]; exact Nat.min_le_left _ _
    have hw4 := hI4.length
    obtain ⟨a1, a2, a3, a4, zs, a5, a6, a7⟩ := four F₄ N₄ hI4
    refine add1 (N₄ _ (List.mem_cons_of_mem _ List.mem_cons_self)).1 (N₄ _ List.mem_cons_self).1 (by simp; omega) ?_
    exact ⟨_, _, _, zs, rfl, rfl, a1, a2, a5, a3 _ List.mem_cons_self, a4, a6, a7⟩
  rintro x s' ⟨h₄, tk₄, lx, zs, rfl, rfl, F₄, N₄, hlx, hxS, hxL, hzl, hzs⟩
  clear F₃ N₃
  have qS := N₄ _ List.mem_cons_self
  have qM := N₄ _ (List.mem_cons_of_mem _ List.mem_cons_self)
  have qD := N₄ _ (List.mem_cons_of_mem _ (List.mem_cons_of_mem _ List.mem_cons_self))
  dsimp only at qS qM qD
  have neM : M ≠ S := fun e => by rw [e, qS.1] at qM; cases qM.1
  have neD : MD ≠ S := fun e => by
    rw [e, qS.1] at qD
    have h3 := congrArg Obj.cls (Option.some.inj qD.1)
    injection h3 with h4
    exact absurd h4 (by decide)
  have st₄ : St L S M MD es n #[] 0 [] h₄ := ⟨qS.1, qM.1, qD.1, ⟨qS.2.1, qM.2.1, qD.2.1⟩, ⟨neM, neD⟩, .nil⟩
  have ltM := Heap.lt_size qM.1
  have ltD := Heap.lt_size qD.1
  have ltS := Heap.lt_size qS.1
  have nbS : s₁.heap.get? S = none := qS.2.2
  clear N₄ qS qM qD
  have lxLt : lx < h₄.objs.size := by obtain ⟨o, ho, _⟩ := hlx; exact Heap.lt_size ho
  have LLt : L < h₄.objs.size := F₄.ns.lt
  refine for_listF (J := fun i m h => Box (∃ vx vr vn ss c gs, m = lmap vx vr vn S M l ∧ St L S M MD es n ss c gs h ∧ ss.size = i)) (hb := s₁.heap) (vs := zs) rfl rfl rfl hlx F₄ ⟨_, _, _, #[], 0, [], rfl, st₄, rfl⟩ ?_ ?_ ?_
  · rintro i m h h' ⟨vx, vr, vn, ss, c, gs, e, st, r⟩ hk
    exact ⟨vx, vr, vn, ss, c, gs, e, st.keepD hk ltM ltD, r⟩
  · --S1
    rintro i v m h tk hv ⟨vx, vr, vn, ss, c, gs, rfl, st, hsz⟩ hli hit F₅
    obtain ⟨k, tv, rfl, hk⟩ := hzs.get hv
    replace F₅ := Fr_ext' F₅ (lmap_x vx vr vn S M l _)
    have hi : i < 8 := Nat.lt_of_lt_of_le (List.getElem?_eq_some_iff.mp hv).1 hzl
    clear F₄ st₄ hk hv hlx
    have N₅ : News s₁.heap L h [] := News.nil
    refine wpC_execs_cons (wpC_mono (Q := fun f s' => Box (f = .next ∧ ∃ R host qs b h' tk', s' = { s₁ with heap := h', toks := tk' } ∧ Fr s₁.heap L h' (lmap (some (.int k tv)) (some (.ref R)) vn S M l) ∧ (∀ a o, a ≠ L → h.get? a = some o → h'.get? a = some o) ∧ Good host qs b ∧ Rd (fun a => a ≠ S ∧ a ≠ L) h' (.ref R) (rowData host qs b))) (E := fun _ _ => False) (wpC_of ?_) ?_ fun _ _ x => x)
    · k_steps
      refine ⟨?_⟩
      refine C_row (KX.keeps F₅.keep) (T.keeps F₅.keep) (by omega) (by omega) ?_
      intro R host qs b h₆ tk₆ up hhost hq20 hq4 hb hrd
      have F₆ := F₅.keeps up
      have hLs : ∃ o, h.get? L = some o := by obtain ⟨o, _, _, ho, _⟩ := F₅.ns; exact ⟨o, ho⟩
      dsimp only
      refine wpAny_storeName_local rfl F₆.ns (fun h₇ hn₇ hs₇ => ?_) rfl
      have F₇ := F₆.set hn₇ hs₇
      have hSs := st.shelf
      refine ⟨by first | rfl | trivial, R, host, qs, b, h₇, _, rfl, Fr_ext' F₇ (lmap_row _ vr vn S M l _), fun a o ha e => (hs₇.2 a ha).trans (up a o e), ⟨hhost, hq20, hq4, hb⟩, ?_⟩
      have nL : ∀ a, h.get? a = none → a ≠ L := fun a ha e => by obtain ⟨o, ho⟩ := hLs; rw [e, ho] at ha; cases ha
      have nS : ∀ a, h.get? a = none → a ≠ S := fun a ha e => by rw [e, hSs] at ha; cases ha
      exact Rd.keeps (fun a o ha e => (hs₇.2 a (nL a ha)).trans e) (fun a ha => ⟨nS a ha, nL a ha⟩) hrd
    rintro f s' ⟨rfl, R, host, qs, b, h₆, tk₆, rfl, F₆, up₆, good, rd⟩
    dsimp only
    have st₆ := st.keeps up₆
    refine wpC_execs_cons (wpC_mono (Q := fun f s' => Box (f = .next ∧ ∃ u h' tk', s' = { s₁ with heap := h', toks := tk' } ∧ Fr s₁.heap L h' (lmap (some (.int k tv)) (some (.ref R)) (some (.str (normQ qs b) u)) S M l) ∧ (∀ a o, a ≠ L → h.get? a = some o → h'.get? a = some o) ∧ Rd (fun a => a ≠ S ∧ a ≠ L) h' (.ref R) (rowData host qs b))) (E := fun _ _ => False) (wpC_Assign_Name (wpC_Call_Name ?_)) ?_ fun _ _ x => x)
    · have N₆ : News s₁.heap L h₆ [] := News.nil
      k_steps
      refine callWithC_K (K := hd.heap_39 w.params) (by k_is) ?_
      obtain ⟨u1, u2, u3, K, D, c2, eR⟩ : ∃ u1 u2 u3 K D c2, h₆.get? R = some (tupO #[.str host u1, .str (verQ qs) u2, .str b u3, .ref K, .ref D] c2) := row_open rd
      have i1 : IsTup h₆ R #[.str host u1, .str (verQ qs) u2, .str b u3, .ref K, .ref D] := ⟨_, eR, rfl, _, rfl⟩
      refine splicedC_cons (wpC_of ?_)
      rw [if_neg Bool.false_ne_true]
      k_steps
      refine ⟨?_⟩
      refine item_tuple (x := .str (verQ qs) u2) i1 (by decide) (by decide) rfl rfl ?_ (by with_unfolding_all rfl) (by intro _; with_unfolding_all rfl)
      dsimp only
      refine splicedC_cons (wpC_of ?_)
      rw [if_neg Bool.false_ne_true]
      k_steps
      refine ⟨?_⟩
      refine item_tuple (x := .str b u3) i1 (by decide) (by decide) rfl rfl ?_ (by with_unfolding_all rfl) (by intro _; with_unfolding_all rfl)
      dsimp only
      refine splicedC_nil ⟨KX.keeps F₆.keep, ?_⟩
      refine C_norm F₆ KX T (by omega) (by omega) rfl (ver_short good) (build_short good) (norm_texts good) (norm_few good) ?_ ?_
      · rw [norm_is good]; exact kept_join good
      rw [norm_is good]
      intro u h₇ tk₇ kx
      dsimp only
      have F₇ := kx.fr F₆
      refine wpAny_storeName_local rfl F₇.ns (fun h₈ hn₈ hs₈ => ?_) rfl
      have F₈ := F₇.set hn₈ hs₈
      have up : ∀ a o, a ≠ L → h₆.get? a = some o → h₈.get? a = some o := fun a o ha e => (hs₈.2 a ha).trans (kx.keep a o ha e)
      exact ⟨rfl, u, h₈, _, rfl, Fr_ext' F₈ (lmap_norm _ _ vn S M l _), fun a o ha e => up a o ha (up₆ a o ha e), Rd.keeps (fun a o ha e => up a o ha.2 e) (fun _ e => e) rd⟩
    rintro f s' ⟨rfl, u, h₇, tk₇, rfl, F₇, up₇, rd₇⟩
    dsimp only
    have st₇ := st.keeps up₇
    clear F₆ up₆ rd st₆
    refine wpC_execs_cons (wpC_mono (Q := fun f s' => Box (f = .next ∧ ∃ h' tk', s' = { s₁ with heap := h', toks := tk' } ∧ Fr s₁.heap L h' (lmap (some (.int k tv)) (some (.ref R)) (some (.str (normQ qs b) u)) S M l) ∧ (∀ a o, a ≠ L → h₇.get? a = some o → h'.get? a = some o))) (E := fun _ _ => False) (wpC_of ?_) ?_ fun _ _ x => x)
    · have N₇ : News s₁.heap L h₇ [] := News.nil
      obtain ⟨u1, u2, u3, K, D, c2, ks, ck, eR, eK, sK⟩ := row_open3 rd₇
      have i1 : IsTup h₇ R #[.str host u1, .str (verQ qs) u2, .str b u3, .ref K, .ref D] := ⟨_, eR, rfl, _, rfl⟩
      have hnl := norm_short good
      k_steps
      refine ⟨?_⟩
      refine item_tuple (x := .ref K) i1 (by decide) (by decide) rfl rfl ?_ (by with_unfolding_all rfl) (by intro _; with_unfolding_all rfl)
      dsimp only
      k_steps
      refine ⟨?_⟩
      refine join_list ⟨_, eK, rfl, _, rfl⟩ sK (kept_join good) fun t₇ k₇ => ?_
      rw [show Txt.join (Str.ofString ".") (keptQ qs b) = normQ qs b from rfl]
      k_steps
      · rename (normQ qs b != normQ qs b) = true => hne
        rw [bne_self_eq_false] at hne
        cases hne
      · rename Fr _ _ _ _ => F₉
        exact ⟨by first | rfl | trivial, h₇, _, rfl, F₉, fun _ _ _ e => e⟩
    rintro f s' ⟨rfl, h₈, tk₈, rfl, F₈, up₈⟩
    dsimp only
    have st₈ := st₇.keeps up₈
    have rd₈ := Rd.keeps (S' := fun a => a ≠ S ∧ a ≠ L) (fun a o ha e => up₈ a o ha.2 e) (fun _ e => e) rd₇
    have N₈ : News s₁.heap L h₈ [] := News.nil
    refine wpC_execs_cons (wpC_Expr (wpC_Call_append rfl rfl rfl rfl ?_))
    refine wpAny_Name (wpAny_loadName_local rfl rfl F₈.ns rfl ?_) rfl
    refine ⟨S, ss, rfl, ⟨_, _, st₈.shelf, rfl, rfl, rfl⟩, ?_⟩
    refine wpC_TupleE (splicedC_cons (wpC_of ?_))
    rw [if_neg Bool.false_ne_true]
    refine wpAny_Name (wpAny_loadName_local rfl rfl F₈.ns rfl ?_) rfl
    refine splicedC_cons ?_
    rw [if_neg Bool.false_ne_true]
    refine wpC_Call_Name ?_
    k_steps
    refine callWithC_K (K := hd.heap_39 w.params) (by k_is) ?_
    refine splicedC_cons (wpC_of ?_)
    rw [if_neg Bool.false_ne_true]
    refine wpAny_Name (wpAny_loadName_local rfl rfl F₈.ns rfl ?_) rfl
    refine splicedC_nil ⟨KX.keeps F₈.keep, ?_⟩
    refine C_comp F₈ KX T (by omega) (by omega) rfl (norm_short good) (comp_kinds good) ?_
    intro V vv cV ds h₉ tk₉ kx hV0 hV hfl hkd
    rw [comp_is good hkd] at hfl
    have F₉ := kx.fr F₈
    have N₉ : News s₁.heap L h₉ [] := News.nil
    have hLs : ∃ o, h₈.get? L = some o := by obtain ⟨o, _, _, ho, _⟩ := F₈.ns; exact ⟨o, ho⟩
    have nL : V ≠ L := fun e => by obtain ⟨o, ho⟩ := hLs; rw [e] at hV0; rw [show h₈.get? L = none from hV0] at ho; cases ho
    have nS : V ≠ S := fun e => by have := st₈.shelf; rw [e] at hV0; rw [show h₈.get? S = none from hV0] at this; cases this
    have st₉ := st₈.keeps kx.keep
    have rd₉ := Rd.keeps (S' := fun a => a ≠ S ∧ a ≠ L) (fun a o ha e => kx.keep a o ha.2 e) (fun _ e => e) rd₈
    have hli₉ : h₉.IsList lx zs.toArray := by obtain ⟨o, ho, r⟩ := hli; exact ⟨o, kx.keep _ _ hxL (up₈ _ _ hxL (up₇ _ _ hxL ho)), r⟩
    have hit₉ : h₉.IsListIter h₄.objs.size lx (i + 1) := by obtain ⟨o, ho, r⟩ := hit; exact ⟨o, kx.keep _ _ (Nat.ne_of_gt LLt) (up₈ _ _ (Nat.ne_of_gt LLt) (up₇ _ _ (Nat.ne_of_gt LLt) ho)), r⟩
    replace hli₉ := Box.mk hli₉
    replace hit₉ := Box.mk hit₉
    clear F₈ N₈ kx st₈ rd₈ st₇ F₇ rd₇ F₅
    refine splicedC_cons (wpC_of ?_)
    rw [if_neg Bool.false_ne_true]
    have hnl := norm_short good
    have hjl := join_short good
    k_steps
    refine ⟨?_⟩
    rw [path_is good]
    k_steps
    refine splicedC_nil ⟨by show 3 ≤ sizeLine; rw [sizeLine_eq]; omega, ?_⟩
    dsimp only
    have hlt : S < h₉.objs.size := Heap.lt_size st₉.shelf
    refine append1 (F₉.push _) (Heap.get?_push_of_some _ st₉.shelf) nbS (by omega) fun h₁₀ c₁₀ F₁₀ hS₁₀ hs₁₀ => ?_
    have up₁₀ : ∀ a o, a ≠ S → h₉.get? a = some o → h₁₀.get? a = some o := fun a o ha e => (hs₁₀.2 a ha).trans (Heap.get?_push_of_some _ e)
    have nO : h₉.objs.size ≠ S := Nat.ne_of_gt hlt
    have nOL : h₉.objs.size ≠ L := Nat.ne_of_gt F₉.ns.lt
    have hO := (hs₁₀.2 h₉.objs.size nO).trans (Heap.get?_push_size _ rfl)
    refine wpC_of (wpAny_execs_nil ⟨_, h₁₀, _, rfl, ⟨_, _, _, ss.push (.ref h₉.objs.size), c₁₀, gs ++ [(host, qs, b)], rfl, ?_, by rw [Array.size_push, hsz]⟩, F₁₀, ?_, ?_⟩)
    · refine ⟨hS₁₀, up₁₀ _ _ st₉.neS.1 st₉.mgr, up₁₀ _ _ st₉.neS.2 st₉.dct, st₉.neL, st₉.neS, ?_⟩
      rw [Array.toList_push]
      refine .snoc (st₉.rows.keepsQ fun a _ _ _ ha e => up₁₀ _ _ ha.1 e) good ?_
      refine .tuple hO ⟨nO, nOL⟩ (.cons ?_ (.cons ?_ (.cons (.str _ _) .nil)))
      · exact Rd.keeps (fun a o ha e => up₁₀ a o ha.1 e) (fun _ e => e) rd₉
      · exact .list (up₁₀ _ _ nS hV) ⟨nS, nL⟩ (flat_rd hfl)
    · obtain ⟨o, ho, r⟩ := hli₉.out
      exact ⟨o, up₁₀ _ _ hxS ho, r⟩
    · obtain ⟨o, ho, r⟩ := hit₉.out
      exact ⟨o, up₁₀ _ _ (Nat.ne_of_gt ltS) ho, r⟩
    --END
  · rintro m h tk ⟨vx, vr, vn, ss, c, gs, rfl, st, hsz⟩ F₅
    dsimp only
    have N₅ : News s₁.heap L h [] := News.nil
    replace F₅ := Fr_ext' F₅ (lmap2_start vx vr vn S M l)
    clear F₄ hlx st₄ hxS hxL hzs lxLt
    have hss : ss.size ≤ 8 := by omega
    have ltM' := Heap.lt_size st.mgr
    have ltD' := Heap.lt_size st.dct
    have ltS' := Heap.lt_size st.shelf
    have LLt' : L < h.objs.size := F₅.ns.lt
    refine wpC_execs_cons (wpC_For ?_)
    refine wpAny_Name (wpAny_loadName_local rfl rfl F₅.ns rfl ?_) rfl
    refine for_listF (J := fun i m h => Box (∃ vo vt, m = lmap2 vo vt vx vr vn S M l ∧ St L S M MD es n ss c gs h)) (hb := s₁.heap) (vs := ss.toList) rfl rfl rfl ⟨_, st.shelf, rfl, _, rfl⟩ F₅ ⟨_, _, rfl, st⟩ ?_ ?_ ?_
    · rintro i m h' h'' ⟨vo, vt, e, st⟩ hk
      exact ⟨vo, vt, e, st.keepD hk ltM' ltD'⟩
    · rintro i v m h₆ tk₆ hv ⟨vo, vt, rfl, st₆⟩ hli hit F₆
      replace F₆ := Fr_ext' F₆ (lmap2_one vo vt vx vr vn S M l _)
      obtain ⟨host, qs, b, good, rdv⟩ := st₆.rows.get v (List.mem_of_getElem? hv)
      obtain ⟨o1, rfl⟩ : ∃ o1, v = .ref o1 := by cases rdv; exact ⟨_, rfl⟩
      clear F₅ N₅ hv
      have ltM₆ := Heap.lt_size st₆.mgr
      have ltD₆ := Heap.lt_size st₆.dct
      have it₆ : h.objs.size < h₆.objs.size := by obtain ⟨o, ho, _⟩ := hit; exact Heap.lt_size ho
      refine wpC_execs_cons (wpC_For ?_)
      refine wpAny_Name (wpAny_loadName_local rfl rfl F₆.ns rfl ?_) rfl
      refine for_listF (J := fun j m h' => Box (∃ vt, m = lmap2 (some (.ref o1)) vt vx vr vn S M l ∧ St L S M MD es n ss c gs h' ∧ h'.IsListIter h.objs.size S (i + 1) ∧ Rd (fun a => a ≠ S ∧ a ≠ L) h' (.ref o1) (shelfD host qs b))) (hb := s₁.heap) (vs := ss.toList) rfl rfl rfl ⟨_, st₆.shelf, rfl, _, rfl⟩ F₆ ⟨_, rfl, st₆, hit, rdv⟩ ?_ ?_ ?_
      · rintro j m h₇ h₈ ⟨vt, e, st₇, it₇, rd₇⟩ hk
        refine ⟨vt, e, st₇.keepD hk ltM₆ ltD₆, ?_, Rd.keepsQ (fun a _ _ _ _ e => hk _ _ e (.inr ⟨_, _, rfl⟩)) (fun _ e => e) rd₇⟩
        obtain ⟨o, ho, r⟩ := it₇
        exact ⟨o, hk _ _ ho (.inl ⟨it₆, Nat.ne_of_gt LLt'⟩), r⟩
      · --S2
        rintro j v m h₇ tk₇ hv ⟨vt, rfl, st₇, it₇, rd₇⟩ hlj hjt F₇
        replace F₇ := Fr_ext' F₇ (lmap2_other _ vt vx vr vn S M l _)
        obtain ⟨host', qs', b', good', rdw⟩ := st₇.rows.get v (List.mem_of_getElem? hv)
        obtain ⟨o2, rfl⟩ : ∃ o2, v = .ref o2 := by cases rdw; exact ⟨_, rfl⟩
        clear F₆ hv rdv
        have N₇ : News s₁.heap L h₇ [] := News.nil
        have stB := Box.mk st₇
        have q1 := kept_size good
        have q2 := kept_size good'
        refine wpC_execs_cons (wpC_mono (Q := fun f s' => Box (f = .next ∧ ∃ h' tk', s' = { s₁ with heap := h', toks := tk' } ∧ Fr s₁.heap L h' (lmap2 (some (.ref o1)) (some (.ref o2)) vx vr vn S M l) ∧ (∀ a o, h₇.get? a = some o → h'.get? a = some o))) (E := fun _ _ => False) (wpC_of ?_) ?_ fun _ _ x => x)
        · clear st st₆ st₇ hli hit hlj hjt it₇
          k_steps
          refine ⟨?_⟩
          obtain ⟨z1, g1, m1⟩ := flat_ok good
          obtain ⟨z2, g2, m2⟩ := flat_ok good'
          obtain ⟨z3, g3, m3, w3⟩ := th_ok good
          obtain ⟨z4, g4, m4, w4⟩ := th_ok good'
          obtain ⟨w1, w2⟩ := lex_ok good good'
          refine C_pair (KX.keeps F₇.keep) (T.keeps F₇.keep) (by omega) (by omega) ⟨q1.2, q1.1⟩ ⟨q2.2, q2.1⟩ (fun z hz => Nat.lt_of_le_of_lt (kept_short good z hz) (by decide)) (kept_ok good) (kept_ok good')
            (host_short good).2 (path_short good).2 (host_short good').2 (path_short good').2 (host_short good).1 (path_short good).1 (host_short good').1 (path_short good').1
            z1 z2 z3 z4 g1 g2 g3 g4 w1 w2 w3 w4 m1 m2 m3 m4 stB.out.mgr stB.out.dct hes (Rd.keeps (fun _ _ _ e => e) (fun _ _ => trivial) rd₇) (Rd.keeps (fun _ _ _ e => e) (fun _ _ => trivial) rdw) ?_
          intro h₈ tk₈ up₈
          rw [pair_true good good']
          have F₈ := F₇.keeps up₈
          k_steps
          exact ⟨by first | rfl | trivial, h₈, _, rfl, F₈, up₈⟩
        rintro f s' ⟨rfl, h₈, tk₈, rfl, F₈, up₈⟩
        refine wpC_of (wpAny_execs_nil ⟨_, h₈, _, rfl, ⟨_, rfl, st₇.keeps fun a o _ e => up₈ a o e, ?_, Rd.keeps (fun a o _ e => up₈ a o e) (fun _ e => e) rd₇⟩, F₈, ?_, ?_⟩)
        · obtain ⟨o, ho, r⟩ := it₇
          exact ⟨o, up₈ _ _ ho, r⟩
        · obtain ⟨o, ho, r⟩ := hlj
          exact ⟨o, up₈ _ _ ho, r⟩
        · obtain ⟨o, ho, r⟩ := hjt
          exact ⟨o, up₈ _ _ ho, r⟩
        --END
      · rintro m h₇ tk₇ ⟨vt, rfl, st₇, it₇, rd₇⟩ F₇
        refine wpC_of (wpAny_execs_nil ⟨_, h₇, _, rfl, ⟨_, _, rfl, st₇⟩, F₇, ⟨_, st₇.shelf, rfl, _, rfl⟩, it₇⟩)
    · rintro m h₆ tk₆ ⟨vo, vt, rfl, st₆⟩ F₆
      have N₆ : News s₁.heap L h₆ [] := News.nil
      refine wpC_of ?_
      dsimp only
      clear F₅ N₅
      k_steps
      exact ⟨⟨by first | rfl | trivial, h₆, _, _, rfl, F₆⟩⟩
end Mine
end

end Walks
set_option maxRecDepth 100000 in
set_option maxHeartbeats 8000000 in
theorem PySem.Challenge.cw_mj0124_01_holds : PySem.Challenge.rw_mj0124_01.Holds := by
  exact Mine.the_law
