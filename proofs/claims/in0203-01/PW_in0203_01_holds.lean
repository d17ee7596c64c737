import PyProof.Rows.All
import Wide.All
import OpenK.AllK
import Wide.FinOn
import PySem.Challenge.RW_in0203_01
open PySem PySem.W PyProof.Rows PySem.Calls
set_option Elab.async false
set_option maxRecDepth 100000
/-! MA -/
namespace Mine
/-! The logic below a caller: as wpAny, but only where the claim's caller stands in the stack (a refusal by the binder asks that). -/
def CallerIn (Γ : Ctx) : Prop := (Γ.code.isCaller || Γ.below.any (·.1.isCaller)) = true
def CallerUnder (Γ : Ctx) : Prop := Γ.below.any (·.1.isCaller) = true
def wpC {α : Type} (M : Model) (A : Around) (t : Sem α) (Q : α → Shared → Prop) (E : Value → Shared → Prop) (s : Shared) : Prop :=
  ∀ Γ p, Γ.In A → CallerIn Γ → Sem.wp M Γ t (fun a _ s' => Q a s') (fun e _ s' => E e s') p s
def codeC (M : Model) (A : Around) (c : Code) (R : Result → Shared → Prop) (s : Shared) : Prop :=
  ∀ Γ p, Γ.code = c → Γ.Below A → CallerUnder Γ → wpCode M Γ R p s
theorem CallerUnder.in {Γ : Ctx} (h : CallerUnder Γ) : CallerIn Γ := by
  unfold CallerIn; rw [show Γ.below.any (·.1.isCaller) = true from h, Bool.or_true]
theorem CallerIn.enter {Γ : Ctx} (h : CallerIn Γ) (c : Code) (hd : Option Value) (p : Pos) : CallerUnder (Γ.enter c hd p) := by
  show ((Γ.code, p) :: Γ.below).any (·.1.isCaller) = true
  rw [List.any_cons]; exact h
theorem CallerIn.at {Γ : Ctx} (h : CallerIn Γ) (p : Pos) : (((Γ.code, p) :: Γ.below).map (·.1)).any Code.isCaller = true := by
  rw [List.any_map, List.any_cons]; exact h
section
variable {α β : Type} {M : Model} {A : Around} {E E' : Value → Shared → Prop} {s : Shared}
theorem C_any {t : Sem α} {Q : α → Shared → Prop} (h : wpAny M A t Q E s) : wpC M A t Q E s := fun Γ p a _ => h Γ p a
theorem K_any {c : Code} {R : Result → Shared → Prop} (h : codeAny M A c R s) : codeC M A c R s := fun Γ p a b _ => h Γ p a b
theorem C_pure {a : α} {Q : α → Shared → Prop} (h : Q a s) : wpC M A (pure a) Q E s := fun _ _ _ _ => h
theorem C_mono {t : Sem α} {Q Q' : α → Shared → Prop} (h : wpC M A t Q E s) (hQ : ∀ a s, Q a s → Q' a s) (hE : ∀ e s, E e s → E' e s) : wpC M A t Q' E' s :=
  fun Γ p a b => Sem.wp_mono M Γ t (fun a _ s => hQ a s) (fun e _ s => hE e s) p s (h Γ p a b)
theorem C_bind {m : Sem α} {f : α → Sem β} {Q : β → Shared → Prop} (h : wpC M A m (fun a s' => wpC M A (f a) Q E s') E s) : wpC M A (m >>= f) Q E s := fun Γ p a b => by
  rw [Sem.wp_bind']
  exact Sem.wp_mono M Γ m (fun x p' s' h' => h' Γ p' a b) (fun _ _ _ h' => h') p s (h Γ p a b)
/-- a step that the library's own rule takes, then the rest under the caller -/
theorem C_step {m : Sem α} {f : α → Sem β} {Q : β → Shared → Prop} (h : wpAny M A m (fun a s' => wpC M A (f a) Q E s') E s) : wpC M A (m >>= f) Q E s := C_bind (C_any h)
theorem C_tryCatch {m : Sem α} {k : Value → Sem α} {Q : α → Shared → Prop} (h : wpC M A m Q (fun e s' => wpC M A (k e) Q E s') s) : wpC M A (tryCatch m k) Q E s := fun Γ p a b => by
  rw [Sem.wp_tryCatch']
  exact Sem.wp_mono M Γ m (fun _ _ _ h' => h') (fun e p' s' h' => h' Γ p' a b) p s (h Γ p a b)
theorem C_onRaise {m : Sem α} {k : Value → Sem Unit} {Q : α → Shared → Prop} (h : wpC M A m Q (fun e s' => wpC M A (k e) (fun _ s'' => E e s'') E s') s) : wpC M A (m.onRaise k) Q E s := fun Γ p a b => by
  rw [Sem.wp_onRaise]
  exact Sem.wp_mono M Γ m (fun _ _ _ h' => h') (fun e p' s' h' => h' Γ p' a b) p s (h Γ p a b)
theorem C_attempt {m : Sem α} {Q : Except Value α → Shared → Prop} (h : wpC M A m (fun a => Q (.ok a)) (fun e => Q (.error e)) s) : wpC M A m.attempt Q E s := fun Γ p a b => by
  rw [Sem.wp_attempt]; exact h Γ p a b
theorem C_holding {vs : List Value} {m : Sem α} {Q : α → Shared → Prop} (h : wpC M A m Q E s) : wpC M A (holding vs m) Q E s := fun Γ p a b => by
  rw [Sem.wp_holding]; exact h Γ p a b
theorem C_keep {vs : List Value} {m : Sem α} {Q : α → Shared → Prop} (h : wpC M A m Q E s) : wpC M A (m.keep vs) Q E s := fun Γ p a b => by
  first
    | (rw [Sem.wp_keep]; exact h Γ p a b)
    | exact (Sem.wp_keep M Γ _ _ _ _ _ _).mpr (h Γ p a b)
theorem C_ite {c : Prop} [Decidable c] {a b : Sem α} {Q : α → Shared → Prop} (h : if c then wpC M A a Q E s else wpC M A b Q E s) : wpC M A (if c then a else b) Q E s := by
  split <;> simp_all
theorem C_eq {t t' : Sem α} {Q : α → Shared → Prop} (e : t = t') (h : wpC M A t' Q E s) : wpC M A t Q E s := e ▸ h
theorem K_mono {c : Code} {R R' : Result → Shared → Prop} (h : codeC M A c R s) (hR : ∀ r s, R r s → R' r s) : codeC M A c R' s :=
  fun Γ p a b d => wpCode_mono hR (h Γ p a b d)
theorem C_run {c : Code} {h : Option Value} {Q : Flow → Shared → Prop} (hc : codeC M (A.mark h) c (fun r s' => match r with | .ok f => Q f s' | .error e => E e s') s) (hnb : h ≠ some byPass := by intro x; cases x) : wpC M A (run c h) Q E s :=
  fun Γ p a b => by rw [Sem.wp_run]; exact hc _ p rfl (a.enter c h p hnb) (b.enter c h p)
theorem C_runValue {c : Code} {Q : Value → Shared → Prop} (hc : codeC M A c (fun r s' => match r with | .ok (.ret v) => Q v s' | .ok _ => False | .error e => E e s') s) : wpC M A (runValue c) Q E s :=
  fun Γ p a b => by rw [Sem.wp_runValue]; exact hc _ p rfl (a.enter c none p (by intro x; cases x)) (b.enter c none p)
theorem C_call {f : Value} {pos : List Value} {kw : List (Str × Value)} {Q : Value → Shared → Prop} (hc : codeC M A (.call f ⟨pos, kw⟩) (fun r s' => match r with | .ok (.ret v) => Q v s' | .ok _ => False | .error e => E e s') s) : wpC M A (call f pos kw) Q E s := C_runValue hc
theorem K_tree {c : Code} {R : Result → Shared → Prop}
    (h : wpC M (A.under c) (M.den c) (fun fin s' => match fin with | .done f => R (.ok f) s' | .again c' => c'.quiet = true ∧ codeC M A c' R s') (fun e s' => R (.error e) s') s) : codeC M A c R s := fun Γ p hc a b => by
  rw [wpCode_iff_wp, hc]
  refine Sem.wp_mono M Γ _ (fun fin p' s' h' => ?_) (fun _ _ _ h' => h') p s (h Γ p (hc ▸ a.in) b.in)
  cases fin with
  | done f => exact h'
  | again c' => exact ⟨h'.1, h'.2 (Γ.goto c') p' rfl (a.goto c') b⟩
theorem C_le {t : Sem α} {Q : α → Shared → Prop} {B : Around} (h : wpC M A t Q E s) (hB : ∀ Γ : Ctx, Γ.In B → Γ.In A) : wpC M B t Q E s := fun Γ p a b => h Γ p (hB Γ a) b
theorem C_stack {Q : List (Code × Pos) → Shared → Prop} (h : ∀ st : List (Code × Pos), (st.map (·.1)).any Code.isCaller = true → Q st s) : wpC M A stack Q E s := fun Γ p _ b => h _ (b.at p)
end
end Mine

/-! MB -/
namespace Mine
/-! The head, once more, with the call's walk asked for only under the claim's caller. -/
abbrev WalkC (q : Program) (loose : List Str) (XP : (Str → Option Value) → Heap → Prop) (YP : World → Heap → Prop) (r : RowW) (d : DefRec) (kwd : List (Str × Expr)) : Prop :=
  ∀ (w : World) (s₀ s₁ : Shared) (mg mb : Str → Option Value), Ground q loose r.records XP w s₀ mg mb s₁.heap → YP w s₁.heap → ∀ (a : Addr) (o : Obj) (pm cd doc dV kV : Value), s₁.heap.get? a = some o →
    o.data = .func { docDef d.name d.params d.body d.scope pm cd doc with defaults := dV, kwdefaults := kV } → s₁.heap.CodeRec cd d.name → Dflts mg s₁.heap d.params kwd dV kV → mg d.name = some (.ref a) → s₁.gens = #[] →
    ∀ (args : List WData) (vals : List Value) (as : List Addr), r.claim.pre args = true → WData.layableAll args = true → ReadsAllW r.records (classAt s₀.heap) s₁.heap vals args as → WellAll w.params s₁.heap vals args → (∀ a ∈ as, (a == sysModules) = false) →
      wpC (model r.prog w) callerA (call (.ref a) vals) (fun v s' => GoodWG r.claim (classAt s₀.heap) (ExcName.means s₀.heap) args s₁ (.ok (.ret v)) s')
        (fun e s' => GoodWG r.claim (classAt s₀.heap) (ExcName.means s₀.heap) args s₁ (.error e) s') s₁

/-- a thread of the claim's caller, walked under the caller alone -/
theorem caller_ends {prog : Program} {w : World} {t : Sem Fin} {s : Shared} {R : Result → Shared → Prop} (hz : s.asleep)
    (h : wpC (model prog w) callerA t (fun fin s' => ∃ f, fin = .done f ∧ R (.ok f) s' ∧ leftWithCleanup s'.gens = false) (fun e s' => R (.error e) s' ∧ leftWithCleanup s'.gens = false) s) :
    ∃ n r s' s'', runN (denote table) prog w n s ⟨t, .builtin "claim.caller" {}, default, []⟩ = .halted (outcomeOf r) s' ∧
      schedN (denote table) prog w n (.single s ⟨t, .builtin "claim.caller" {}, default, []⟩) = .halted (outcomeOf r) s' ∧ s'.forget = s''.forget ∧ R r s'' := by
  have hw : Sem.wp (model prog w) ⟨.builtin "claim.caller" {}, none, none, [], none⟩ t
      (Sem.finPost (model prog w) ⟨.builtin "claim.caller" {}, none, none, [], none⟩ fun r s' => R r s' ∧ leftWithCleanup s'.gens = false) (fun e _ s' => R (.error e) s' ∧ leftWithCleanup s'.gens = false) default s := by
    refine Sem.wp_mono _ _ t (fun fin p' s' h' => ?_) (fun _ _ _ h' => h') default s (h _ default caller_in rfl)
    obtain ⟨f, rfl, hf⟩ := h'
    exact hf
  obtain ⟨n, r, a, b, hs, hn, hf, hR⟩ := wp_halts_full (M := model prog w) (R := R) hz hw
  exact ⟨n, r, b, a, hn, hs, hf, hR⟩

theorem PySem.W.holds_open {r : OpenRow} {q : Program} {loose : List Str} {Xt : Shared → Bool} {XP : (Str → Option Value) → Heap → Prop} {α : Type} {Yf : Shared → α} {Ya : World → α} {YP : World → Heap → Prop} {d : DefRec} {kwd : List (Str × Expr)} {N : Nat}
    (left : LeftO r.prog q loose Xt Yf Ya N) (hY : ∀ w s, Yf s = Ya w → YP w s.heap) (hYk : ∀ w h h', YP w h → (∀ b o, h.get? b = some o → h'.get? b = some o) → YP w h')
    (hX : ∀ s, Xt s = true → XP (s.heap.nsMap mainGlobals) s.heap) (hXk : ∀ mg h h', XP mg h → (∀ b o, h.get? b = some o → h'.get? b = some o) → XP mg h')
    (hdef : defOf q r.name = some (d, kwd)) (hp : r.prog.theDef r.name = some (d.params, d.body, d.scope)) (hk : kwWritten? d.params.kwonlyargs d.params.kw_defaults = some kwd) (hRf : ∀ s, Xt s = true → RecFacts r.records s.heap) (hwr : (!r.writes || r.records.isEmpty) = true)
    (k1 : r.wellSaid = true) (ok : (chainsOk q && opensWell r.prog && (frees r.toRowW && r.within.isEmpty)) = true) (hb : r.prog.bare) (hw : r.toRowW.promised)
    (walk : WalkC q loose XP YP r.toRowW d kwd) : r.Holds := by
  refine ⟨k1, hw, ?_⟩
  simp only [Bool.and_eq_true] at ok
  obtain ⟨⟨hch, hop⟩, hfr, hin⟩ := ok
  obtain ⟨hsame, hu, ha, hap, hm⟩ := frees_parts hfr
  have hid := ident_freeW (r := r.toRowW) hu ha hap
  have hwi : r.toRowW.claim.within = [] := List.isEmpty_iff.mp hin
  refine ⟨⟨hb, hop, by show r.makers.map _ = []; rw [hm]; rfl⟩, hw.witness, fun w => ⟨(left.behind hX hch w).1, fun s' hs' => ?_⟩⟩
  obtain ⟨s₀, hf, hg0, s, hT, hz, hgn, hg, GX, y⟩ := (left.behind (XP := fun mg h => XP mg h ∧ RecFacts r.records h) (fun s hs => ⟨hX s hs, hRf s hs⟩) hch w).2 s' hs'
  have G0 : Ground q loose [] XP w s (s.heap.nsMap mainGlobals) (s.heap.nsMap builtinsNs) s.heap := ⟨GX.T, GX.B, GX.D, GX.TE, GX.TD, GX.W, GX.X.1, GX.cls, GX.has, GX.apart, GX.once, GX.K⟩
  have G : Ground q loose r.records XP w s _ _ s.heap := GX.X.2.ground G0
  have hgens : s.gens = #[] := Array.eq_empty_of_size_eq_zero (beq_iff_eq.mp hgn)
  refine ⟨s₀, hf, hg0, s, hT, fun n hn => ?_, GX.X.2.1, GX.X.2.2.1, ?_⟩
  · obtain rfl : n = r.name := by split at hn <;> simp_all
    exact pinned_of_view hg G0 hdef hp hk
  intro args hpre hlay ord hord
  obtain ⟨⟨vs, s₁⟩, hlaid⟩ := Option.isSome_iff_exists.mp (layAllW_isSome (P := w.params) (ord := ord) G.has args r.args s (pre_splitW hpre).1)
  have keeps := layAllW_keeps _ _ _ hlaid
  have hal := layAllW_rest _ _ _ hlaid
  obtain ⟨as, hrd, hins, hold⟩ := reads_layAllW hord _ _ _ hlaid hlay s₁.heap (fun _ _ e => e)
  have L : Laid r.records w s s₁ args vs as := ⟨⟨ord, hord, hlaid⟩, hrd, hins, hold, keeps, hal.1.trans hgens, hal.2.2.1⟩
  have G₁ := G.keeps hXk keeps
  obtain ⟨a, o, pm, cd, doc, dV, kV, h1, h2, h3, h4, h5⟩ := G₁.fn hdef
  have hcall := walk w s s₁ _ _ G₁ (hYk _ _ _ (hY w s y) keeps) a o pm cd doc dV kV h2 h3 h4 h5 (defOf_name hdef ▸ h1) L.gens args vs as hpre hlay L.reads L.well (L.low G.low)
  have turn : ∀ (x : Result) (s' : Shared), GoodWG r.toRowW.claim (classAt s.heap) (ExcName.means s.heap) args s₁ x s' →
      (r.toRowW.claim.Ends s args vs s₁ x s' ∧ s'.os = s.os ∧ (r.writes = true → namesKept r.toRowW.claim.prog r.keeps s.heap s'.heap ∧ ∀ x ∈ r.toRowW.claim.records, ∀ a, classAt s.heap x.1 = some a → recordClass s'.heap a x.1 (x.2.map (·.1)) = true)) ∧ leftWithCleanup s'.gens = false := by
    intro x s' g
    have z := g.laid (c := r.toRowW.claim) hsame hwi hid L
    exact ⟨⟨z.1, z.2.1, fun e => ⟨namesKept_of hT hg r.keeps keeps g.2.1.old, noTable hwr e⟩⟩, leftWithCleanup_false_of_bare z.2.2⟩
  have tree : wpC (model r.prog w) callerA (do match ← nsGet mainNs r.name with
      | some f => do ret (← PySem.call f vs)
      | none => unsupported "claim.caller:no-such-global")
      (fun fin s' => ∃ f, fin = .done f ∧ (r.toRowW.claim.Ends s args vs s₁ (.ok f) s' ∧ s'.os = s.os ∧ (r.writes = true → namesKept r.toRowW.claim.prog r.keeps s.heap s'.heap ∧ ∀ x ∈ r.toRowW.claim.records, ∀ a, classAt s.heap x.1 = some a → recordClass s'.heap a x.1 (x.2.map (·.1)) = true)) ∧ leftWithCleanup s'.gens = false)
      (fun e s' => (r.toRowW.claim.Ends s args vs s₁ (.error e) s' ∧ s'.os = s.os ∧ (r.writes = true → namesKept r.toRowW.claim.prog r.keeps s.heap s'.heap ∧ ∀ x ∈ r.toRowW.claim.records, ∀ a, classAt s.heap x.1 = some a → recordClass s'.heap a x.1 (x.2.map (·.1)) = true)) ∧ leftWithCleanup s'.gens = false) s₁ := by
    refine C_step (wpAny_nsGet G₁.T.g ?_)
    rw [show _ = some (Value.ref a) from h1]
    exact C_bind (C_mono hcall (fun v s' g => C_pure ⟨_, rfl, turn _ _ g⟩) fun e s' g => turn _ _ g)
  obtain ⟨k, x, s₂, s₃, hrun, hsched, hfo, hcase, hos, hkp⟩ := caller_ends (prog := r.prog) (w := w) (s := s₁)
    (R := fun x s' => r.toRowW.claim.Ends s args vs s₁ x s' ∧ s'.os = s.os ∧ (r.writes = true → namesKept r.toRowW.claim.prog r.keeps s.heap s'.heap ∧ ∀ x ∈ r.toRowW.claim.records, ∀ a, classAt s.heap x.1 = some a → recordClass s'.heap a x.1 (x.2.map (·.1)) = true))
    (Shared.asleep_of_life hal.2.2.2 hz) tree
  obtain ⟨eh, _, _, eo, _⟩ := Shared.forget_eq hfo
  have hcase := hcase.congr eh
  rw [← eh] at hkp
  rw [← eo] at hos
  have hlife : s₂.heap.life = s.heap.life := (runN_life _ _ _ hrun).trans hal.2.2.2
  refine ⟨vs, s₁, hlaid, k, _, s₂, hsched, ?_, (fun _ i z hz' => by rw [hgens] at hz'; simp at hz'), hkp, by rw [hlife], Shared.rest_eq hos⟩
  rcases hcase with ⟨v, rfl, d1, d2, d3, d4, d5⟩ | ⟨e, ob, cls, rfl, d1, d2, d3, d4, d5⟩
  · exact .inl ⟨v, rfl, d1, d2, d3, fun b o z _ => d4 b o z, d5⟩
  · exact .inr ⟨e, ob, cls, rfl, d1, d2, d3, d4, fun b o z _ => d5 b o z⟩
set_option maxHeartbeats 8000000
open_top hd for PySem.Challenge.rw_in0203_01
end Mine

/-! MC -/
set_option maxHeartbeats 4000000
namespace Mine
abbrev PR : Program := PySem.Challenge.rw_in0203_01.prog

abbrev TopM (mean : ExcName → Option Value) (mg mb : Str → Option Value) (h : Heap) : Prop := Top Mine.hd.view_39 (looseW Mine.hd.view_39 [Str.ofString "starmap", Str.ofString "_law_three"]) mean mg mb h
abbrev tupO (vs : List Value) : Obj := { cls := .type "tuple", data := .seq vs.toArray }
/-- what every heap below the call bears -/
structure Bs (w : World) (mean : ExcName → Option Value) (mg mb : Str → Option Value) (h : Heap) : Prop where
  K : (Mine.hd.heap_39 w.params).In h
  T : TopM mean mg mb h
theorem Bs.keeps {w : World} {mean : ExcName → Option Value} {mg mb : Str → Option Value} {h h' : Heap} (b : Bs w mean mg mb h) (k : ∀ b o, h.get? b = some o → h'.get? b = some o) : Bs w mean mg mb h' := ⟨b.K.keeps k, b.T.keeps k⟩

section
variable {w : World} {mean : ExcName → Option Value} {mg mb : Str → Option Value} {A : Around} {s : Shared}
/-- a def without cells is entered: its body, walked over the heap at its entry -/
theorem enter_plain {f : Addr} {oc : Value} {od : Option Addr} {osl : Array (Option Value)} {name qual : Str} {params : Arguments} {body : List Stmt} {scope : Scope} {dV kV doc pm cdv ct : Value} {an : Option Addr}
    {args : Args} {binds : List (Str × Value)} {R : Result → Shared → Prop} (b : Bs w mean mg mb s.heap) (hroom : A.depth < recursionLimit)
    (ho : (Mine.hd.heap_39 w.params).lookup f = some ⟨oc, od, .func (fnOf name qual params body scope dV kV doc pm an cdv ct), osl⟩) (hcd : codeIn (Mine.hd.heap_39 w.params) cdv qual = true)
    (hbind : BindsTo s (fnOf name qual params body scope dV kV doc pm an cdv ct) args binds)
    (h : ∀ L h₁, Fr s.heap L h₁ (fun y => binds.reverse.lookup y) → News s.heap L h₁ [] → (Mine.hd.heap_39 w.params).In s.heap → TopM mean mg mb s.heap → L = s.heap.objs.size →
      wpAny (model PR w) (A.deeper (envOf qual scope L f cdv)) (execs body (envOf qual scope L f cdv))
        (fun fl s' => R (.ok (.ret (match fl with | .ret v => v | _ => .none))) s')
        (fun e s' => wpAny (model PR w) (A.deeper (envOf qual scope L f cdv)) (leaving (envOf qual scope L f cdv) e) (fun _ s'' => R (.error e) s'') (fun e' s'' => R (.error e') s'') s')
        { s with heap := h₁, toks := s.toks + binds.length })
    (hloc : ∀ y ∈ binds, scope.names.lookup y.1 = some .local) (hcell : ∀ x ∈ scope.names, x.2 ≠ .cell)
    (hco : scope.isCoroutine = false) (hgen : scope.isGenerator = false) (hk : scope.kind = .function) : codeAny (model PR w) A (.call (.ref f) args) R s := by
  refine codeAny_call_def (fd := fnOf name qual params body scope dV kV doc pm an cdv ct) (body := body) (binds := binds) hroom (b.K _ _ ho) rfl b.T.nolimit (codeRec_of b.K hcd) rfl hbind hcell hloc (fun h₁ hns hk₁ => ?_) hco hgen hk
  exact h s.heap.objs.size h₁ ⟨hns, hk₁, Nat.le_refl _⟩ News.nil b.K b.T rfl
end
section
variable {w : World} {mean : ExcName → Option Value} {mg mb : Str → Option Value} {A : Around} {s : Shared}
/-- a def with cells is entered -/
theorem enter_cells {f : Addr} {oc : Value} {od : Option Addr} {osl : Array (Option Value)} {name qual : Str} {params : Arguments} {body : List Stmt} {scope : Scope} {dV kV doc pm cdv ct : Value} {an : Option Addr}
    {args : Args} {binds : List (Str × Value)} {R : Result → Shared → Prop} (b : Bs w mean mg mb s.heap) (hroom : A.depth < recursionLimit)
    (ho : (Mine.hd.heap_39 w.params).lookup f = some ⟨oc, od, .func (fnOf name qual params body scope dV kV doc pm an cdv ct), osl⟩) (hcd : codeIn (Mine.hd.heap_39 w.params) cdv qual = true)
    (hbind : BindsTo s (fnOf name qual params body scope dV kV doc pm an cdv ct) args binds)
    (h : ∀ L h₁ tk cells, Fr s.heap L h₁ (bindL (envOfC qual scope L f cdv).kindOf binds fun _ => none) → News s.heap L h₁ cells →
      CellsAre (bindC (envOfC qual scope L f cdv).kindOf binds fun _ => none) (cellsFrom (L + 1) scope.names []) cells → (Mine.hd.heap_39 w.params).In s.heap → TopM mean mg mb s.heap → L = s.heap.objs.size →
      wpAny (model PR w) (A.deeper (envOfC qual scope L f cdv)) (execs body (envOfC qual scope L f cdv))
        (fun fl s' => R (.ok (.ret (match fl with | .ret v => v | _ => .none))) s')
        (fun e s' => wpAny (model PR w) (A.deeper (envOfC qual scope L f cdv)) (leaving (envOfC qual scope L f cdv) e) (fun _ s'' => R (.error e) s'') (fun e' s'' => R (.error e') s'') s')
        { s with heap := h₁, toks := tk })
    (hkind : (binds.all fun y => scope.names.lookup y.1 == some .local || scope.names.lookup y.1 == some .cell) = true)
    (hnd : ((cellsFrom 0 scope.names []).map (·.1)).Nodup)
    (hco : scope.isCoroutine = false) (hgen : scope.isGenerator = false) (hk : scope.kind = .function) : codeAny (model PR w) A (.call (.ref f) args) R s := by
  refine codeAny_call_function (fd := fnOf name qual params body scope dV kV doc pm an cdv ct) hroom (b.K _ _ ho) rfl hco hgen rfl (codeRec_of b.K hcd) (hbind _ _ _ _ ?_)
  refine wpAny_newFunctionEnv_cells hk (kindsX hkind _) fun env' he s' x => ?_
  subst he
  refine ⟨b.T.nolimit.keeps x.toInCall.keep, codeAny_func ?_⟩
  obtain ⟨h₁, tk, rfl, _⟩ := x.done
  obtain ⟨cells, NC, Y⟩ := Cl.news (h₀ := s.heap) (Nat.le_refl _) fun n c hm => ⟨x.cell n c (lookup_of_mem_nodup (cellsFrom_names scope.names 0 (s.heap.objs.size + 1) [] [] rfl ▸ hnd) hm), x.above n c hm⟩
  exact h s.heap.objs.size h₁ tk cells ⟨x.toInCall.ns, x.toInCall.keep, Nat.le_refl _⟩ NC Y b.K b.T rfl
end
end Mine

/-! MD -/
namespace Mine
/-- a tree, as far as the written part alone carries it -/
def strip {α : Type} (K : Frag) (S : Setting) : Nat → Sem α → Sem α
  | 0, t => t
  | n + 1, .rule _ k => strip K S n (k ())
  | n + 1, .at _ k => strip K S n (k ())
  | n + 1, .point _ k => strip K S n (k ())
  | n + 1, .ask k => strip K S n (k S)
  | n + 1, .load a p k => match K.lookup a with
    | some o => strip K S n (k o)
    | none => .load a p k
  | _ + 1, t => t
section
variable {α : Type} {M : Model} {A : Around} {E : Value → Shared → Prop} {s : Shared} {Q : α → Shared → Prop}
theorem wp_strip {K : Frag} {Γ : Ctx} {Q : α → Pos → Shared → Prop} {E : Value → Pos → Shared → Prop} (X : K.In s.heap) : ∀ (n : Nat) {t : Sem α} {p : Pos}, (∀ p, Sem.wp M Γ (strip K ⟨M.prog, M.w.params⟩ n t) Q E p s) → Sem.wp M Γ t Q E p s
  | 0, _, p, h => h p
  | n + 1, .rule _ k, _, h => wp_strip X n (t := k ()) h
  | n + 1, .at _ k, _, h => wp_strip X n (t := k ()) h
  | n + 1, .point _ k, _, h => wp_strip X n (t := k ()) h
  | n + 1, .ask k, _, h => wp_strip X n (t := k _) h
  | n + 1, .load a q k, p, h => by
    simp only [strip] at h
    split at h
    · rename_i o ho
      exact ⟨o, X _ _ ho, wp_strip X n h⟩
    · exact h p
  | _ + 1, .pure _, p, h => h p
  | _ + 1, .raise _, p, h => h p
  | _ + 1, .unsupported _, p, h => h p
  | _ + 1, .finish _, p, h => h p
  | _ + 1, .update .., p, h => h p
  | _ + 1, .alloc .., p, h => h p
  | _ + 1, .loadIfAlive .., p, h => h p
  | _ + 1, .register .., p, h => h p
  | _ + 1, .fresh _, p, h => h p
  | _ + 1, .choose .., p, h => h p
  | _ + 1, .os .., p, h => h p
  | _ + 1, .call .., p, h => h p
  | _ + 1, .handled .., p, h => h p
  | _ + 1, .newGen .., p, h => h p
  | _ + 1, .genState .., p, h => h p
  | _ + 1, .resume .., p, h => h p
  | _ + 1, .yield .., p, h => h p
  | _ + 1, .stack _, p, h => h p
  | _ + 1, .fork .., p, h => h p
  | _ + 1, .thread _, p, h => h p
  | _ + 1, .await .., p, h => h p
theorem A_strip {K : Frag} (X : K.In s.heap) (n : Nat) {t t' : Sem α} (e : strip K ⟨M.prog, M.w.params⟩ n t = t') (h : wpAny M A t' Q E s) : wpAny M A t Q E s :=
  fun Γ _ a => wp_strip X n fun p => e ▸ h Γ p a
theorem C_strip {K : Frag} (X : K.In s.heap) (n : Nat) {t t' : Sem α} (e : strip K ⟨M.prog, M.w.params⟩ n t = t') (h : wpC M A t' Q E s) : wpC M A t Q E s :=
  fun Γ _ a b => wp_strip X n fun p => e ▸ h Γ p a b
end

theorem caller_no_mark (l : List Code) (h : l.any Code.isCaller = true) : pythonCodeMadeTheCall [] l = false := by
  obtain ⟨c, hc, e⟩ := List.any_eq_true.mp h
  cases hb : pythonCodeMadeTheCall [] l with
  | false => rfl
  | true =>
    exfalso
    unfold pythonCodeMadeTheCall at hb
    simp only [Bool.and_eq_true, Bool.not_eq_true'] at hb
    have h1 := List.any_eq_false.mp hb.1.1 c hc
    apply h1
    unfold Code.isCaller at e
    split at e
    · rfl
    · cases e
section
variable {α : Type} {M : Model} {A : Around} {E : Value → Shared → Prop} {s : Shared} {Q : α → Shared → Prop}
/-- the binder refuses: a new TypeError, and under the caller no mark is left -/
theorem C_refuses {msg : String} (hh : A.handled = none) (hm : (msg : Str).length ≤ sizeLine) (h : ∀ h' tk e, Heap.NewExc s.heap h' e "TypeError" → E (.ref e) { s with heap := h', toks := tk }) :
    wpC M A (theBinderRefuses msg : Sem α) Q E s := by
  unfold theBinderRefuses
  refine C_step (wpAny_mkStr (C_step ?_) hm)
  unfold newExc newTuple
  refine wpAny_bind (wpAny_newObj_type ?_)
  refine wpAny_bind (m := firstArgMember _ _) (wpAny_of_eq (a := Value.none) (by simp only [firstArgMember, plainExc_TypeError.first]; rfl) ?_)
  rw [plainExc_TypeError.own]
  refine wpAny_newObj_type ?_
  refine C_bind ?_
  unfold markTheRefusal
  refine C_bind (C_stack fun st hst => ?_)
  have hb : pythonCodeMadeTheCall [] (st.map (·.1)) = false := caller_no_mark _ hst
  simp only [hb, Bool.false_eq_true, if_false]
  refine C_pure ?_
  unfold raiseNew
  refine C_step (wpAny_handled ?_)
  rw [hh]
  refine C_any (t := throw _) (wpAny_throw (h _ _ _ ⟨fun b o hb => Heap.get?_push_of_some _ (Heap.get?_push_of_some _ hb), Heap.get?_none_of_le (by simp), _, .ref s.heap.objs.size, Heap.get?_push_size _ rfl, rfl, by simp⟩))
end
end Mine

/-! ME -/
namespace Mine
section
variable {M : Model} {A : Around} {E : Value → Shared → Prop} {s : Shared} {env : Env}
theorem C_execs_nil {Q : Flow → Shared → Prop} (h : Q .next s) : wpC M A (execs [] env) Q E s := fun _ _ _ _ => h
theorem C_execs_cons {st : Stmt} {rest : List Stmt} {Q : Flow → Shared → Prop}
    (h : wpC M A (exec st env) (fun f s' => match f with | .next => wpC M A (execs rest env) Q E s' | f => Q f s') E s) : wpC M A (execs (st :: rest) env) Q E s := by
  rw [execs_cons]
  refine C_bind (C_mono h (fun f s' h' => ?_) fun _ _ x => x)
  cases f <;> first | exact h' | exact C_pure h'
theorem C_Return {e : Expr} {pos : Pos} {Q : Flow → Shared → Prop} (h : wpC M A (eval e env) (fun v => Q (.ret v)) E s) : wpC M A (exec (.Return (some e) pos) env) Q E s := by
  rw [exec_Return_some]
  exact C_step (wpAny_standAt (C_bind (C_mono h (fun _ _ q => C_pure q) fun _ _ x => x)))
theorem C_If {test : Expr} {body orelse : List Stmt} {pos : Pos} {Q : Flow → Shared → Prop}
    (h : wpC M A (isTrue test env (eval test env)) (fun b s₂ => if b then wpC M A (execs body env) Q E s₂ else wpC M A (execs orelse env) Q E s₂) E s) : wpC M A (exec (.If test body orelse pos) env) Q E s := by
  rw [exec_If]
  refine C_step (wpAny_standAt (C_bind (C_mono h (fun b _ q => ?_) fun _ _ x => x)))
  cases b <;> exact q
theorem C_isTrue_Compare1 {l r : Expr} {op : CmpOp} {pos : Pos} {whole : Sem Value} {Q : Bool → Shared → Prop}
    (h : wpC M A (eval l env) (fun a s₁ => wpC M A (eval r env) (fun b s₂ => wpC M A (compareOp op a b) (fun c s₃ => wpC M A (truthy c) Q E s₃) E s₂) E s₁) E s)
    (hm : behindInMarks op r = false := by with_unfolding_all rfl) : wpC M A (isTrue (.Compare l [op] [r] pos) env whole) Q E s := by
  rw [isTrue_Compare1, markedBehindIn_of_false hm]
  refine C_bind (C_mono h (fun a s₁ h₁ => C_bind (C_holding (C_mono h₁ (fun b s₂ h₂ => C_step (wpAny_standAt (C_bind ?_))) fun _ _ x => x))) fun _ _ x => x)
  have : wpC M A (operate [a, b] (compareOp op a b)) (fun c s₃ => wpC M A (truthy c) Q E s₃) E s₂ := fun Γ p x y => by
    rw [Sem.wp_operate]; exact h₂ Γ p x y
  exact C_mono this (fun c s₃ h₃ => C_holding h₃) fun _ _ x => x
theorem C_Call_Name {id : Str} {p pos : Pos} {args : List Expr} {Q : Value → Shared → Prop}
    (h : wpC M A (eval (.Name id p) env) (fun f s₁ => wpC M A (callWith pos f [] (backTo pos (starEach args env)) []) Q E s₁) E s) : wpC M A (eval (.Call (.Name id p) args [] pos) env) Q E s := by
  rw [arm_eval_Call_Name']
  exact C_bind h
theorem C_callWith {pos : Pos} {f : Value} {first : List Value} {args : List (Bool × Sem Value)} {Q : Value → Shared → Prop} {P : Heap → Prop}
    (hk : ∀ h, P h → ∃ k, (k = Keeper.frame ∨ k = Keeper.machine) ∧ Looks M h (keeperOf f) k)
    (h : wpC M A (evalArgs f true args []) (fun a s₁ => P s₁.heap ∧ wpC M A (call f (first ++ a.pos) a.kw) Q E s₁) E s) : wpC M A (callWith pos f first args []) Q E s := by
  unfold callWith
  refine C_bind (C_holding (C_mono h (fun a s₁ h₁ => C_step (wpAny_standAt ?_)) fun _ _ x => x))
  obtain ⟨k, hk', L⟩ := hk _ h₁.1
  refine C_step (L.here ?_)
  have tail : ∀ {t : Sem Value}, wpC M A t Q E s₁ → wpC M A (t >>= fun r => holding [r] point >>= fun _ => pure r) Q E s₁ :=
    fun ht => C_bind (C_mono ht (fun r s₂ hr => C_bind (C_holding (C_any (wpAny_point (C_pure hr))))) fun _ _ x => x)
  have marked (mk : Value) : wpC M A (callMarked mk f (first ++ a.pos) a.kw) Q E s₁ := by unfold callMarked; exact C_keep h₁.2
  have op : ∀ l, wpC M A (operate l (call f (first ++ a.pos) a.kw)) Q E s₁ := fun l Γ p x y => by rw [Sem.wp_operate]; exact h₁.2 Γ p x y
  rcases hk' with rfl | rfl <;> cases (args.any (·.1) || ([] : List (Option Str × Sem Value)).any (·.1.isNone)) <;> dsimp only <;>
    first | exact tail (op _) | exact tail h₁.2 | exact tail (marked _) | (split <;> first | exact tail h₁.2 | exact tail (marked _))
theorem C_spliced_nil {Q : List Value → Shared → Prop} (h : Q [] s) : wpC M A (spliced []) Q E s := C_pure h
theorem C_spliced_cons {x : Sem Value} {rest : List (Bool × Sem Value)} {Q : List Value → Shared → Prop}
    (h : wpC M A x (fun v s₁ => wpC M A (spliced rest) (fun vs s₂ => Q (v :: vs) s₂) E s₁) E s) : wpC M A (spliced ((false, x) :: rest)) Q E s := by
  rw [spliced]
  refine C_bind (C_mono h (fun v s₁ h₁ => ?_) fun _ _ x => x)
  have z : wpC M A (holding [v] (spliced rest) >>= fun r => pure ([v] ++ r)) Q E s₁ := C_bind (C_holding (C_mono h₁ (fun vs s₂ q => C_pure q) fun _ _ x => x))
  first | exact C_bind (C_pure z) | exact z
theorem C_evalArgs_plain {f : Value} {x : Sem Value} {rest : List (Bool × Sem Value)} {Q : Args → Shared → Prop}
    (h : wpC M A (spliced ((false, x) :: rest)) (fun vs s' => Q ⟨vs, []⟩ s') E s) : wpC M A (evalArgs f true ((false, x) :: rest) []) Q E s := by
  unfold evalArgs
  show wpC M A (spliced ((false, x) :: rest) >>= _) Q E s
  refine C_bind (C_mono h (fun vs s' h' => ?_) fun _ _ x => x)
  refine C_holding ?_
  exact C_bind (C_pure (C_bind (C_pure (C_pure h'))))
theorem C_List {elts : List Expr} {pos : Pos} {Q : Value → Shared → Prop}
    (h : wpC M A (spliced (backTo pos (starEach elts env))) (fun vs s₁ => wpC M A (newList vs) Q E s₁) E s) : wpC M A (eval (.List elts pos) env) Q E s := by
  show wpC M A (do standAt pos; newList (← spliced (backTo pos (starEach elts env)))) Q E s
  exact C_step (wpAny_standAt (C_bind h))
theorem C_runOwn {c : Code} {h : Option Value} {Q : Flow → Shared → Prop}
    (hc : codeC M (A.mark h) c (fun r s' => match r with | .ok f => Q f s' | .error e => cameBackBy M A env E e s') s) (hnb : h ≠ some byPass := by intro x; cases x) : wpC M A (runOwn c env h) Q E s := by
  unfold runOwn
  exact C_onRaise (C_mono (C_run (E := fun e s' => cameBackBy M A env E e s') hc hnb) (fun _ _ q => q) fun _ _ q => C_any q)
theorem C_For {target iter : Expr} {body orelse : List Stmt} {pos : Pos} {Q : Flow → Shared → Prop}
    (h : wpC M A (eval iter env) (fun x s₁ => wpC M A (pyIter x) (fun it s₂ =>
      codeC M A (.forLoop target it body orelse env) (fun r s' => match r with | .ok f => Q f s' | .error e => cameBackBy M A env E e s') s₂) E s₁) E s)
    (hs : ∀ x, foldedSetIterable iter env x = pure x := by intro _; rfl) : wpC M A (exec (.For target iter body orelse pos) env) Q E s := by
  rw [exec_For]
  refine C_step (wpAny_standAt (C_bind (C_mono h (fun x s₁ h₁ => C_eq (congrArg (· >>= _) (hs x)) (C_bind (C_pure (C_step (wpAny_standAt (C_bind (C_holding
    (C_mono h₁ (fun it s₂ h₂ => ?_) fun _ _ h' => h'))))))))  fun _ _ h' => h')))
  exact C_runOwn (h := none) (by show codeC M A _ _ _; exact h₂)
theorem K_loop {c : Code} {R : Result → Shared → Prop} (hq : c.quiet = true) (I : Nat → Shared → Prop)
    (turn : ∀ n s, I n s → wpC M (A.under c) (M.den c) (fun fin s' => match fin with
        | .done f => R (.ok f) s'
        | .again c' => (c' = c ∧ ∃ m, m < n ∧ I m s') ∨ (c'.quiet = true ∧ codeC M A c' R s')) (fun e s' => R (.error e) s') s)
    (n : Nat) (h : I n s) : codeC M A c R s := by
  induction n using Nat.strongRecOn generalizing s with
  | ind n ih =>
    refine K_tree (C_mono (turn n s h) (fun fin s' hf => ?_) fun _ _ h' => h')
    cases fin with
    | done f => exact hf
    | again c' =>
      rcases hf with ⟨rfl, m, hm, hI⟩ | hf
      · exact ⟨hq, ih m hm hI⟩
      · exact hf
theorem C_noted {α : Type} {m : Sem α} {Q : α → Shared → Prop} (h : wpC M A m Q (notedBy M A env E) s) : wpC M A (m.onRaise fun x => do noteFrame x env; theTreesLotGoes x) Q E s :=
  C_onRaise (C_mono h (fun _ _ q => q) fun _ _ hx => C_any (wpAny_bind (wpAny_mono hx (fun _ _ e => wpAny_theTreesLotGoes e) fun _ _ e => e)))
end
section
variable {prog : Program} {w : World} {A : Around} {E : Value → Shared → Prop} {s : Shared} {env : Env} {R : Result → Shared → Prop}
theorem K_func {body : List Stmt}
    (h : wpC (model prog w) (A.deeper env) (execs body env) (fun f s' => R (.ok (.ret (match f with | .ret v => v | _ => .none))) s')
      (fun e s' => wpAny (model prog w) (A.deeper env) (leaving env e) (fun _ s'' => R (.error e) s'') (fun e' s'' => R (.error e') s'') s') s) : codeC (model prog w) A (.func body env) R s := by
  refine K_tree ?_
  show wpC _ (A.deeper env) (do point; match ← (execs body env).onRaise (leaving env) with | .ret v => ret v | _ => ret .none) _ _ s
  refine C_step (wpAny_point (C_bind (C_onRaise (C_mono h (fun f s' h' => ?_) fun _ _ h' => C_any h'))))
  cases f <;> exact C_pure h'
theorem K_block {stmts : List Stmt} (h : wpC (model prog w) A (execs stmts env) (fun f s' => R (.ok f) s') (notedBy (model prog w) A env fun e s' => R (.error e) s') s) : codeC (model prog w) A (.block stmts env) R s := by
  refine K_tree ?_
  show wpC _ _ (do return Fin.done (← (execs stmts env).onRaise (fun x => do noteFrame x env; theTreesLotGoes x))) _ _ s
  exact C_bind (C_noted (C_mono h (fun f s' h' => C_pure h') fun _ _ h' => h'))
theorem K_call_function {a : Addr} {args : Args} {o : Obj} {fd : FuncData} {body : List Stmt} (hroom : A.depth < recursionLimit) (ho : s.heap.get? a = some o)
    (hd' : o.data = .func fd) (hco : fd.scope.isCoroutine = false) (hgen : fd.scope.isGenerator = false) (hbody : fd.body = .stmts body) (hcd : s.heap.CodeRec fd.code fd.qualname)
    (h : wpC (model prog w) A.in1 (bindArgs fd args) (fun binds s₁ =>
      wpC (model prog w) A.in1 (newFunctionEnv fd.scope fd.globals fd.closure binds (fd.qualname ++ ".<locals>.") (some a) fd.code none fd.builtins)
        (fun env s₂ => s₂.heap.NoLimit ∧ codeC (model prog w) A (.func body env) R s₂) (fun e s' => R (.error e) s') s₁) (fun e s' => R (.error e) s') s) :
    codeC (model prog w) A (.call (.ref a) args) R s := by
  refine K_tree ?_
  show wpC _ A.in1 (callAny (.ref a) args) _ _ s
  simp only [callAny]
  refine C_step (wpAny_load ho ?_)
  obtain ⟨c, oc, vs, tq, hc, hoc, hdc, hq⟩ := hcd
  simp only [hd', callFunction, hco, hgen, hbody, hc]
  rw [hc] at h
  refine C_step (m := field (.ref c) 1) (wpAny_field hoc hdc hq (C_bind (C_pure ?_)))
  refine C_bind (C_mono h (fun binds s₁ h₁ => C_bind (C_mono h₁ (fun env s₂ h₂ => C_step (wpAny_enterFrame h₂.1 hroom
    (C_pure (And.intro rfl h₂.2)))) fun _ _ h' => h')) fun _ _ h' => h')
theorem K_forLoop {target : Expr} {it : Value} {body : List Stmt} (I : Nat → Shared → Prop)
    (turn : ∀ n s, I n s → wpC (model prog w) A (pyNext it) (fun r s₁ => match r with
      | none => R (.ok .next) s₁
      | some v => wpC (model prog w) A (assign target env v) (fun _ s₂ => wpC (model prog w) A (execs body env) (fun f s₃ => match f with
            | .next | .cont => ∃ m, m < n ∧ I m s₃
            | .brk => R (.ok .next) s₃
            | .ret v => R (.ok (.ret v)) s₃) (notedBy (model prog w) A env fun e s' => R (.error e) s') s₂) (notedBy (model prog w) A env fun e s' => R (.error e) s') s₁) (notedBy (model prog w) A env fun e s' => R (.error e) s') s)
    (n : Nat) (h : I n s) (ht : ∀ v, letOwnedTupleGo target it v = pure () := by intro _; rfl) : codeC (model prog w) A (.forLoop target it body [] env) R s := by
  refine K_loop rfl I (fun n s hI => ?_) n h
  show wpC _ A ((forTurn target it body [] env).onRaise (fun x => do noteFrame x env; theTreesLotGoes x)) _ _ s
  refine C_noted ?_
  simp only [forTurn]
  refine C_step (wpAny_standAt (C_bind (C_onRaise (C_mono (turn n s hI) (fun r s₁ h₁ => ?_) fun _ _ h' => C_any (wpAny_standAt h')))))
  cases r with
  | none => exact C_pure (.inr ⟨rfl, K_block (C_execs_nil h₁)⟩)
  | some v =>
    refine C_bind (C_eq (ht v) (C_pure ?_))
    refine C_bind (C_mono h₁ (fun _ s₂ h₂ => C_bind (C_mono h₂ (fun f s₃ h₃ => ?_) fun _ _ h' => h')) fun _ _ h' => h')
    cases f with
    | next => exact C_pure (.inl ⟨rfl, h₃⟩)
    | cont => exact C_pure (.inl ⟨rfl, h₃⟩)
    | brk => exact C_pure h₃
    | ret v => exact C_pure h₃
theorem C_Try {body : List Stmt} {h₀ : ExceptHandler} {hs : List ExceptHandler} {pos : Pos} {Q : Flow → Shared → Prop}
    (h : wpC (model prog w) A (execs body env) (fun f s₁ => f ≠ .next ∧ Q f s₁)
      (fun e s₁ => wpAny (model prog w) A (noteFrame e env) (fun _ s₂ => wpAny (model prog w) A (setFlight e none) (fun _ s₃ => wpAny (model prog w) A (handleBy e env (h₀ :: hs)) Q E s₃) E s₂) E s₁) s) :
    wpC (model prog w) A (exec (.Try body (h₀ :: hs) [] [] pos) env) Q E s := by
  rw [arm_exec_Try]
  refine C_step (wpAny_standAt ?_)
  unfold tryStmt
  simp only [List.isEmpty_nil, if_true]
  refine C_bind (C_attempt (C_mono h (fun f s₁ h₁ => ?_) fun e s₁ h₁ => ?_))
  · cases f <;> first | exact absurd rfl h₁.1 | exact C_pure h₁.2
  · refine C_any (wpAny_bind (wpAny_mono h₁ (fun _ s₂ h₂ => ?_) fun _ _ x => x))
    simp only [List.isEmpty_cons, Bool.false_eq_true, if_false]
    refine wpAny_bind (wpAny_mono h₂ (fun _ s₃ h₃ => ?_) fun _ _ x => x)
    simp only [Bool.false_and, Bool.false_eq_true, if_false]
    first | exact h₃ | exact wpAny_bind (wpAny_pure h₃)
end
end Mine

/-! MF -/
namespace Mine
theorem fill_it : (fun (_ : OpenLaw) => Mine.hd.heap_39) PySem.Challenge.rw_in0203_01 = Mine.hd.heap_39 := by k_fill; rfl
section
variable {w : World} {mean : ExcName → Option Value} {mg mb : Str → Option Value} {A : Around} {s : Shared}
/-- a def whose binder refuses -/
theorem enter_refused {f : Addr} {oc : Value} {od : Option Addr} {osl : Array (Option Value)} {name qual : Str} {params : Arguments} {body : List Stmt} {scope : Scope} {dV kV doc pm cdv ct : Value} {an : Option Addr}
    {args : Args} {msg : String} {kk : PUnit → Sem (List (Str × Value))} {R : Result → Shared → Prop} (b : Bs w mean mg mb s.heap) (hroom : A.depth < recursionLimit) (hh : A.handled = none)
    (ho : (Mine.hd.heap_39 w.params).lookup f = some ⟨oc, od, .func (fnOf name qual params body scope dV kV doc pm an cdv ct), osl⟩) (hcd : codeIn (Mine.hd.heap_39 w.params) cdv qual = true)
    (hbind : strip (Mine.hd.heap_39 w.params) ⟨PR, w.params⟩ 400 (bindArgs (fnOf name qual params body scope dV kV doc pm an cdv ct) args) = Sem.bind (theBinderRefuses msg : Sem PUnit) kk) (hm : (msg : Str).length ≤ sizeLine)
    (h : ∀ h' tk e, Heap.NewExc s.heap h' e "TypeError" → R (.error (.ref e)) { s with heap := h', toks := tk })
    (hco : scope.isCoroutine = false) (hgen : scope.isGenerator = false) : codeC (model PR w) A (.call (.ref f) args) R s := by
  refine K_call_function (fd := fnOf name qual params body scope dV kV doc pm an cdv ct) hroom (b.K _ _ ho) rfl hco hgen rfl (codeRec_of b.K hcd) ?_
  exact C_strip (M := model PR w) b.K 400 hbind (C_bind (C_refuses (A := A.in1) hh hm h))
/-- _law_three() without an argument: refused -/
theorem three_refused {R : Result → Shared → Prop} (b : Bs w mean mg mb s.heap) (hroom : A.depth < recursionLimit) (hh : A.handled = none)
    (h : ∀ h' tk e, Heap.NewExc s.heap h' e "TypeError" → R (.error (.ref e)) { s with heap := h', toks := tk }) :
    codeC (model PR w) A (.call (.ref 73) ⟨[], []⟩) R s := by
  refine' enter_refused (msg := "_law_three() missing 1 required positional argument: 'one'") b hroom hh ?k6 ?k7 ?k8 (by decide +kernel) h ?k2 ?k3
  case k6 => k_is
  case k2 => exact rfl
  case k3 => exact rfl
  case k7 => k_is
  case k8 => with_unfolding_all rfl
end
end Mine

/-! MG -/
namespace Mine
/-! What a call leaves of the heap: everything, but for the slots of the frames below (S) and for what it is told to advance (X). -/
def Step (S X : List Addr) (h h' : Heap) : Prop :=
  ∀ b o, h.get? b = some o → b ∉ X → (b ∉ S → h'.get? b = some o) ∧ ∃ sl, h'.get? b = some { o with slots := sl }
abbrev frs (l : List Env) : List Addr := l.filterMap (·.frame)
abbrev Kp (h h' : Heap) : Prop := ∀ b o, h.get? b = some o → h'.get? b = some o
theorem Step.refl (S X : List Addr) (h : Heap) : Step S X h h := fun _ o e _ => ⟨fun _ => e, o.slots, e⟩
theorem Step.of_kp {S X : List Addr} {h h' : Heap} (k : Kp h h') : Step S X h h' := fun b o e _ => ⟨fun _ => k b o e, o.slots, k b o e⟩
theorem Step.trans {S X : List Addr} {h₁ h₂ h₃ : Heap} (x : Step S X h₁ h₂) (y : Step S X h₂ h₃) : Step S X h₁ h₃ := by
  refine fun b o e hX => ?_
  obtain ⟨p, sl, q⟩ := x b o e hX
  obtain ⟨p', sl', q'⟩ := y b _ q hX
  exact ⟨fun hS => (y b o (p hS) hX).1 hS, sl', q'⟩
theorem Step.mono {S S' X X' : List Addr} {h h' : Heap} (x : Step S X h h') (hS : ∀ b, b ∈ S → b ∈ S') (hX : ∀ b, b ∈ X → b ∈ X') : Step S' X' h h' :=
  fun b o e n => let ⟨p, q⟩ := x b o e (fun m => n (hX b m)); ⟨fun m => p fun m' => m (hS b m'), q⟩
theorem Step.widen {S X : List Addr} {h h' : Heap} (x : Step S [] h h') : Step S X h h' := x.mono (fun _ m => m) fun _ m => nomatch m
/-- the callee's own frame falls away -/
theorem Step.pop {S X : List Addr} {L : Addr} {h h₁ h' : Heap} (k : Kp h h₁) (hL : h.get? L = none) (x : Step (L :: S) X h₁ h') : Step S X h h' := by
  refine fun b o e hX => ?_
  obtain ⟨p, q⟩ := x b o (k b o e) hX
  refine ⟨fun hS => p fun m => ?_, q⟩
  rcases List.mem_cons.mp m with rfl | m
  · rw [hL] at e; cases e
  · exact hS m
theorem Step.get {S X : List Addr} {h h' : Heap} (x : Step S X h h') {b : Addr} {o : Obj} (e : h.get? b = some o) (hS : b ∉ S) (hX : b ∉ X) : h'.get? b = some o := (x b o e hX).1 hS
theorem Step.fresh {S X : List Addr} {h h' : Heap} (x : Step S X h h') {a : Addr} (e : h'.get? a = none) (hX : a ∉ X) : h.get? a = none := by
  cases q : h.get? a with
  | none => rfl
  | some o => obtain ⟨_, _, z⟩ := x a o q hX; rw [e] at z; cases z
/-- a write to what is new -/
theorem Step.write {S X : List Addr} {h h' : Heap} {a : Addr} {f : Obj → Obj} (x : Step S X h h') (ha : h.get? a = none) : Step S X h (h'.update a f) := by
  refine fun b o e hX => ?_
  have hb : a ≠ b := fun q => by rw [q, e] at ha; cases ha
  rw [Heap.get?_update_other _ _ hb]
  exact x b o e hX
theorem Kp.trans {h₁ h₂ h₃ : Heap} (x : Kp h₁ h₂) (y : Kp h₂ h₃) : Kp h₁ h₃ := fun b o e => y b o (x b o e)

/-- what stands below a call -/
structure Und (w : World) (mean : ExcName → Option Value) (mg mb : Str → Option Value) (A : Around) (base : Heap) (l : List Env) (h : Heap) : Prop where
  bs : Bs w mean mg mb base
  stack : A.frames = some l
  stays : base.StaysIn h
  frames : h.FunFrames base l
theorem funFrames_step {base h h' : Heap} {S X : List Addr} (x : Step S X h h') : ∀ {l : List Env}, (∀ b ∈ X, b ∉ frs l) → h.FunFrames base l → h'.FunFrames base l
  | [], _, _ => trivial
  | env :: l, hX, ⟨hk, ⟨L, o, hf, hn, ho, hd⟩, hr⟩ => by
    have hm : L ∈ frs (env :: l) := by unfold frs; rw [List.filterMap_cons, hf]; exact .head _
    obtain ⟨sl, q⟩ := (x L o ho fun m => hX L m hm).2
    refine ⟨hk, ⟨L, _, hf, hn, q, hd⟩, funFrames_step x (fun b m m' => hX b m ?_) hr⟩
    unfold frs; rw [List.filterMap_cons, hf]; exact .tail _ m'
section
variable {w : World} {mean : ExcName → Option Value} {mg mb : Str → Option Value} {A : Around} {base h h' : Heap} {l : List Env}
theorem Und.step {X : List Addr} (u : Und w mean mg mb A base l h) (x : Step (frs l) X h h') (hX : ∀ b ∈ X, base.get? b = none ∧ b ∉ frs l) : Und w mean mg mb A base l h' := by
  refine ⟨u.bs, u.stack, fun b o e => x.get (u.stays b o e) (fun m => ?_) (fun m => ?_), funFrames_step x (fun b m => (hX b m).2) u.frames⟩
  · rw [(u.frames.mem m).1] at e; cases e
  · rw [(hX b m).1] at e; cases e
theorem Und.kp (u : Und w mean mg mb A base l h) (k : Kp h h') : Und w mean mg mb A base l h' :=
  ⟨u.bs, u.stack, fun b o e => k b o (u.stays b o e), u.frames.of_keeps fun b o e _ => ⟨o, k b o e, rfl⟩⟩
theorem Und.in (u : Und w mean mg mb A base l h) : Bs w mean mg mb h := u.bs.keeps u.stays
theorem Und.around {A' : Around} (u : Und w mean mg mb A base l h) (e : A'.frames = A.frames) : Und w mean mg mb A' base l h := ⟨u.bs, e.trans u.stack, u.stays, u.frames⟩
theorem Und.rebase {base' : Heap} (u : Und w mean mg mb A base l h) (b' : Bs w mean mg mb base') (s : base'.StaysIn base) : Und w mean mg mb A base' l h := ⟨b', u.stack, fun b o e => u.stays b o (s b o e), funFrames_base s u.frames⟩
end
section
variable {w : World} {mean : ExcName → Option Value} {mg mb : Str → Option Value} {A : Around} {s : Shared} {base : Heap} {l : List Env}
/-- a def without cells is entered under the caller -/
theorem enter_C {f : Addr} {oc : Value} {od : Option Addr} {osl : Array (Option Value)} {name qual : Str} {params : Arguments} {body : List Stmt} {scope : Scope} {dV kV doc pm cdv ct : Value} {an : Option Addr}
    {args : Args} {binds : List (Str × Value)} {R : Result → Shared → Prop} (b : Und w mean mg mb A base l s.heap) (hroom : A.depth < recursionLimit)
    (ho : (Mine.hd.heap_39 w.params).lookup f = some ⟨oc, od, .func (fnOf name qual params body scope dV kV doc pm an cdv ct), osl⟩) (hcd : codeIn (Mine.hd.heap_39 w.params) cdv qual = true)
    (hbind : BindsTo s (fnOf name qual params body scope dV kV doc pm an cdv ct) args binds)
    (h : ∀ L h₁, Kp s.heap h₁ → s.heap.objs.size ≤ h₁.objs.size → s.heap.get? L = none → h₁.Ns L (fun y => binds.reverse.lookup y) → Und w mean mg mb (A.deeper (envOf qual scope L f cdv)) base (envOf qual scope L f cdv :: l) h₁ → L = s.heap.objs.size →
      wpC (model PR w) (A.deeper (envOf qual scope L f cdv)) (execs body (envOf qual scope L f cdv))
        (fun fl s' => R (.ok (.ret (match fl with | .ret v => v | _ => .none))) s')
        (fun e s' => wpAny (model PR w) (A.deeper (envOf qual scope L f cdv)) (leaving (envOf qual scope L f cdv) e) (fun _ s'' => R (.error e) s'') (fun e' s'' => R (.error e') s'') s')
        { s with heap := h₁, toks := s.toks + binds.length })
    (hloc : (binds.all fun y => scope.names.lookup y.1 == some .local) = true) (hcell : ∀ x ∈ scope.names, x.2 ≠ .cell)
    (hco : scope.isCoroutine = false) (hgen : scope.isGenerator = false) (hk : scope.kind = .function) : codeC (model PR w) A (.call (.ref f) args) R s := by
  have T := b.in.T
  refine K_call_function (fd := fnOf name qual params body scope dV kV doc pm an cdv ct) hroom (b.in.K _ _ ho) rfl hco hgen rfl (codeRec_of b.in.K hcd) (C_any (hbind _ _ _ _ ?_))
  refine C_any (wpAny_newFunctionEnv hcell (fun y hy => beq_iff_eq.mp (List.all_eq_true.mp hloc y hy)) (fun h₁ hns hsb => ?_) hk)
  have kk : Kp s.heap h₁ := fun b o e => hsb.extBut b o (Nat.ne_of_lt (Heap.lt_size e)) (Heap.get?_push_of_some _ e)
  refine ⟨T.nolimit.fresh _ hsb, K_func ?_⟩
  have u₁ := b.kp kk
  have hn : s.heap.get? s.heap.objs.size = none := Heap.get?_none_of_le (Nat.le_refl _)
  refine h s.heap.objs.size h₁ kk (Nat.le_of_lt hns.lt) hn hns ⟨b.bs, Around.frames_deeper b.stack, u₁.stays, ?_⟩ rfl
  refine .cons (by show scope.kind ≠ .module; rw [hk]; decide) rfl hns ?_ u₁.frames
  cases q : base.get? s.heap.objs.size with
  | none => rfl
  | some o => rw [b.stays _ _ q] at hn; cases hn
end

/-- an exception in flight: e, of the class cls; B is what stood when it was raised (but for the frames), and bears P -/
def Flung (l : List Env) (X : List Addr) (P : Heap → Prop) (h h' : Heap) (e : Addr) (cls : String) : Prop :=
  Step (frs l) X h h' ∧ h.get? e = none ∧ ∃ B a0, (∀ b o, h.get? b = some o → b ∉ frs l → b ∉ X → B.get? b = some o) ∧ P B ∧ Heap.FlyingW B l e (.type cls) a0 h'
theorem frs_cons {env : Env} {l : List Env} {L : Addr} (hf : env.frame = some L) : frs (env :: l) = L :: frs l := by unfold frs; rw [List.filterMap_cons, hf]
/-- from one heap to the next at a frame that is left -/
theorem step_leave {env : Env} {l : List Env} {L : Addr} {X X' : List Addr} {h hc h' h'' B : Heap} (hf : env.frame = some L) (st : Step (frs l) X h hc) (hL : h.get? L = none) (hXX : ∀ b ∈ X', b ∈ X ∨ h.get? b = none)
    (st2 : Step (frs (env :: l)) X' hc h') (hB : ∀ b o, hc.get? b = some o → b ∉ frs (env :: l) → b ∉ X' → B.get? b = some o) (ff : h'.FunFrames B (env :: l)) (hkb : B.StaysIn h'') (hu : h'.UpToSlots h'') : Step (frs l) X h h'' := by
  refine fun b o eb hX => ?_
  have nL : b ≠ L := fun q => by rw [q, hL] at eb; cases eb
  obtain ⟨p1, sl1, q1⟩ := st b o eb hX
  have hX' : b ∉ X' := fun m => (hXX b m).elim hX fun q => by rw [q] at eb; cases eb
  by_cases hm : b ∈ frs (env :: l)
  · refine ⟨fun hS => absurd hm (by rw [frs_cons hf]; intro m; rcases List.mem_cons.mp m with q | q; exact nL q; exact hS q), ?_⟩
    obtain ⟨sl, q⟩ := (st2 b _ q1 hX').2
    obtain ⟨_, o', ho', hd'⟩ := ff.mem hm
    rw [q] at ho'; injection ho' with ho'; subst ho'
    obtain ⟨sl', q'⟩ := hu b _ q hd'
    exact ⟨sl', q'⟩
  · have hm' : b ∉ frs l := fun m => hm (by rw [frs_cons hf]; exact .tail _ m)
    have q := hkb b o (hB b o (p1 hm') hm hX')
    exact ⟨fun _ => q, o.slots, q⟩
section
variable {M : Model} {A : Around} {E : Value → Shared → Prop} {s' : Shared} {h hc : Heap} {env : Env} {l : List Env} {L e : Addr} {X X' : List Addr} {P P' : Heap → Prop} {cls : String} {Q : Unit → Shared → Prop}
theorem fresh_of_step {S : List Addr} (st : Step S X h hc) (hX : ∀ b ∈ X, hc.get? b ≠ none) {a : Addr} (e : hc.get? a = none) : h.get? a = none := st.fresh e fun m => hX a m e
/-- an exception in flight passes a frame -/
theorem leave_on (hst : A.frames = some l) (hf : env.frame = some L) (st : Step (frs l) X h hc) (hX : ∀ b ∈ X, hc.get? b ≠ none) (hL : h.get? L = none) (hXX : ∀ b ∈ X', b ∈ X ∨ h.get? b = none) (hPP : ∀ B, P' B → P B) (F : Flung (env :: l) X' P' hc s'.heap e cls)
    (hQ : ∀ h'', Flung l X P h h'' e cls → Q () { s' with heap := h'' }) : wpAny M (A.deeper env) (leaving env (.ref e)) Q E s' := by
  obtain ⟨st2, he, B, a0, hB, hP, fl⟩ := F
  refine wpAny_leaves_onW (Around.frames_deeper hst) hf fl fun h'' x1 x2 => hQ h'' ⟨step_leave hf st hL hXX st2 hB fl.2.2.1 x1.1 x2, fresh_of_step st hX he, B, a0, fun b o eb hm hbX => hB b o ((st b o eb hbX).1 hm) (fun m => ?_) (fun m => (hXX b m).elim hbX fun q => by rw [q] at eb; cases eb), hPP _ hP, x1⟩
  rw [frs_cons hf] at m
  rcases List.mem_cons.mp m with rfl | m
  · rw [hL] at eb; cases eb
  · exact hm m
/-- an exception made at a frame leaves it -/
theorem leave_new {base : Heap} (hst : A.frames = some l) (hf : env.frame = some L) (st : Step (frs l) X h hc) (hX : ∀ b ∈ X, hc.get? b ≠ none) (hL : h.get? L = none) (ff : hc.FunFrames base (env :: l))
    (x : Heap.NewExc hc s'.heap e cls) (hP : ∀ B, (∀ b o, hc.get? b = some o → b ∉ frs (env :: l) → B.get? b = some o) → P B)
    (hQ : ∀ h'', Flung l X P h h'' e cls → Q () { s' with heap := h'' }) : wpAny M (A.deeper env) (leaving env (.ref e)) Q E s' := by
  obtain ⟨ob, tp, he, hcls, hd⟩ := x.there
  have hB : ∀ b o, hc.get? b = some o → b ∉ frs (env :: l) → (hideAll hc (frs (env :: l))).get? b = some o := fun b o e n => hideAll_get _ e n
  have hin : ∀ e' ∈ (env :: l), ∀ b, e'.frame = some b → b ∈ frs (env :: l) := fun e' he' b hb => List.mem_filterMap.mpr ⟨e', he', hb⟩
  have ff' := funFrames_hide ff hin
  have hen : (hideAll hc (frs (env :: l))).get? e = none := by
    cases q : (hideAll hc (frs (env :: l))).get? e with
    | none => rfl
    | some o => have := of_hideAll _ q; rw [x.new] at this; cases this
  have k2 : Kp hc s'.heap := x.keeps
  have kb : (hideAll hc (frs (env :: l))).StaysIn s'.heap := fun b o q => k2 b o (of_hideAll _ q)
  have ffs : s'.heap.FunFrames (hideAll hc (frs (env :: l))) (env :: l) := ff'.of_keeps fun b o hb _ => ⟨o, k2 b o hb, rfl⟩
  refine wpAny_leaving_firstW (a0 := tp) (Around.frames_deeper hst) ffs hf he kb hen hd rfl rfl fun h'' hL' => ?_
  obtain ⟨k1, k2', k3, k4⟩ := hL'
  have x1 : Heap.FlyingW (hideAll hc (frs (env :: l))) l e (.type cls) tp h'' := ⟨k1, hen, k2'.2.2, by rw [← hcls]; exact k3⟩
  refine hQ h'' ⟨step_leave (X' := []) hf st hL (fun _ m => nomatch m) (.of_kp k2) (fun b o e1 hm _ => hB b o e1 hm) ffs x1.1 k4, fresh_of_step st hX x.new, _, tp, fun b o e1 hm hbX => hB b o ((st b o e1 hbX).1 hm) (fun m => ?_), hP _ hB, x1⟩
  rw [frs_cons hf] at m
  rcases List.mem_cons.mp m with rfl | m
  · rw [hL] at e1; cases e1
  · exact hm m
end
end Mine

/-! MH -/
namespace Mine
abbrev listO (acc : Array Value) (c : Nat) : Obj := { cls := .type "list", dict := none, data := .seq acc c, slots := #[] }
section
variable {prog : Program} {w : World} {A : Around} {E : Value → Shared → Prop} {s : Shared} {R : Result → Shared → Prop}
theorem K_builtin {id : String} {args : Args} {b : Builtin} (hb : entryFor table id = some b)
    (h : wpC (model prog w) (A.under (.builtin id args)) (b args)
      (fun fin s' => match fin with | .done f => R (.ok f) s' | .again c' => c'.quiet = true ∧ codeC (model prog w) A c' R s') (fun e s' => R (.error e) s') s) :
    codeC (model prog w) A (.builtin id args) R s := by
  refine K_tree ?_
  show wpC _ _ (match entryFor table id with | some b => b args | none => unsupported ((withoutEnding? id "#data").getD id)) _ _ s
  rw [hb]; exact h
theorem K_call_builtin {id : String} {args : Args} {b : Builtin} (hq : plainId id = true) (hb : entryFor table id = some b)
    (h : wpAny (model prog w) A.in1 (checkBuiltinCall id args) (fun _ s₁ => wpC (model prog w) A.in1 (b args)
      (fun fin s' => match fin with | .done f => R (.ok f) s' | .again c' => c'.quiet = true ∧ codeC (model prog w) A c' R s') (fun e s' => R (.error e) s') s₁)
      (fun e s' => R (.error e) s') s) : codeC (model prog w) A (.call (.builtin id) args) R s := by
  refine K_tree ?_
  show wpC _ A.in1 (do checkBuiltinCall id args; again (.builtin id args)) _ _ s
  refine C_step (wpAny_mono h (fun _ s₁ h₁ => C_pure (And.intro (plainId_quiet hq args) (K_builtin hb ?_))) fun _ _ h' => h')
  rw [Around.under_plainId hq args]; exact h₁

theorem den_builtin {id : String} {args : Args} {b : Builtin} (hb : entryFor table id = some b) : (model prog w).den (.builtin id args) = b args := by
  show (match entryFor table id with | some b => b args | none => unsupported ((withoutEnding? id "#data").getD id)) = _
  rw [hb]
/-- the loop of list.extend over an iterator that may raise -/
theorem K_extend_loop {S I : Addr} {res : Value} (St : Array Value → Nat → Shared → Prop) (End : Array Value → Shared → Prop)
    (keepS : ∀ acc acc' c n s f, s.heap.get? S = some (listO acc' c) → St acc n s → St acc n { s with heap := s.heap.update S f })
    (turn : ∀ acc c n s, s.heap.get? S = some (listO acc c) → St acc n s → wpC (model prog w) A.in1 (pyNext (.ref I)) (fun r s' => s'.heap.get? S = some (listO acc c) ∧ acc.size ≤ sizeLine ∧ match r with
      | none => End acc s'
      | some v => ∃ m, m < n ∧ St (acc.push v) m s') (fun e s' => R (.error e) s') s)
    (stop : ∀ acc c s, s.heap.get? S = some (listO acc c) → End acc s → R (.ok (.ret res)) s) (acc : Array Value) (c n : Nat) (hS : s.heap.get? S = some (listO acc c)) (hst : St acc n s) :
    codeC (model prog w) A (.builtin "list.extend.loop" ⟨[.ref S, .ref I, res], []⟩) R s := by
  refine K_loop (plainId_quiet F.plain_extend_loop _) (fun n s => ∃ acc c, s.heap.get? S = some (listO acc c) ∧ St acc n s) (fun n s hI => ?_) n ⟨acc, c, hS, hst⟩
  obtain ⟨acc, c, hS, hst⟩ := hI
  rw [Around.under_plainId F.plain_extend_loop _]
  rw [den_builtin F.entry_extend_loop]
  show wpC _ A.in1 (pyNext (.ref I) >>= _) _ _ s
  refine C_bind (C_mono (turn acc c n s hS hst) (fun r s₁ h₁ => ?_) fun _ _ x => x)
  obtain ⟨hS₁, hz, h₁⟩ := h₁
  cases r with
  | none => exact C_pure (stop _ _ _ hS₁ h₁)
  | some v =>
    obtain ⟨m, hm, h₂⟩ := h₁
    show wpC _ A.in1 (updateSeq S (·.push v) >>= _) _ _ _
    refine C_step (wpAny_updateSeq hS₁ rfl (C_pure (.inl ⟨rfl, ⟨m, hm, _, _, Heap.get?_update_self _ hS₁ rfl, keepS _ _ _ _ _ _ hS₁ h₂⟩⟩)) hz (by show (acc.push v).size ≤ sizeLine + 1; rw [Array.size_push]; omega))

/-- list() of an iterator of one's own, under the caller -/
theorem C_call_list {x : Addr} {T0 : Value} {Q : Value → Shared → Prop} (St : Array Value → Nat → Shared → Prop) (End : Array Value → Shared → Prop) (n₀ : Nat)
    (hT : ∀ h', Kp s.heap h' → Looks (model prog w) h' (typeOf (.ref x)) T0) (ht : (T0 == .type "list") = false ∧ (T0 == .type "tuple") = false)
    (hLen : ∀ h', Kp s.heap h' → Looks (model prog w) h' (specialOf (.ref x) "__len__") none) (hHint : ∀ h', Kp s.heap h' → Looks (model prog w) h' (specialOf (.ref x) "__length_hint__") none)
    (hIter : ∀ s' Q, Kp s.heap s'.heap → (∀ h'' tk, Kp s'.heap h'' → Q (.ref x) { s' with heap := h'', toks := tk }) → wpAny (model prog w) A.in1.in1 (pyIter (.ref x)) Q E s')
    (start : ∀ h' tk, Kp s.heap h' → St #[] n₀ { s with heap := h', toks := tk })
    (keepS : ∀ S acc acc' c n s' f, s.heap.get? S = none → s'.heap.get? S = some (listO acc' c) → St acc n s' → St acc n { s' with heap := s'.heap.update S f })
    (turn : ∀ S acc c n s', s.heap.get? S = none → s'.heap.get? S = some (listO acc c) → St acc n s' → wpC (model prog w) A.in1.in1 (pyNext (.ref x)) (fun r s'' => s''.heap.get? S = some (listO acc c) ∧ acc.size ≤ sizeLine ∧ match r with
      | none => End acc s''
      | some v => ∃ m, m < n ∧ St (acc.push v) m s'') E s')
    (stop : ∀ S acc c s', s.heap.get? S = none → s'.heap.get? S = some (listO acc c) → End acc s' → Q (.ref S) s') (hx : x < s.heap.objs.size) :
    wpC (model prog w) A (call (.type "list") [.ref x]) Q E s := by
  have ft := F.called_list
  obtain ⟨c, tl, hmro⟩ := ft.mro
  have hmade := ft.made
  have hsub := ft.sub
  refine C_call (K_tree ?_)
  show wpC _ _ (callAny (.type "list") _) _ _ _
  refine C_pure ⟨Code.quiet_builtin _ (by decide +kernel), K_builtin F.entry_type_call ?_⟩
  rw [Around.under_plain (weight_type_call_type "list" [.ref x] []) rfl]
  have h1 := ft.notType
  have h2 := ft.canCreate
  have hct := F.typeCall_list_1 (.ref x)
  unfold Builtin.«type.__call__»
  dsimp only
  simp only [h1, h2, hct, Bool.false_eq_true, if_false]
  refine C_step (wpAny_pure ?_)
  refine C_step (wpAny_of_eq hmro ?_)
  simp only [List.isEmpty_cons, Bool.false_eq_true, if_false]
  refine C_step (wpAny_of_eq hmade ?_)
  dsimp only
  refine C_step (wpAny_pure ?_)
  have hS : (s.heap.push { cls := .type "list", data := .seq #[] }).get? s.heap.objs.size = some (listO #[] 0) := Heap.get?_push_size _ rfl
  have hSn : s.heap.get? s.heap.objs.size = none := Heap.get?_none_of_le (Nat.le_refl _)
  have hSx : s.heap.objs.size ≠ x := Nat.ne_of_gt hx
  have k0 : Kp s.heap (s.heap.push { cls := .type "list", data := .seq #[] }) := fun b o e => Heap.get?_push_of_some _ e
  have hTS : ({ s with heap := s.heap.push { cls := .type "list", data := .seq #[] } } : Shared).TypeIs (.ref s.heap.objs.size) "list" := ⟨_, hS, rfl⟩
  refine C_step (wpAny_holding (wpAny_call ((codeAny_mono (code_list_new (E := E) (Q₁ := fun obj s₁ => obj = .ref s.heap.objs.size ∧ s₁ = { s with heap := s.heap.push { cls := .type "list", data := .seq #[] } }) _ ⟨rfl, rfl⟩) fun r s₁ hr => ?_))))
  cases r with
  | error e => exact hr
  | ok fl =>
  cases fl with
  | ret obj =>
    obtain ⟨rfl, rfl⟩ := hr
    dsimp only
    refine C_step (wpAny_isInstance hTS hsub ?_)
    simp only [Bool.not_true, Bool.false_eq_true, if_false]
    refine C_bind (C_holding ?_)
    unfold callSpecial?
    refine C_step (wpAny_specialOf hTS ft.init.lookup ?_)
    dsimp only
    refine C_holding ?_
    refine C_step (wpAny_of_eq (ft.init.bind _) ?_)
    dsimp only
    refine C_bind (C_call (K_call_builtin ft.init.plain F.entry_list_init (ft.init.check _ _ _ _ _ _ _ _ hTS (F.args_list_init_2 _ _) ?_)))
    show wpC _ A.in1.in1 (do let old ← Builtin.List.listItems (.ref s.heap.objs.size); Builtin.List.listUpdate (.ref s.heap.objs.size) (fun _ => #[]); letGo old.toList.reverse; Builtin.List.listExtendWith (.ref s.heap.objs.size) (.ref x) .none) _ _ _
    refine C_step ?_
    unfold Builtin.List.listItems
    refine wpAny_bind (wpAny_seqItems hS rfl (wpAny_pure ?_))
    show wpC _ A.in1.in1 (updateSeq s.heap.objs.size (fun _ => #[]) >>= fun _ => letGo (#[] : Array Value).toList.reverse >>= fun _ => Builtin.List.listExtendWith (.ref s.heap.objs.size) (.ref x) .none) _ _ _
    refine C_step (wpAny_updateSeq hS rfl ?_)
    have hS₂ := Heap.get?_update_self (Obj.mapSeq (fun _ => (#[] : Array Value))) hS rfl
    have k2 : Kp s.heap ((s.heap.push { cls := .type "list", data := .seq #[] }).update s.heap.objs.size (Obj.mapSeq (fun _ => (#[] : Array Value)))) := fun b o e =>
      (Heap.get?_update_other _ _ (fun q => by rw [← q, hSn] at e; cases e)).trans (k0 b o e)
    refine C_step (wpAny_letGo ?_)
    unfold Builtin.List.listExtendWith
    refine C_step ?_
    refine (hT _ k2).here ?_
    have h4 : Builtin.List.listSameRef (.ref s.heap.objs.size) (.ref x) = false := by simp [Builtin.List.listSameRef, hSx]
    simp only [h4, ht.1, ht.2, Bool.or_false, Bool.false_eq_true, if_false]
    refine C_step (hIter _ _ k2 fun h'' tk k3 => ?_)
    have hS₃ := k3 _ _ hS₂
    have k4 := Kp.trans k2 k3
    refine C_step (wpAny_holding ?_)
    unfold Builtin.List.listLengthHint
    refine wpAny_bind ?_
    refine (hLen _ k4).here ?_
    dsimp only
    refine wpAny_bind ?_
    refine (hHint _ k4).here ?_
    refine wpAny_pure ?_
    show wpC _ A.in1.in1 (rule "list.extend.makes-room" >>= fun _ => Builtin.List.listTouch (.ref s.heap.objs.size) >>= fun _ =>
      again (.builtin "list.extend.loop" ⟨[.ref s.heap.objs.size, .ref x, .none], []⟩)) _ _ _
    refine C_step (wpAny_rule ?_)
    refine C_step ?_
    show wpAny _ A.in1.in1 (updateSeq s.heap.objs.size (·.push .none) >>= fun _ => updateSeq s.heap.objs.size (·.pop)) _ _ _
    refine wpAny_bind (wpAny_updateSeq hS₃ rfl ?_)
    have hS₄ := Heap.get?_update_self (Obj.mapSeq (·.push Value.none)) hS₃ rfl
    refine wpAny_updateSeq hS₄ rfl ?_
    have hS₅ := Heap.get?_update_self (Obj.mapSeq (·.pop)) hS₄ rfl
    have k5 : Kp s.heap ((h''.update s.heap.objs.size (Obj.mapSeq (·.push Value.none))).update s.heap.objs.size (Obj.mapSeq (·.pop))) := fun b o e =>
      have nb : s.heap.objs.size ≠ b := fun q => by rw [← q, hSn] at e; cases e
      (Heap.get?_update_other _ _ nb).trans ((Heap.get?_update_other _ _ nb).trans (k4 b o e))
    refine C_pure ⟨plainId_quiet F.plain_extend_loop _, ?_⟩
    refine K_extend_loop St End (fun acc acc' c n s' f q => keepS _ acc acc' c n s' f hSn q) (fun acc c n s' q => turn _ acc c n s' hSn q) (fun acc c s' q1 q2 => ?_) #[] _ n₀ hS₅ (start _ _ k5)
    dsimp only
    refine C_pure ?_
    dsimp only
    exact C_pure (stop _ _ _ _ hSn q1 q2)
  | next => exact hr.elim
  | brk => exact hr.elim
  | cont => exact hr.elim
end
end Mine

/-! MI -/
namespace Mine
/-! A row, as it lies in the heap, and the things it gives when it is spread. -/
def Atm (v : Value) (d : PyData) : Prop := (∃ n t, v = .int n t ∧ d = .int n) ∨ (∃ s t, v = .str s t ∧ d = .str s)
def AllAtm : List Value → List PyData → Prop
  | [], [] => True
  | v :: vs, d :: ds => Atm v d ∧ AllAtm vs ds
  | _, _ => False
theorem AllAtm.length : ∀ {vs : List Value} {ds : List PyData}, AllAtm vs ds → vs.length = ds.length
  | [], [], _ => rfl
  | _ :: _, _ :: _, h => by rw [List.length_cons, List.length_cons, AllAtm.length h.2]
theorem allAtm_of : ∀ {vs : List Value} {ds : List PyData}, vs.length = ds.length → (∀ (i : Nat) v d, vs[i]? = some v → ds[i]? = some d → Atm v d) → AllAtm vs ds
  | [], [], _, _ => trivial
  | v :: vs, d :: ds, hl, h => ⟨h 0 v d rfl rfl, allAtm_of (by simpa using hl) fun i x y hx hy => h (i + 1) x y (by simpa using hx) (by simpa using hy)⟩
  | [], _ :: _, hl, _ => by simp at hl
  | _ :: _, [], hl, _ => by simp at hl
inductive RowAt (h : Heap) : Value → Option (List PyData) → Prop
  | list {a o items n ds} : h.get? a = some o → o.cls = .type "list" → o.data = .seq items n → items.size ≤ 4 → AllAtm items.toList ds → RowAt h (.ref a) (some ds)
  | tup {a o items n ds} : h.get? a = some o → o.cls = .type "tuple" → o.data = .seq items n → items.size ≤ 4 → AllAtm items.toList ds → RowAt h (.ref a) (some ds)
  | rng {a t u v} {n : Nat} : IsRange h a 0 n 1 t u v → n ≤ 4 → RowAt h (.ref a) (some ((List.range n).map fun (i : Nat) => PyData.int (i : Int)))
  | str {x : Str} {t} : x.cps.size ≤ 4 → RowAt h (.str x t) (some (x.cps.toList.map fun c => .str ⟨#[c]⟩))
  | dict {d ep} {kvs : List (Int × Value)} : (∀ prog w, h.DictAt (intKind prog w) d kvs ep) → (d == sysModules) = false → kvs.length ≤ 4 → RowAt h (.ref d) (some (kvs.map fun q => .int q.1))
  | int {i t} : RowAt h (.int i t) none
def rowType : Value → Heap → String → Prop := fun v h T => ∃ g d t o, Shared.TypeIs ⟨h, g, d, t, o⟩ v T
theorem RowAt.keeps {h h' : Heap} {v : Value} {od : Option (List PyData)} (r : RowAt h v od) (k : Kp h h') : RowAt h' v od := by
  cases r with
  | list a b c d e => exact .list (k _ _ a) b c d e
  | tup a b c d e => exact .tup (k _ _ a) b c d e
  | rng a b => exact .rng (k _ _ a) b
  | str a => exact .str a
  | dict a b c => exact .dict (fun p w => (a p w).at' fun o e => k _ o e) b c
  | int => exact .int
section
variable {prog : Program} {w : World} {A : Around} {E : Value → Shared → Prop} {s : Shared}
theorem iadd_of {S v : Value} {R : Result → Shared → Prop} (h : wpAny (model prog w) A.in1 (Builtin.List.listExtendWith S v S)
        (fun fin s' => match fin with | .done f => R (.ok f) s' | .again c' => c'.quiet = true ∧ codeAny (model prog w) A c' R s') (fun e s' => R (.error e) s') s) :
    codeAny (model prog w) A (.builtin "list.__iadd__" ⟨[S, v], []⟩) R s := by
  refine codeAny_builtin F.entry_list_iadd ?_
  rw [Around.under_plainId F.plain_list_iadd _]
  exact h
theorem iadd_R {S v : Value} {R : Result → Shared → Prop} {K : (Result → Shared → Prop) → Prop} (h : ∀ R, K R → wpAny (model prog w) A.in1 (Builtin.List.listExtendWith S v S)
        (fun fin s' => match fin with | .done f => R (.ok f) s' | .again c' => c'.quiet = true ∧ codeAny (model prog w) A c' R s') (fun e s' => R (.error e) s') s) (k : K R) :
    codeAny (model prog w) A (.builtin "list.__iadd__" ⟨[S, v], []⟩) R s := iadd_of (h R k)
/-- collect(), from what list.extend does -/
theorem collect_of {v : Value} {Q : List Value → Shared → Prop}
    (h : ∀ R : Result → Shared → Prop, (∀ h' tk acc c, Kp s.heap h' → h'.get? s.heap.objs.size = some (listO acc c) → Q acc.toList { s with heap := h', toks := tk } → R (.ok (.ret (.ref s.heap.objs.size))) { s with heap := h', toks := tk }) →
      wpAny (model prog w) A.in1 (Builtin.List.listExtendWith (.ref s.heap.objs.size) v (.ref s.heap.objs.size))
        (fun fin s' => match fin with | .done f => R (.ok f) s' | .again c' => c'.quiet = true ∧ codeAny (model prog w) A c' R s') (fun e s' => R (.error e) s') { s with heap := s.heap.push (listO #[] 0) }) :
    wpAny (model prog w) A (collect v) Q E s := by
  unfold collect
  refine wpAny_bind (wpAny_runValue (codeAny_builtin F.entry_proto_collect ?_))
  rw [Around.under_plainId F.plain_proto_collect _]
  show wpAny _ A.in1 (newList [] >>= fun l => again (.builtin "list.__iadd__" ⟨[l, v], []⟩)) _ _ s
  refine wpAny_bind (wpAny_newObj_type ?_)
  refine wpAny_pure ⟨plainId_quiet F.plain_list_iadd _, iadd_R h fun h' tk acc c _ hS hq => ?_⟩
  show wpAny _ A (load s.heap.objs.size >>= _) _ _ _
  exact wpAny_bind (wpAny_load hS (wpAny_pure hq))
theorem rangeSize_up (n : Nat) : Builtin.Range.rangeSize 0 n 1 = n := by
  unfold Builtin.Range.rangeSize; simp; omega
theorem range_small {n : Nat} (h : n ≤ 4) : Builtin.Range.small 0 n 1 = true := by
  have : n = 0 ∨ n = 1 ∨ n = 2 ∨ n = 3 ∨ n = 4 := by omega
  rcases this with rfl | rfl | rfl | rfl | rfl <;> decide +kernel
theorem collect_row {v : Value} {ds : List PyData} {Q : List Value → Shared → Prop} (hh : A.handled = none) (r : RowAt s.heap v (some ds))
    (hQ : ∀ h' tk vs, Kp s.heap h' → AllAtm vs ds → Q vs { s with heap := h', toks := tk }) : wpAny (model prog w) A (collect v) Q E s := by
  cases r with
  | list a b c d e => exact wpAny_collect_seq (hsz := by rw [sizeLine_eq]; omega) _ (.inl rfl) a b c fun h' k => hQ h' s.toks _ k e
  | tup a b c d e => exact wpAny_collect_seq (hsz := by rw [sizeLine_eq]; omega) _ (.inr rfl) a b c fun h' k => hQ h' s.toks _ k e
  | @rng a t u v n hr hn =>
    refine collect_of fun R hR => ?_
    have k0 : Kp s.heap (s.heap.push (listO #[] 0)) := fun b o e => Heap.get?_push_of_some _ e
    refine wpAny_extend_range (A := A) hh (k0 _ _ hr) (range_small hn) (rangeSize_up n) (by omega) _ _ 0 (Heap.get?_push_size _ rfl) fun h' tk acc' c' hk hS hacc => ?_
    have hk' : Kp s.heap h' := fun b o e => hk b o (Nat.ne_of_lt (Heap.lt_size e)) (k0 _ _ e)
    refine hR h' tk acc' c' hk' hS (hQ h' tk _ hk' (allAtm_of (by rw [Array.length_toList, hacc.1, List.length_map, List.length_range]) fun i x y hx hy => ?_))
    obtain ⟨t', rfl⟩ := hacc.2 i x (by rw [← Array.getElem?_toList]; exact hx)
    rw [List.getElem?_map] at hy
    have hi : i < n := by
      have := (List.getElem?_eq_some_iff.mp hx).1
      rw [Array.length_toList, hacc.1] at this; exact this
    rw [List.getElem?_range hi] at hy
    simp only [Option.map_some, Option.some.injEq] at hy
    exact .inl ⟨_, _, rfl, by rw [← hy]; congr 1; omega⟩
  | @str x t hx =>
    refine wpAny_collect_str (hn := by rw [sizeLine_eq]; omega) hh x t fun s' acc hk hg hd ho hacc => ?_
    have e : s' = { s with heap := s'.heap, toks := s'.toks } := by
      obtain ⟨a1, a2, a3, a4, a5⟩ := s'
      simp only at hg hd ho
      subst hg hd ho
      rfl
    rw [e]
    refine hQ _ _ _ hk (allAtm_of (by simp [hacc.1]) fun i y z hy hz => ?_)
    obtain ⟨c, u, hc, rfl⟩ := hacc.2 i y (by rw [← Array.getElem?_toList]; exact hy)
    rw [List.getElem?_map, Array.getElem?_toList, hc] at hz
    simp only [Option.map_some, Option.some.injEq] at hz
    exact .inr ⟨_, _, rfl, hz.symm⟩
  | @dict d ep kvs hd lo hn =>
    refine collect_of fun R hR => ?_
    have k0 : Kp s.heap (s.heap.push (listO #[] 0)) := fun b o e => Heap.get?_push_of_some _ e
    have ne : s.heap.objs.size ≠ d := Nat.ne_of_gt (hd prog w).lt_size
    refine kdl_extend (A := A) (kdl_dict (knd := intKind prog w) (kvs := kvs) (ep := ep) lo) hh ((hd prog w).at' fun o e => k0 _ o e) _ ne ne _ 0 (Heap.get?_push_size _ rfl) (fun h' tk acc' c' hk hS hacc => ?_) (by rw [sizeLine_eq]; omega)
    have hk' : Kp s.heap h' := fun b o e => hk b o (Nat.ne_of_lt (Heap.lt_size e)) (k0 _ _ e)
    refine hR h' tk acc' c' hk' hS (hQ h' tk _ hk' (allAtm_of (by rw [Array.length_toList, hacc.1, List.length_map]) fun i x y hx hy => ?_))
    obtain ⟨k, x', hkx, hik⟩ := hacc.2 i x (by rw [← Array.getElem?_toList]; exact hx)
    obtain ⟨t', rfl⟩ := Value.isInt_shape hik
    rw [List.getElem?_map, hkx] at hy
    simp only [Option.map_some, Option.some.injEq] at hy
    exact .inl ⟨_, _, rfl, hy.symm⟩
end
end Mine

/-! MJ -/
namespace Mine
/-! tuple() of a row; the type of a row -/
theorem meets_tuple_new {v : Value} {T : String} (P : List Value → Shared → Prop) (hT4 : T = "list" ∨ T = "range" ∨ T = "str" ∨ T = "dict") :
    Meets (Builtin.«tuple.__new__» ⟨[.type "tuple", v], []⟩)
      (fun A R s => s.TypeIs v T ∧ (∀ prog w Q E, (∀ vs s', P vs s' → Q vs s') → wpAny (model prog w) A.in1 (collect v) Q E s) ∧ ∀ vs s', P vs s' → vs.length ≤ sizeLine ∧ R (.ok (.ret (.ref s'.heap.objs.size))) { s' with heap := s'.heap.push (tupO vs) }) :=
  .of_wp fun prog w A R s h => by
    obtain ⟨hT, hc, h⟩ := h
    have hsub := sub_tuple_self
    have hinit := init_tuple_lookup
    have hmh := madeHere_tuple
    have hcol := hc prog w
    rcases hT4 with rfl | rfl | rfl | rfl
    all_goals
      wp_walk using wpAny_typeOf hT, hcol _ _
      intro vs s' q
      obtain ⟨q1, q2⟩ := h vs s' q
      show wpAny _ _ (Builtin.Tuple.tupleExact vs.toArray >>= fun v => ret v) _ _ _
      unfold Builtin.Tuple.tupleExact
      refine wpAny_bind (wpAny_newObj_type ?_ (by show vs.toArray.size ≤ sizeLine; simpa using q1))
      exact wpAny_pure ⟨_, rfl, q2⟩
/-- the type of a row: a tuple, or one that tuple() spreads -/
theorem RowAt.typeIs {h : Heap} (w : World) {v : Value} {ds : List PyData} (r : RowAt h v (some ds)) :
    (∃ a o items n, v = .ref a ∧ h.get? a = some o ∧ o.cls = .type "tuple" ∧ o.data = .seq items n ∧ items.size ≤ 4 ∧ AllAtm items.toList ds) ∨
      ∃ T, (T = "list" ∨ T = "range" ∨ T = "str" ∨ T = "dict") ∧ (∀ g d t o, Shared.TypeIs ⟨h, g, d, t, o⟩ v T) ∧ ((∃ a, v = .ref a) ∨ (∃ x t, v = .str x t ∧ T = "str") ∨ ∃ i t, v = .int i t ∧ T = "int") := by
  cases r with
  | list a b c d e => exact .inr ⟨_, .inl rfl, fun _ _ _ _ => ⟨_, a, b⟩, .inl ⟨_, rfl⟩⟩
  | tup a b c d e => exact .inl ⟨_, _, _, _, rfl, a, b, c, d, e⟩
  | rng a b => exact .inr ⟨_, .inr (.inl rfl), fun _ _ _ _ => ⟨_, a, rfl⟩, .inl ⟨_, rfl⟩⟩
  | str a => exact .inr ⟨_, .inr (.inr (.inl rfl)), fun _ _ _ _ => rfl, .inr (.inl ⟨_, _, rfl, rfl⟩)⟩
  | dict a b c => exact .inr ⟨_, .inr (.inr (.inr rfl)), fun _ _ _ _ => (a PR w).dictOf.typeIs, .inl ⟨_, rfl⟩⟩
theorem RowAt.small {h : Heap} {v : Value} {ds : List PyData} (r : RowAt h v (some ds)) : ds.length ≤ 4 := by
  cases r with
  | list a b c d e => rw [← e.length]; simpa using d
  | tup a b c d e => rw [← e.length]; simpa using d
  | rng a b => simpa using b
  | str a => simpa using a
  | dict a b c => simpa using c
section
variable {w : World} {A : Around} {E : Value → Shared → Prop} {s : Shared}
theorem tuple_row {v : Value} {ds : List PyData} {T : String} {Q : Value → Shared → Prop} (hh : A.handled = none) (hT4 : T = "list" ∨ T = "range" ∨ T = "str" ∨ T = "dict") (hT : s.TypeIs v T) (r : RowAt s.heap v (some ds))
    (hQ : ∀ h' tk vs t, Kp s.heap h' → s.heap.get? t = none → h'.get? t = some (tupO vs) → AllAtm vs ds → Q (.ref t) { s with heap := h', toks := tk }) : wpAny (model PR w) A (call (.type "tuple") [v]) Q E s := by
  refine callType_new F.called_tuple (by decide) (F.typeCall_tuple_1 _) (F.newCall_tuple_1 _) (fun obj => F.args_object_init_2 obj _) F.entry_tuple_new
    (meets_tuple_new (v := v) (T := T) (fun vs s' => ∃ h' tk, s' = { s with heap := h', toks := tk } ∧ Kp s.heap h' ∧ AllAtm vs ds) hT4) ⟨hT, fun prog w Q E k => collect_row (A := A.in1.in1) hh r fun h' tk vs k1 k2 => k _ _ ⟨h', tk, rfl, k1, k2⟩, fun vs s' q => ?_⟩
  obtain ⟨h', tk, rfl, k1, k2⟩ := q
  have hn : s.heap.get? h'.objs.size = none := by
    cases q : s.heap.get? h'.objs.size with
    | none => rfl
    | some o => exact absurd (Heap.lt_size (k1 _ _ q)) (Nat.lt_irrefl _)
  refine ⟨by rw [k2.length, sizeLine_eq]; have := r.small; omega, ⟨_, Heap.get?_push_size _ rfl, rfl⟩, hQ _ _ vs _ (fun b o e => Heap.get?_push_of_some _ (k1 b o e)) hn (Heap.get?_push_size _ rfl) k2⟩
end
end Mine

/-! MK -/
namespace Mine
section
variable {w : World} {mean : ExcName → Option Value} {mg mb : Str → Option Value} {A : Around} {s : Shared}
theorem enter_made {f : Addr} {oc : Value} {od : Option Addr} {osl : Array (Option Value)} {name qual : Str} {params : Arguments} {body : List Stmt} {scope : Scope} {dV kV doc pm cdv ct : Value} {an : Option Addr}
    {args : Args} {o : Obj} {kk : Addr → Sem (List (Str × Value))} {binds : Addr → List (Str × Value)} {R : Result → Shared → Prop} (b : Bs w mean mg mb s.heap) (hroom : A.depth < recursionLimit)
    (ho : (Mine.hd.heap_39 w.params).lookup f = some ⟨oc, od, .func (fnOf name qual params body scope dV kV doc pm an cdv ct), osl⟩) (hcd : codeIn (Mine.hd.heap_39 w.params) cdv qual = true)
    (hbind : strip (Mine.hd.heap_39 w.params) ⟨PR, w.params⟩ 400 (bindArgs (fnOf name qual params body scope dV kV doc pm an cdv ct) args) = Sem.alloc o kk)
    (hbind2 : ∀ a, strip (Mine.hd.heap_39 w.params) ⟨PR, w.params⟩ 400 (kk a) = pure (binds a))
    (h : ∀ t L h₁ tk, Fr s.heap L h₁ (fun y => (binds t).reverse.lookup y) → News s.heap L h₁ [(t, o)] → (Mine.hd.heap_39 w.params).In s.heap → TopM mean mg mb s.heap →
      wpAny (model PR w) (A.deeper (envOf qual scope L f cdv)) (execs body (envOf qual scope L f cdv))
        (fun fl s' => R (.ok (.ret (match fl with | .ret v => v | _ => .none))) s')
        (fun e s' => wpAny (model PR w) (A.deeper (envOf qual scope L f cdv)) (leaving (envOf qual scope L f cdv) e) (fun _ s'' => R (.error e) s'') (fun e' s'' => R (.error e') s'') s')
        { s with heap := h₁, toks := tk })
    (hno : o.isFreed = false) (hloc : ∀ t, ((binds t).all fun y => scope.names.lookup y.1 == some .local) = true) (hcell : ∀ x ∈ scope.names, x.2 ≠ .cell)
    (hco : scope.isCoroutine = false) (hgen : scope.isGenerator = false) (hk : scope.kind = .function) : codeAny (model PR w) A (.call (.ref f) args) R s := by
  refine codeAny_call_function (fd := fnOf name qual params body scope dV kV doc pm an cdv ct) hroom (b.K _ _ ho) rfl hco hgen rfl (codeRec_of b.K hcd) ?_
  refine A_strip (M := model PR w) b.K 400 hbind ?_
  refine nd_alloc ?_
  have k0 : Kp s.heap (s.heap.push o) := fun b o e => Heap.get?_push_of_some _ e
  have b₁ := b.keeps k0
  refine A_strip (M := model PR w) b₁.K 400 (hbind2 _) (wpAny_pure ?_)
  refine wpAny_newFunctionEnv hcell (fun y hy => beq_iff_eq.mp (List.all_eq_true.mp (hloc _) y hy)) (fun h₁ hns hsb => ?_) hk
  have k1 : Kp (s.heap.push o) h₁ := fun b o e => hsb.extBut b o (Nat.ne_of_lt (Heap.lt_size e)) (Heap.get?_push_of_some _ e)
  refine ⟨b₁.T.nolimit.fresh _ hsb, codeAny_func ?_⟩
  have es : (s.heap.push o).objs.size = s.heap.objs.size + 1 := by simp [Heap.push]
  have hL : s.heap.objs.size < (s.heap.push o).objs.size := by rw [es]; omega
  refine h s.heap.objs.size _ h₁ _ ⟨hns, Kp.trans k0 k1, Nat.le_of_lt hL⟩ (fun p hp => ?_) b.K b.T
  rw [List.mem_singleton.mp hp]
  exact ⟨k1 _ _ (Heap.get?_push_size _ hno), Nat.ne_of_lt hL, Heap.get?_none_of_le (Nat.le_refl _)⟩
abbrev threeVs (vs : List Value) (t : Addr) : List Value := [vs.headD .none, vs.tail.headD (.int 7 258), .ref t]
theorem three_ok1 {v0 : Value} {R : Result → Shared → Prop} (b : Bs w mean mg mb s.heap) (hroom : A.depth < recursionLimit)
    (h : ∀ h' tk r t, Kp s.heap h' → s.heap.get? r = none → s.heap.get? t = none → h'.get? r = some (tupO [v0, .int 7 258, .ref t]) → h'.get? t = some (tupO []) → R (.ok (.ret (.ref r))) { s with heap := h', toks := tk }) :
    codeAny (model PR w) A (.call (.ref 73) ⟨[v0], []⟩) R s := by
  refine' enter_made (o := tupO []) (binds := fun t => [(Str.ofString "one", v0), (Str.ofString "two", .int 7 258), (Str.ofString "more", .ref t)]) b hroom ?k6 ?k7 ?k8 ?k9 ?h ?k0 ?c5 ?c1 ?c2 ?c3 ?c4
  case k6 => k_is
  case k7 => k_is
  case k8 => with_unfolding_all rfl
  case k9 => intro a; with_unfolding_all rfl
  case k0 => rfl
  case c5 => intro t; exact rfl
  case c1 => decide
  case c2 => exact rfl
  case c3 => exact rfl
  case c4 => exact rfl
  case h =>
    intro t L h₁ tk F N X T
    try dsimp only
    k_steps
    rename_i D h' F' N' l1
    have n1 := N' _ (.head _)
    have n2 := N' _ (.tail _ (.head _))
    exact h h' tk D t F'.keep n1.2.2 n2.2.2 n1.1 n2.1
theorem three_ok2 {v0 v1 : Value} {R : Result → Shared → Prop} (b : Bs w mean mg mb s.heap) (hroom : A.depth < recursionLimit)
    (h : ∀ h' tk r t, Kp s.heap h' → s.heap.get? r = none → s.heap.get? t = none → h'.get? r = some (tupO [v0, v1, .ref t]) → h'.get? t = some (tupO []) → R (.ok (.ret (.ref r))) { s with heap := h', toks := tk }) :
    codeAny (model PR w) A (.call (.ref 73) ⟨[v0, v1], []⟩) R s := by
  refine' enter_made (o := tupO []) (binds := fun t => [(Str.ofString "one", v0), (Str.ofString "two", v1), (Str.ofString "more", .ref t)]) b hroom ?k6 ?k7 ?k8 ?k9 ?h ?k0 ?c5 ?c1 ?c2 ?c3 ?c4
  case k6 => k_is
  case k7 => k_is
  case k8 => with_unfolding_all rfl
  case k9 => intro a; with_unfolding_all rfl
  case k0 => rfl
  case c5 => intro t; exact rfl
  case c1 => decide
  case c2 => exact rfl
  case c3 => exact rfl
  case c4 => exact rfl
  case h =>
    intro t L h₁ tk F N X T
    try dsimp only
    k_steps
    rename_i D h' F' N' l1
    have n1 := N' _ (.head _)
    have n2 := N' _ (.tail _ (.head _))
    exact h h' tk D t F'.keep n1.2.2 n2.2.2 n1.1 n2.1
theorem three_ok3 {v0 v1 v2 : Value} {R : Result → Shared → Prop} (b : Bs w mean mg mb s.heap) (hroom : A.depth < recursionLimit)
    (h : ∀ h' tk r t, Kp s.heap h' → s.heap.get? r = none → s.heap.get? t = none → h'.get? r = some (tupO [v0, v1, .ref t]) → h'.get? t = some (tupO [v2]) → R (.ok (.ret (.ref r))) { s with heap := h', toks := tk }) :
    codeAny (model PR w) A (.call (.ref 73) ⟨[v0, v1, v2], []⟩) R s := by
  refine' enter_made (o := tupO [v2]) (binds := fun t => [(Str.ofString "one", v0), (Str.ofString "two", v1), (Str.ofString "more", .ref t)]) b hroom ?k6 ?k7 ?k8 ?k9 ?h ?k0 ?c5 ?c1 ?c2 ?c3 ?c4
  case k6 => k_is
  case k7 => k_is
  case k8 => with_unfolding_all rfl
  case k9 => intro a; with_unfolding_all rfl
  case k0 => rfl
  case c5 => intro t; exact rfl
  case c1 => decide
  case c2 => exact rfl
  case c3 => exact rfl
  case c4 => exact rfl
  case h =>
    intro t L h₁ tk F N X T
    try dsimp only
    k_steps
    rename_i D h' F' N' l1
    have n1 := N' _ (.head _)
    have n2 := N' _ (.tail _ (.head _))
    exact h h' tk D t F'.keep n1.2.2 n2.2.2 n1.1 n2.1
theorem three_ok4 {v0 v1 v2 v3 : Value} {R : Result → Shared → Prop} (b : Bs w mean mg mb s.heap) (hroom : A.depth < recursionLimit)
    (h : ∀ h' tk r t, Kp s.heap h' → s.heap.get? r = none → s.heap.get? t = none → h'.get? r = some (tupO [v0, v1, .ref t]) → h'.get? t = some (tupO [v2, v3]) → R (.ok (.ret (.ref r))) { s with heap := h', toks := tk }) :
    codeAny (model PR w) A (.call (.ref 73) ⟨[v0, v1, v2, v3], []⟩) R s := by
  refine' enter_made (o := tupO [v2, v3]) (binds := fun t => [(Str.ofString "one", v0), (Str.ofString "two", v1), (Str.ofString "more", .ref t)]) b hroom ?k6 ?k7 ?k8 ?k9 ?h ?k0 ?c5 ?c1 ?c2 ?c3 ?c4
  case k6 => k_is
  case k7 => k_is
  case k8 => with_unfolding_all rfl
  case k9 => intro a; with_unfolding_all rfl
  case k0 => rfl
  case c5 => intro t; exact rfl
  case c1 => decide
  case c2 => exact rfl
  case c3 => exact rfl
  case c4 => exact rfl
  case h =>
    intro t L h₁ tk F N X T
    try dsimp only
    k_steps
    rename_i D h' F' N' l1
    have n1 := N' _ (.head _)
    have n2 := N' _ (.tail _ (.head _))
    exact h h' tk D t F'.keep n1.2.2 n2.2.2 n1.1 n2.1
theorem three_ok {vs : List Value} {ds : List PyData} {R : Result → Shared → Prop} (b : Bs w mean mg mb s.heap) (hroom : A.depth < recursionLimit) (ha : AllAtm vs ds) (h0 : ds ≠ []) (h4 : ds.length ≤ 4)
    (h : ∀ h' tk r t, Kp s.heap h' → s.heap.get? r = none → s.heap.get? t = none → h'.get? r = some (tupO (threeVs vs t)) → h'.get? t = some (tupO (vs.drop 2)) → R (.ok (.ret (.ref r))) { s with heap := h', toks := tk }) :
    codeAny (model PR w) A (.call (.ref 73) ⟨vs, []⟩) R s := by
  have hl := ha.length
  match vs, hl with
  | [], hl => exact absurd (List.length_eq_zero_iff.mp hl.symm) h0
  | [v0], _ => exact three_ok1 b hroom h
  | [v0, v1], _ => exact three_ok2 b hroom h
  | [v0, v1, v2], _ => exact three_ok3 b hroom h
  | [v0, v1, v2, v3], _ => exact three_ok4 b hroom h
  | _ :: _ :: _ :: _ :: _ :: _, hl => rw [← hl] at h4; simp at h4
end
end Mine

/-! ML -/
namespace Mine
/-! next() of a list's or a tuple's iterator -/
def ItAt (h : Heap) (it l : Addr) (T : String) (i : Nat) : Prop := ∃ o, h.get? it = some o ∧ o.cls = .type T ∧ o.data = .fields #[.ref l, .int i 0]
abbrev But (it : Addr) (h h' : Heap) : Prop := ∀ b o, b ≠ it → h.get? b = some o → h'.get? b = some o
theorem But.step {S X : List Addr} {it : Addr} {h h' : Heap} (k : But it h h') (hm : it ∈ X) : Step S X h h' := fun b o e hX =>
  have q := k b o (fun z => hX (z ▸ hm)) e
  ⟨fun _ => q, o.slots, q⟩
section
variable {w : World} {A : Around} {E : Value → Shared → Prop} {s : Shared} {it l : Addr} {T : String} {i n : Nat} {items : Array Value} {ol : Obj}
theorem next_item {x : Value} {Q : Value → Shared → Prop} (hT : T = "list_iterator" ∨ T = "tuple_iterator") (hit : ItAt s.heap it l T i) (hl : s.heap.get? l = some ol) (hd : ol.data = .seq items n) (hx : items[i]? = some x)
    (hQ : ∀ h', ItAt h' it l T (i + 1) → But it s.heap h' → Q x { s with heap := h' }) : wpAny (model PR w) A (call (.builtin "next") [.ref it]) Q E s := by
  obtain ⟨o, ho, hc, hdo⟩ := id hit
  have hTS : s.TypeIs (.ref it) T := ⟨o, ho, hc⟩
  refine call_function_entry (by decide +kernel) (by decide +kernel) kdk_entry_next (kdk_args_next _) ?_
  unfold Builtin.«next»
  refine wpAny_bind (m := someArgs "next" 1 2 _) (wpAny_of_eq (a := [Value.ref it]) (by first | rfl | kernel_rfl!) ?_)
  dsimp only
  have fin : Q x { s with heap := s.heap.update it (Obj.mapFields (·.setIfInBounds 1 (rawInt ((i : Int) + 1)))) } :=
    hQ _ ⟨_, Heap.get?_update_self _ ho (Obj.isFreed_of_fields (Obj.data_mapFields hdo _)), (Obj.cls_mapFields ..).trans hc, by rw [Obj.data_mapFields hdo]; simp [rawInt]⟩ fun b o' nb e => (Heap.get?_update_other _ _ (Ne.symm nb)).trans e
  rcases hT with rfl | rfl
  · refine wpAny_bind (wpAny_specialOf (name := Str.ofString "__next__") hTS slot_listiter_next.lookup ?_)
    refine wpAny_ite_split (fun hab => absurd hab (by decide)) (fun _ => ?_)
    refine wpAny_bind (wpAny_callSpecial?_slot (name := Str.ofString "__next__") hTS slot_listiter_next (wpAny_call_entry slot_listiter_next hTS entry_listiter_next ?_ (args_listiter_next _)))
    show wpAny _ _ (field (.ref it) 0 >>= _) _ _ s
    refine wpAny_bind (wpAny_field ho hdo (x := .ref l) rfl ?_)
    show wpAny _ _ (if (Value.ref l == Value.none) = true then _ else _) _ _ s
    rw [if_neg (show ¬ ((Value.ref l == Value.none) = true) from Bool.false_ne_true)]
    show wpAny _ _ (field (.ref it) 1 >>= _) _ _ s
    refine wpAny_bind (wpAny_field ho hdo (x := .int i 0) rfl ?_)
    show wpAny _ _ (seqItems? (.ref l) >>= _) _ _ s
    refine wpAny_bind (wpAny_seqItems hl hd ?_)
    simp only [Int.toNat_natCast, hx]
    refine wpAny_bind (wpAny_setField ho hdo (by simp) (wpAny_pure ⟨x, rfl, wpAny_pure ?_⟩))
    exact ⟨_, rfl, fin⟩
  · refine wpAny_bind (wpAny_specialOf (name := Str.ofString "__next__") hTS F.slot_tuple_iterator_next.lookup ?_)
    refine wpAny_ite_split (fun hab => absurd hab (by decide)) (fun _ => ?_)
    refine wpAny_bind (wpAny_callSpecial?_slot (name := Str.ofString "__next__") hTS F.slot_tuple_iterator_next (wpAny_call_entry F.slot_tuple_iterator_next hTS F.entry_tuple_iterator_next ?_ (F.args_tuple_iterator_next_1 _)))
    show wpAny _ _ (field (.ref it) 0 >>= _) _ _ s
    refine wpAny_bind (wpAny_field ho hdo (x := .ref l) rfl ?_)
    show wpAny _ _ (if (Value.ref l == Value.none) = true then _ else _) _ _ s
    rw [if_neg (show ¬ ((Value.ref l == Value.none) = true) from Bool.false_ne_true)]
    show wpAny _ _ (field (.ref it) 1 >>= _) _ _ s
    refine wpAny_bind (wpAny_field ho hdo (x := .int i 0) rfl ?_)
    show wpAny _ _ (seqItems? (.ref l) >>= _) _ _ s
    refine wpAny_bind (wpAny_seqItems hl hd ?_)
    simp only [Int.toNat_natCast, hx]
    refine wpAny_bind (wpAny_setField ho hdo (by simp) (wpAny_pure ⟨x, rfl, wpAny_pure ?_⟩))
    exact ⟨_, rfl, fin⟩
theorem stop_raised {α : Type} {Q : α → Shared → Prop} (hh : A.handled = none) (h : ∀ h' e, Heap.NewExc s.heap h' e "StopIteration" → E (.ref e) { s with heap := h' }) : wpAny (model PR w) A (Builtin.SmallTypes.stopIteration : Sem α) Q E s := by
  unfold Builtin.SmallTypes.stopIteration
  refine wpAny_bind ?_
  simp only [newExc, newTuple]
  refine wpAny_bind (wpAny_newObj_type ?_ (by size_fits))
  refine wpAny_bind (m := firstArgMember _ _) (wpAny_of_eq (a := Value.none) (by first | rfl | (simp only [firstArgMember]; rfl)) ?_)
  refine wpAny_newObj_type ?_ (by size_fits)
  simp only [raiseNew]
  refine wpAny_bind (wpAny_handled ?_)
  rw [hh]
  refine wpAny_bind (wpAny_pure (wpAny_throw (h _ _ ⟨fun b o e => Heap.get?_push_of_some _ (Heap.get?_push_of_some _ e), Heap.get?_none_of_le (by simp), _, .ref s.heap.objs.size, Heap.get?_push_size _ rfl, rfl, ?_⟩)))
  rfl
theorem next_end {Q : Value → Shared → Prop} (hh : A.handled = none) (hT : T = "list_iterator" ∨ T = "tuple_iterator") (hit : ItAt s.heap it l T i) (hl : s.heap.get? l = some ol) (hd : ol.data = .seq items n) (hx : items[i]? = none)
    (hE : ∀ hm h' e, But it s.heap hm → (∃ o, hm.get? it = some o ∧ o.cls = .type T ∧ o.data = .fields #[.none, .int i 0]) → Heap.NewExc hm h' e "StopIteration" → E (.ref e) { s with heap := h' }) : wpAny (model PR w) A (call (.builtin "next") [.ref it]) Q E s := by
  obtain ⟨o, ho, hc, hdo⟩ := id hit
  have hTS : s.TypeIs (.ref it) T := ⟨o, ho, hc⟩
  refine call_function_entry (by decide +kernel) (by decide +kernel) kdk_entry_next (kdk_args_next _) ?_
  unfold Builtin.«next»
  refine wpAny_bind (m := someArgs "next" 1 2 _) (wpAny_of_eq (a := [Value.ref it]) (by first | rfl | kernel_rfl!) ?_)
  dsimp only
  have hm1 : But it s.heap (s.heap.update it (Obj.mapFields (·.setIfInBounds 0 Value.none))) := fun b o' nb e => (Heap.get?_update_other _ _ (Ne.symm nb)).trans e
  have hm2 : ∃ o, (s.heap.update it (Obj.mapFields (·.setIfInBounds 0 Value.none))).get? it = some o ∧ o.cls = .type T ∧ o.data = .fields #[.none, .int i 0] :=
    ⟨_, Heap.get?_update_self _ ho (Obj.isFreed_of_fields (Obj.data_mapFields hdo _)), (Obj.cls_mapFields ..).trans hc, by rw [Obj.data_mapFields hdo]; simp⟩
  rcases hT with rfl | rfl
  · refine wpAny_bind (wpAny_specialOf (name := Str.ofString "__next__") hTS slot_listiter_next.lookup ?_)
    refine wpAny_ite_split (fun hab => absurd hab (by decide)) (fun _ => ?_)
    refine wpAny_bind (wpAny_callSpecial?_slot (name := Str.ofString "__next__") hTS slot_listiter_next (wpAny_call_entry slot_listiter_next hTS entry_listiter_next ?_ (args_listiter_next _)))
    show wpAny _ _ (field (.ref it) 0 >>= _) _ _ s
    refine wpAny_bind (wpAny_field ho hdo (x := .ref l) rfl ?_)
    show wpAny _ _ (if (Value.ref l == Value.none) = true then _ else _) _ _ s
    rw [if_neg (show ¬ ((Value.ref l == Value.none) = true) from Bool.false_ne_true)]
    show wpAny _ _ (field (.ref it) 1 >>= _) _ _ s
    refine wpAny_bind (wpAny_field ho hdo (x := .int i 0) rfl ?_)
    show wpAny _ _ (seqItems? (.ref l) >>= _) _ _ s
    refine wpAny_bind (wpAny_seqItems hl hd ?_)
    simp only [Int.toNat_natCast, hx]
    refine wpAny_bind (wpAny_rule (wpAny_bind (wpAny_setField ho hdo (by simp) ?_)))
    exact stop_raised hh fun h' e x => hE _ h' e hm1 hm2 x
  · refine wpAny_bind (wpAny_specialOf (name := Str.ofString "__next__") hTS F.slot_tuple_iterator_next.lookup ?_)
    refine wpAny_ite_split (fun hab => absurd hab (by decide)) (fun _ => ?_)
    refine wpAny_bind (wpAny_callSpecial?_slot (name := Str.ofString "__next__") hTS F.slot_tuple_iterator_next (wpAny_call_entry F.slot_tuple_iterator_next hTS F.entry_tuple_iterator_next ?_ (F.args_tuple_iterator_next_1 _)))
    show wpAny _ _ (field (.ref it) 0 >>= _) _ _ s
    refine wpAny_bind (wpAny_field ho hdo (x := .ref l) rfl ?_)
    show wpAny _ _ (if (Value.ref l == Value.none) = true then _ else _) _ _ s
    rw [if_neg (show ¬ ((Value.ref l == Value.none) = true) from Bool.false_ne_true)]
    show wpAny _ _ (field (.ref it) 1 >>= _) _ _ s
    refine wpAny_bind (wpAny_field ho hdo (x := .int i 0) rfl ?_)
    show wpAny _ _ (seqItems? (.ref l) >>= _) _ _ s
    refine wpAny_bind (wpAny_seqItems hl hd ?_)
    simp only [Int.toNat_natCast, hx]
    refine wpAny_bind (wpAny_rule (wpAny_bind (wpAny_setField ho hdo (by simp) ?_)))
    exact stop_raised hh fun h' e x => hE _ h' e hm1 hm2 x
end
end Mine

/-! MM -/
namespace Mine
section
variable {M : Model} {A : Around} {E : Value → Shared → Prop} {s : Shared} {env : Env}
theorem C_methodCall {o : Expr} {name : Str} {apos pos : Pos} {args : List Expr} {pl : Sem Bool} {Q : Value → Shared → Prop}
    (h : wpAny M A (eval o env) (fun ov s₁ => wpAny M A (getMethod ov name pl) (fun fx s₂ => wpC M A (callWith pos fx.1 fx.2 (backTo pos (starEach args env)) []) Q E s₂) E s₁) E s)
    (he : eval (.Call (.Attribute o name apos) args [] pos) env = (do
      let ov ← eval o env
      standAt apos.atName
      let (f, first) ← holding [ov] (getMethod ov name pl)
      callWith pos f first (backTo pos (starEach args env)) []) := by rfl) :
    wpC M A (eval (.Call (.Attribute o name apos) args [] pos) env) Q E s := by
  rw [he]
  refine C_step (wpAny_mono h (fun ov s₁ h₁ => C_step (wpAny_standAt (C_step (wpAny_holding (wpAny_mono h₁ (fun fx s₂ h₂ => ?_) fun _ _ x => x))))) fun _ _ x => x)
  exact h₂
theorem C_methodStar {o : Expr} {name : Str} {apos pos : Pos} {args : List Expr} {Q : Value → Shared → Prop}
    (h : wpAny M A (eval o env) (fun ov s₁ => wpAny M A (getAttr ov name true) (fun f s₂ => wpC M A (callWith pos f [] (backTo pos (starEach args env)) []) Q E s₂) E s₁) E s)
    (he : eval (.Call (.Attribute o name apos) args [] pos) env = (do
      let ov ← eval o env
      standAt apos.atName
      let (f, first) ← holding [ov] (do pure (← getAttr ov name true, []))
      callWith pos f first (backTo pos (starEach args env)) []) := by rfl) :
    wpC M A (eval (.Call (.Attribute o name apos) args [] pos) env) Q E s := by
  rw [he]
  exact C_step (wpAny_mono h (fun ov s₁ h₁ => C_step (wpAny_standAt (C_step (wpAny_holding (wpAny_bind (wpAny_mono h₁ (fun f s₂ h₂ => wpAny_pure h₂) fun _ _ x => x)))))) fun _ _ x => x)
theorem C_lone {f : Value} {x : Sem Value} {pos : Pos} {Q : Args → Shared → Prop}
    (h : wpAny M A x (fun v s₁ => StarOf M A E v (fun vs s₂ => Q ⟨vs, []⟩ s₂) s₁) E s) :
    wpC M A (evalArgs f true [(true, (do let v ← x; standAt pos; pure v))] []) Q E s := C_any (ks_lone h)
theorem C_callWith_star {f : Value} {first : List Value} {pos : Pos} {Q : Value → Shared → Prop} {P : Heap → Prop} {args : List (Bool × Sem Value)} (hst : args.any (·.1) = true)
    (hk : ∀ h, P h → ∃ k, (k = Keeper.frame ∨ k = Keeper.machine ∨ k = Keeper.boundFrame) ∧ Looks M h (keeperOf f) k)
    (h : wpC M A (evalArgs f true args []) (fun a s₁ => P s₁.heap ∧ wpC M A (call f (first ++ a.pos) a.kw) Q E s₁) E s) : wpC M A (callWith pos f first args []) Q E s := by
  unfold callWith
  refine C_bind (C_holding (C_mono h (fun a s₁ h₁ => C_step (wpAny_standAt ?_)) fun _ _ x => x))
  obtain ⟨k, hk', L⟩ := hk _ h₁.1
  simp only [hst, Bool.true_or]
  refine C_step (L.here ?_)
  have tail : ∀ {t : Sem Value}, wpC M A t Q E s₁ → wpC M A (t >>= fun r => holding [r] point >>= fun _ => pure r) Q E s₁ :=
    fun ht => C_bind (C_mono ht (fun r s₂ hr => C_bind (C_holding (C_any (wpAny_point (C_pure hr))))) fun _ _ x => x)
  have marked (mk : Value) : wpC M A (callMarked mk f (first ++ a.pos) a.kw) Q E s₁ := by unfold callMarked; exact C_keep h₁.2
  have op : ∀ l, wpC M A (operate l (call f (first ++ a.pos) a.kw)) Q E s₁ := fun l Γ p x y => by rw [Sem.wp_operate]; exact h₁.2 Γ p x y
  rcases hk' with rfl | rfl | rfl <;> dsimp only <;> first | exact tail (marked _) | exact tail (op _)
end
section
variable {M : Model} {A : Around} {E : Value → Shared → Prop} {s : Shared} {env : Env} {K : Frag} {h₀ : Heap} {e : Expr} {pos p : Pos} {f : Value} {first : List Value} {Q : Value → Shared → Prop}
theorem C_callWith_S (hk : keepIn K f = true) (h : wpAny M A (eval e env) (fun v s₁ => StarOf M A E v (fun vs s₂ => K.In s₂.heap ∧ wpC M A (call f (first ++ vs)) Q E s₂) s₁) E s)
    (he : starEach [.Starred e p] env = [(true, eval e env)] := by rfl) :
    wpC M A (callWith pos f first (backTo pos (starEach [.Starred e p] env)) []) Q E s := by
  rw [he]
  exact C_callWith_star rfl (keeps_K hk) (C_lone h)
end
section
variable {w : World} {A : Around} {E : Value → Shared → Prop} {s : Shared}
/-- *args of a tuple -/
theorem star_tup {a : Addr} {o : Obj} {items : Array Value} {n : Nat} {Q : List Value → Shared → Prop} (ho : s.heap.get? a = some o) (hc : o.cls = .type "tuple") (hd : o.data = .seq items n) (hz : items.size ≤ sizeLine)
    (h : ∀ h', Kp s.heap h' → Q items.toList { s with heap := h' }) : StarOf (model PR w) A E (.ref a) Q s := by
  have hT : s.TypeIs (.ref a) "tuple" := ⟨o, ho, hc⟩
  unfold StarOf notIterableAtAll
  refine wpAny_bind (wpAny_specialOf hT F.slot_tuple_iter.lookup ?_)
  exact wpAny_pure ⟨rfl, wpAny_collect_seq (hsz := hz) a (.inr rfl) ho hc hd h⟩
/-- type() of a row -/
theorem type_imm {v : Value} {T : String} {Q : Value → Shared → Prop} (hv : (∃ x t, v = .str x t ∧ T = "str") ∨ ∃ i t, v = .int i t ∧ T = "int") (hq : Q (.type T) s) : wpAny (model PR w) A (call (.type "type") [v]) Q E s := by
  refine wpAny_call (codeAny_of_tree ?_)
  show wpAny _ _ (callAny (.type "type") ⟨[v], []⟩) _ _ _
  simp only [callAny]
  refine wpAny_pure ⟨Code.quiet_builtin _ (by decide +kernel), codeAny_builtin F.entry_type_call ?_⟩
  unfold Builtin.«type.__call__»
  dsimp only
  unfold shownTypeOf
  obtain ⟨hp, g, d, t, os⟩ := s
  rcases hv with ⟨x, u, rfl, rfl⟩ | ⟨x, u, rfl, rfl⟩
  · repeat wp_step
    exact hq
  · repeat wp_step
    exact hq
theorem type_row {v : Value} {T : String} {Q : Value → Shared → Prop} (hT : s.TypeIs v T) (hn : (Value.type T == .type "builtin_function_or_method") = false) (hv : (∃ a, v = .ref a) ∨ (∃ x t, v = .str x t ∧ T = "str") ∨ ∃ i t, v = .int i t ∧ T = "int") (hq : Q (.type T) s) : wpAny (model PR w) A (call (.type "type") [v]) Q E s := by
  rcases hv with ⟨a, rfl⟩ | hv
  · obtain ⟨o, ho, hc⟩ := hT
    obtain ⟨hp, g, d, t, os⟩ := s
    exact call_type_obj ho (by rw [hc]; exact hn) (by rw [hc]; exact hq)
  · exact type_imm hv hq
end
end Mine

/-! MN -/
namespace Mine
theorem int_no_iter : typeLookup (.type "int") "__iter__" = pure none := by rw [typeLookup_type, builtinLookup_eq_fast]; kernel_rfl
theorem int_no_item : typeLookup (.type "int") "__getitem__" = pure none := by rw [typeLookup_type, builtinLookup_eq_fast]; kernel_rfl
theorem newExc_kp {h hm h' : Heap} {e : Addr} {cls : String} (k : Kp h hm) (x : Heap.NewExc hm h' e cls) : Heap.NewExc h h' e cls := by
  refine ⟨fun b o q => x.keeps b o (k b o q), ?_, x.there⟩
  cases q : h.get? e with
  | none => rfl
  | some o => have := k _ _ q; rw [x.new] at this; cases this
section
variable {prog : Program} {w : World} {A : Around} {E : Value → Shared → Prop} {s : Shared}
theorem iter_int {i : Int} {t : Tok} {Q : Value → Shared → Prop} (hh : A.handled = none) (h : ∀ h' tk e, Heap.NewExc s.heap h' e "TypeError" → E (.ref e) { s with heap := h', toks := tk }) :
    wpAny (model prog w) A (pyIter (.int i t)) Q E s := by
  have hT : s.TypeIs (.int i t) "int" := rfl
  unfold pyIter
  refine wpAny_bind (wpAny_specialOf hT int_no_iter ?_)
  dsimp only
  refine wpAny_bind (wpAny_specialOf hT int_no_item ?_)
  dsimp only
  refine wpAny_bind (wpAny_rule ?_)
  refine wpAny_bind (m := PySem.typeNameOf (.int i t)) (wpAny_of_eq (a := "int") (by first | rfl | kernel_rfl) ?_)
  exact wpAny_raiseErrorMade plainExc_TypeError hh h
theorem collect_int {i : Int} {t : Tok} {Q : List Value → Shared → Prop} (hh : A.handled = none) (hE : ∀ h' tk e, Heap.NewExc s.heap h' e "TypeError" → E (.ref e) { s with heap := h', toks := tk }) :
    wpAny (model prog w) A (collect (.int i t)) Q E s := by
  unfold collect
  refine wpAny_bind (wpAny_runValue (codeAny_builtin F.entry_proto_collect ?_))
  rw [Around.under_plainId F.plain_proto_collect _]
  show wpAny _ A.in1 (newList [] >>= fun l => again (.builtin "list.__iadd__" ⟨[l, .int i t], []⟩)) _ _ s
  refine wpAny_bind (wpAny_newObj_type ?_)
  refine wpAny_pure ⟨plainId_quiet F.plain_list_iadd _, codeAny_builtin F.entry_list_iadd ?_⟩
  rw [Around.under_plainId F.plain_list_iadd _]
  show wpAny _ A.in1 (Builtin.List.listExtendWith (.ref s.heap.objs.size) (.int i t) (.ref s.heap.objs.size)) _ _ _
  unfold Builtin.List.listExtendWith
  refine wpAny_bind (wpAny_typeOf (T := "int") rfl ?_)
  have h1 : Builtin.List.listSameRef (.ref s.heap.objs.size) (.int i t) = false := rfl
  have h2 : (Value.type "int" == Value.type "list") = false := by decide
  have h3 : (Value.type "int" == Value.type "tuple") = false := by decide
  simp only [h1, h2, h3, Bool.or_false, Bool.false_eq_true, if_false]
  refine wpAny_bind (iter_int (A := A.in1) hh fun h' tk e x => ?_)
  exact hE h' tk e (newExc_kp (fun b o q => Heap.get?_push_of_some _ q) x)
theorem meets_tuple_new_int {i : Int} {t : Tok} :
    Meets (Builtin.«tuple.__new__» ⟨[.type "tuple", .int i t], []⟩)
      (fun A R s => A.handled = none ∧ ∀ h' tk e, Heap.NewExc s.heap h' e "TypeError" → R (.error (.ref e)) { s with heap := h', toks := tk }) :=
  .of_wp fun prog w A R s h => by
    obtain ⟨hh, h⟩ := h
    have hsub := sub_tuple_self
    have hinit := init_tuple_lookup
    have hmh := madeHere_tuple
    have hT : s.TypeIs (.int i t) "int" := rfl
    have hcol : ∀ {Q : List Value → Shared → Prop} {E : Value → Shared → Prop}, (∀ h' tk e, Heap.NewExc s.heap h' e "TypeError" → E (.ref e) { s with heap := h', toks := tk }) → wpAny (model prog w) A.in1 (collect (.int i t)) Q E s := fun hE => collect_int (A := A.in1) hh hE
    wp_walk using wpAny_typeOf hT, hcol
    exact h
theorem tuple_int {i : Int} {t : Tok} {Q : Value → Shared → Prop} (hh : A.handled = none) (h : ∀ h' tk e, Heap.NewExc s.heap h' e "TypeError" → E (.ref e) { s with heap := h', toks := tk }) :
    wpAny (model prog w) A (call (.type "tuple") [.int i t]) Q E s := by
  exact callType_new F.called_tuple (by decide) (F.typeCall_tuple_1 _) (F.newCall_tuple_1 _) (fun obj => F.args_object_init_2 obj _) F.entry_tuple_new
    (meets_tuple_new_int (i := i) (t := t)) ⟨hh, h⟩
/-- *args of an int: refused -/
theorem star_int {i : Int} {t : Tok} : wpAny (model prog w) A (notIterableAtAll (.int i t)) (fun b s' => b = true ∧ s' = s) E s := by
  have hT : s.TypeIs (.int i t) "int" := rfl
  unfold notIterableAtAll
  refine wpAny_bind (wpAny_specialOf hT int_no_iter ?_)
  simp only [Option.isSome_none, Bool.false_eq_true, if_false]
  refine wpAny_bind (wpAny_specialOf hT int_no_item ?_)
  exact wpAny_pure ⟨rfl, rfl⟩
end
end Mine

/-! MO -/
namespace Mine
abbrev smO (dx : Addr) (it : Addr) : Obj := { cls := .ref 54, dict := some dx, data := .plain, slots := #[some (.ref 73), some (.ref it)] }
section
variable {w : World} {mean : ExcName → Option Value} {mg mb : Str → Option Value} {dp un : Nat} {l : List Env} {gd : Option (List Code)} {s : Shared} {base : Heap}
abbrev Ar (dp un : Nat) (l : List Env) (gd : Option (List Code)) : Around := { handled := none, depth := dp, frames := some l, guards := gd, units := un }
theorem hide_fr {h h₁ : Heap} {L : Addr} {m : Str → Option Value} {H : List Addr} (k : Kp h h₁) (hns : h₁.Ns L m) (hL : h.objs.size ≤ L) : Fr (hideAll h H) L h₁ m :=
  ⟨hns, fun b o e => k b o (of_hideAll _ e), by rw [hideAll_size]; exact hL⟩
theorem hide_news {h h₁ : Heap} {L : Addr} {H : List Addr} (k : Kp h h₁) (hL : h.get? L = none) : ∀ {ps : List (Addr × Obj)}, (∀ p ∈ ps, h.get? p.1 = some p.2 ∧ p.1 ∈ H) → News (hideAll h H) L h₁ ps := fun hp p hm =>
  ⟨k _ _ (hp p hm).1, (fun q => by have := (hp p hm).1; rw [q, hL] at this; cases this), hideAll_none _ (hp p hm).2⟩
theorem Und.hide {A : Around} {h : Heap} (u : Und w mean mg mb A base l h) {H : List Addr} (hH : ∀ b ∈ H, base.get? b = none) : Bs w mean mg mb (hideAll h H) :=
  u.bs.keeps fun b o e => hideAll_get _ (u.stays b o e) fun m => by rw [hH b m] at e; cases e
theorem but_fr {h₀ h h' : Heap} {L it : Addr} {m : Str → Option Value} (F : Fr h₀ L h m) (k : But it h h') (hi : h₀.get? it = none) (hL : L ≠ it) : Fr h₀ L h' m := by
  obtain ⟨⟨oL, es, ep, h1, r⟩, kp, ab⟩ := F
  exact ⟨⟨oL, es, ep, k _ _ hL h1, r⟩, fun b o e => k _ _ (fun q => by rw [q, hi] at e; cases e) (kp b o e), ab⟩
theorem but_news {h₀ h h' : Heap} {L it : Addr} {news : List (Addr × Obj)} (N : News h₀ L h news) (k : But it h h') (hn : ∀ p ∈ news, p.1 ≠ it) : News h₀ L h' news := fun p hp => ⟨k _ _ (hn p hp) (N p hp).1, (N p hp).2⟩
theorem RowAt.hide {h : Heap} {v : Value} {od : Option (List PyData)} {H : List Addr} (r : RowAt h v od) (hv : ∀ b ∈ H, v ≠ .ref b) : RowAt (hideAll h H) v od := by
  have key : ∀ {a : Addr} {o : Obj}, v = .ref a → h.get? a = some o → (hideAll h H).get? a = some o := fun q e => hideAll_get _ e fun m => hv _ m q
  cases r with
  | list a b c d e => exact .list (key rfl a) b c d e
  | tup a b c d e => exact .tup (key rfl a) b c d e
  | rng a b => exact .rng (key rfl a) b
  | str a => exact .str a
  | dict a b c => exact .dict (fun p w => (a p w).at' fun o e => key rfl e) b c
  | int => exact .int
theorem step_walk {h₀ h h' : Heap} {L : Addr} {m : Str → Option Value} {H X S : List Addr} {news : List (Addr × Obj)} (F : Fr (hideAll h H) L h' m) (N : News h₀ L h' news) (hH : ∀ b ∈ H, b ∉ X → ∀ o, h.get? b = some o → (b, o) ∈ news) : Step S X h h' := fun b o e hX => by
  have q : h'.get? b = some o := by
    by_cases hm : b ∈ H
    · exact (N _ (hH b hm hX o e)).1
    · exact F.keep _ _ (hideAll_get _ e hm)
  exact ⟨fun _ => q, o.slots, q⟩
theorem Und.inside {A : Around} {h h' : Heap} {X : List Addr} {L : Addr} {m : Str → Option Value} {env : Env} (u : Und w mean mg mb A base l h) (st : Step (frs l) X h h') (hX : ∀ b ∈ X, base.get? b = none ∧ b ∉ frs l) (hns : h'.Ns L m) (hL : h.get? L = none)
    (hf : env.frame = some L) (hk : env.scope.kind = .function) : Und w mean mg mb (A.deeper env) base (env :: l) h' := by
  have u' := u.step st hX
  refine ⟨u.bs, Around.frames_deeper u.stack, u'.stays, .cons (by rw [hk]; decide) hf hns ?_ u'.frames⟩
  cases q : base.get? L with
  | none => rfl
  | some o => rw [u.stays _ _ q] at hL; cases hL
def Mid (s : Shared) (x dx it L : Addr) (oit : Obj) (row : Option (List PyData)) (f : Flow) (s' : Shared) : Prop :=
  f = Flow.next ∧ ∃ h' tk t' o its n' ds, row = some ds ∧ s' = { s with heap := h', toks := tk } ∧ Fr (hideAll s.heap [x, dx, it]) L h' (fun y => if y = Str.ofString "args" then some (.ref t') else List.lookup y [(Str.ofString "self", Value.ref x)].reverse) ∧
      News (hideAll s.heap [x, dx, it]) L h' [(it, oit), (x, smO dx it), (dx, dictOf [] 0)] ∧ h'.get? t' = some o ∧ o.cls = .type "tuple" ∧ o.data = .seq its n' ∧ AllAtm its.toList ds ∧ ds.length ≤ 4
theorem next_walk {x dx it lst : Addr} {T : String} {i n : Nat} {items : Array Value} {ol : Obj} {v : Value} {row : Option (List PyData)} {R : Result → Shared → Prop}
    (U : Und w mean mg mb (Ar dp un l gd) base l s.heap) (hroom : dp + 3 < recursionLimit) (hu : un + 100 < cLine)
    (hx : s.heap.get? x = some (smO dx it)) (hdx : s.heap.get? dx = some (dictOf [] 0)) (hT : T = "list_iterator" ∨ T = "tuple_iterator") (hit : ItAt s.heap it lst T i) (hl : s.heap.get? lst = some ol) (hd : ol.data = .seq items n)
    (hv : items[i]? = some v) (hrow : RowAt s.heap v row) (hb : ∀ b ∈ [x, dx, it], base.get? b = none) (hne : it ≠ x ∧ it ≠ dx) (hfr : ∀ b ∈ [x, dx, it, lst], b ∉ frs l) (hvn : ∀ b ∈ [x, dx, it], v ≠ .ref b)
    (hok : ∀ h' tk r t vs d ds, row = some (d :: ds) → Step (frs l) [it] s.heap h' → ItAt h' it lst T (i + 1) → h'.get? r = some (tupO (threeVs vs t)) → h'.get? t = some (tupO (vs.drop 2)) → AllAtm vs (d :: ds) → s.heap.get? r = none → s.heap.get? t = none →
      R (.ok (.ret (.ref r))) { s with heap := h', toks := tk })
    (herr : ∀ h' tk e, (row = none ∨ row = some []) → Flung l [it] (fun B => ItAt B it lst T (i + 1)) s.heap h' e "TypeError" → R (.error (.ref e)) { s with heap := h', toks := tk }) :
    codeC (model PR w) (Ar dp un l gd) (.call (.ref 50) ⟨[.ref x], []⟩) R s := by
  refine' enter_C (binds := [(Str.ofString "self", .ref x)]) U (by show dp < _; omega) ?k6 ?k7 ?k9 ?h ?c1 ?c5 ?c2 ?c3 ?c4
  case k6 => k_is
  case k7 => k_is
  case k9 => exact BindsTo.of_eq rfl
  case c1 => exact rfl
  case c5 => decide
  case c2 => exact rfl
  case c3 => exact rfl
  case c4 => exact rfl
  case h =>
    intro L h₁ k1 hsz hLn hns U₁ hL
    have B₀ := U.hide (H := [x, dx, it]) hb
    have X := B₀.K
    have T₀ := B₀.T
    have F := hide_fr (H := [x, dx, it]) k1 hns (by rw [hL]; exact Nat.le_refl _)
    have N := hide_news (H := [x, dx, it]) k1 hLn (ps := [(x, smO dx it), (dx, dictOf [] 0)]) (by
      intro p hp
      simp only [List.mem_cons, List.not_mem_nil, or_false] at hp
      rcases hp with rfl | rfl
      · exact ⟨hx, by simp⟩
      · exact ⟨hdx, by simp⟩)
    refine C_execs_cons (C_any ?_)
    try dsimp only
    k_steps
    have hit₁ : ItAt h₁ it lst T i := let ⟨o, a, b⟩ := hit; ⟨o, k1 _ _ a, b⟩
    have hLit : L ≠ it := fun q => by obtain ⟨o, a, _⟩ := hit; rw [← q, hLn] at a; cases a
    refine next_item hT hit₁ (k1 _ _ hl) hd hv fun h₂ hit₂ hb₂ => ?_
    have F₂ := but_fr F hb₂ (hideAll_none _ (by simp)) hLit
    have N₂ := but_news N hb₂ (by
      intro p hp
      simp only [List.mem_cons, List.not_mem_nil, or_false] at hp
      rcases hp with rfl | rfl
      · exact Ne.symm hne.1
      · exact Ne.symm hne.2)
    obtain ⟨oit, hoit, hoc, hod⟩ := hit₂
    have N₃ : News (hideAll s.heap [x, dx, it]) L h₂ [(it, oit), (x, smO dx it), (dx, dictOf [] 0)] := fun p hp => by
      rcases List.mem_cons.mp hp with rfl | hp
      · exact ⟨hoit, Ne.symm hLit, hideAll_none _ (by simp)⟩
      · exact N₂ p hp
    have row₀ := hrow.hide hvn
    have hXi : ∀ b ∈ [it], base.get? b = none ∧ b ∉ frs l := fun b hm => by
      rw [List.mem_singleton.mp hm]; exact ⟨hb _ (by simp), hfr _ (by simp)⟩
    have hitf : it ∉ L :: frs l := fun m => by
      rcases List.mem_cons.mp m with q | m
      · exact hLit q.symm
      · exact hfr _ (by simp) m
    have hwH : ∀ b ∈ [x, dx, it], b ∉ [it] → ∀ o, s.heap.get? b = some o → (b, o) ∈ [(it, oit), (x, smO dx it), (dx, dictOf [] 0)] := fun b hm hn o e => by
      simp only [List.mem_cons, List.not_mem_nil, or_false] at hm hn
      rcases hm with rfl | rfl | rfl
      · rw [hx] at e; injection e with e; subst e; simp
      · rw [hdx] at e; injection e with e; subst e; simp
      · exact absurd rfl hn
    clear N₂
    clear F N
    k_steps
    rename_i h₃ F₃ N₃
    have hitn : ∀ b ∈ [it], h₃.get? b ≠ none := fun b hm => by
      rw [List.mem_singleton.mp hm, (N₃ _ (.head _)).1]; simp
    refine C_execs_cons (C_mono (Q := Mid s x dx it L oit row) (C_any ?_) (fun f s' hq => ?_) fun _ _ x => x)
    · try dsimp only
      rcases hrow0 : row with _ | ds
      · subst hrow0
        obtain ⟨iv, tv, rfl⟩ : ∃ iv tv, v = .int iv tv := by cases hrow; exact ⟨_, _, rfl⟩
        k_steps
        refine tuple_int rfl fun h₄ tk₄ e₄ ne₄ => ?_
        have st := step_walk (S := frs l) (X := [it]) F₃ N₃ hwH
        refine leave_new (h := s.heap) (hc := h₃) (base := base) (X := [it]) (P := fun B => ItAt B it lst T (i + 1)) rfl rfl st hitn hLn ?_ ne₄ (fun B hB => ⟨oit, hB _ _ (N₃ _ (.head _)).1 ?_, hoc, hod⟩) fun h'' fl => herr h'' _ _ (.inl rfl) fl
        · exact (U.inside st hXi F₃.ns hLn rfl rfl).frames
        · exact hitf
      · subst hrow0
        rcases (row₀.keeps F₃.keep).typeIs w with ⟨a, o, its, n', rfl, ho, hc, hd', h4, hal⟩ | ⟨T', hT', hTS, hv'⟩
        · k_steps
          refine type_row ⟨_, ho, hc⟩ (by decide) (.inl ⟨_, rfl⟩) ?_
          k_steps
          unfold Mid
          exact ⟨rfl, _, _, a, o, its, n', ds, rfl, rfl, by assumption, by assumption, ho, hc, hd', hal, by rw [← hal.length]; simpa using h4⟩
        · have fin : ∀ (h' : Heap) (vs : List Value) (t' : Addr), Kp h₃ h' → h₃.get? t' = none → h'.get? t' = some (tupO vs) → AllAtm vs ds → Fr (hideAll s.heap [x, dx, it]) L h' (fun y => if y = Str.ofString "args" then some v else List.lookup y [(Str.ofString "self", Value.ref x)].reverse) ∧
              News (hideAll s.heap [x, dx, it]) L h' [(t', tupO vs), (it, oit), (x, smO dx it), (dx, dictOf [] 0)] := fun h' vs t' k3 ht0 ht hvs => by
            refine ⟨F₃.keeps k3, fun p hp => ?_⟩
            rcases List.mem_cons.mp hp with rfl | hp
            · refine ⟨ht, fun q => ?_, ?_⟩
              · have := F₃.ns.lt; have q' : t' = L := q; obtain ⟨o, _, _, ho, _⟩ := F₃.ns; rw [q', ho] at ht0; cases ht0
              · cases q : (hideAll s.heap [x, dx, it]).get? t' with
                | none => rfl
                | some o => have := F₃.keep _ _ q; rw [ht0] at this; cases this
            · exact ⟨k3 _ _ (N₃ p hp).1, (N₃ p hp).2⟩
          have row₃ := row₀.keeps F₃.keep
          k_steps
          refine type_row (hTS _ _ _ _) (by rcases hT' with rfl | rfl | rfl | rfl <;> decide) hv' ?_
          have leaf : ∀ (h' : Heap) (vs : List Value) (t' : Addr), AllAtm vs ds → Fr (hideAll s.heap [x, dx, it]) L h' (fun y => if y = Str.ofString "args" then some (.ref t') else if y = Str.ofString "args" then some v else List.lookup y [(Str.ofString "self", Value.ref x)].reverse) →
              News (hideAll s.heap [x, dx, it]) L h' [(t', tupO vs), (it, oit), (x, smO dx it), (dx, dictOf [] 0)] → Fr (hideAll s.heap [x, dx, it]) L h' (fun y => if y = Str.ofString "args" then some (.ref t') else List.lookup y [(Str.ofString "self", Value.ref x)].reverse) ∧ News (hideAll s.heap [x, dx, it]) L h' [(it, oit), (x, smO dx it), (dx, dictOf [] 0)] := fun h' vs t' hvs F N => by
            refine ⟨?_, fun p hp => N p (.tail _ hp)⟩
            have e : (fun y => if y = Str.ofString "args" then some (.ref t') else if y = Str.ofString "args" then some v else List.lookup y [(Str.ofString "self", Value.ref x)].reverse) = (fun y => if y = Str.ofString "args" then some (Value.ref t') else List.lookup y [(Str.ofString "self", Value.ref x)].reverse) := by
              funext y; split <;> rfl
            rw [e] at F; exact F
          rcases hT' with rfl | rfl | rfl | rfl
          all_goals
            k_steps
            refine tuple_row rfl (by simp) (hTS _ _ _ _) row₃ fun h₄ tk₄ vs t' k4 ht0 ht hvs => ?_
            obtain ⟨F₄, N₄⟩ := fin h₄ vs t' k4 ht0 ht hvs
            clear F₃ N₃ k4 ht0 ht
            k_steps
            rename_i h₅ F₅ N₅
            obtain ⟨F₆, N₆⟩ := leaf h₅ vs t' hvs F₅ N₅
            unfold Mid
            exact ⟨rfl, _, _, t', _, _, _, ds, rfl, rfl, F₆, N₆, (N₅ _ (.head _)).1, rfl, rfl, by simpa using hvs, hrow.small⟩
    · obtain ⟨rfl, h₄, tk₄, t', o, its, n', ds, hrow0, rfl, F₄, N₄, ho, hc, hd', hal, h4⟩ := hq
      clear F₃ N₃
      have st := step_walk (S := frs l) (X := [it]) F₄ N₄ hwH
      have hits : its.size ≤ 4 := by have := hal.length; rw [Array.length_toList] at this; omega
      dsimp only
      refine C_execs_cons (C_Return (C_methodStar ?_))
      k_steps
      refine C_callWith_S (K := Mine.hd.heap_39 w.params) (by k_is) ?_
      k_steps
      refine star_tup ho hc hd' (by rw [sizeLine_eq]; omega) fun h₅ k5 => ?_
      have F₅ := F₄.keeps k5
      have N₅ : News (hideAll s.heap [x, dx, it]) L h₅ [(it, oit), (x, smO dx it), (dx, dictOf [] 0)] := fun p hp => ⟨k5 _ _ (N₄ p hp).1, (N₄ p hp).2⟩
      have B₅ : Bs w mean mg mb h₅ := B₀.keeps F₅.keep
      have st₅ := step_walk (S := frs l) (X := [it]) F₅ N₅ hwH
      refine ⟨B₅.K, ?_⟩
      show wpC _ _ (call (.ref 73) its.toList) _ _ _
      refine C_call ?_
      rcases ds with _ | ⟨d, ds⟩
      · obtain hnil : its.toList = [] := List.length_eq_zero_iff.mp hal.length
        rw [hnil]
        refine three_refused B₅ (by show dp + 1 < _; omega) rfl fun h₆ tk₆ e₆ ne₆ => ?_
        have hitn₅ : ∀ b ∈ [it], h₅.get? b ≠ none := fun b hm => by
          rw [List.mem_singleton.mp hm, (N₅ _ (.head _)).1]; simp
        refine leave_new (h := s.heap) (hc := h₅) (base := base) (X := [it]) (P := fun B => ItAt B it lst T (i + 1)) rfl rfl st₅ hitn₅ hLn ?_ ne₆ (fun B hB => ⟨oit, hB _ _ (N₅ _ (.head _)).1 ?_, hoc, hod⟩) fun h'' fl => herr h'' _ _ (.inr hrow0) fl
        · exact (U.inside st₅ hXi F₅.ns hLn rfl rfl).frames
        · exact hitf
      · refine K_any (three_ok B₅ (by show dp + 1 < _; omega) hal (by simp) h4 fun h₆ tk₆ r t k6 hr0 ht0 hr ht => ?_)
        exact hok h₆ tk₆ r t _ d ds hrow0 (st₅.trans (.of_kp k6)) ⟨oit, k6 _ _ (N₅ _ (.head _)).1, hoc, hod⟩ hr ht hal (fresh_of_step st₅ (fun b hm => by rw [List.mem_singleton.mp hm, (N₅ _ (.head _)).1]; simp) hr0)
          (fresh_of_step st₅ (fun b hm => by rw [List.mem_singleton.mp hm, (N₅ _ (.head _)).1]; simp) ht0)
/-- the iterator's end: StopIteration -/
theorem next_stops {x dx it lst : Addr} {T : String} {i n : Nat} {items : Array Value} {ol : Obj} {R : Result → Shared → Prop}
    (U : Und w mean mg mb (Ar dp un l gd) base l s.heap) (hroom : dp + 3 < recursionLimit) (hu : un + 100 < cLine)
    (hx : s.heap.get? x = some (smO dx it)) (hdx : s.heap.get? dx = some (dictOf [] 0)) (hT : T = "list_iterator" ∨ T = "tuple_iterator") (hit : ItAt s.heap it lst T i) (hl : s.heap.get? lst = some ol) (hd : ol.data = .seq items n)
    (hv : items[i]? = none) (hb : ∀ b ∈ [x, dx, it], base.get? b = none) (hne : it ≠ x ∧ it ≠ dx) (hfr : ∀ b ∈ [x, dx, it, lst], b ∉ frs l)
    (hE : ∀ h' tk e, Flung l [it] (fun B => ∃ o, B.get? it = some o ∧ o.cls = .type T ∧ o.data = .fields #[.none, .int i 0]) s.heap h' e "StopIteration" → R (.error (.ref e)) { s with heap := h', toks := tk }) :
    codeC (model PR w) (Ar dp un l gd) (.call (.ref 50) ⟨[.ref x], []⟩) R s := by
  refine' enter_C (binds := [(Str.ofString "self", .ref x)]) U (by show dp < _; omega) ?k6 ?k7 ?k9 ?h ?c1 ?c5 ?c2 ?c3 ?c4
  case k6 => k_is
  case k7 => k_is
  case k9 => exact BindsTo.of_eq rfl
  case c1 => exact rfl
  case c5 => decide
  case c2 => exact rfl
  case c3 => exact rfl
  case c4 => exact rfl
  case h =>
    intro L h₁ k1 hsz hLn hns U₁ hL
    have B₀ := U.hide (H := [x, dx, it]) hb
    have X := B₀.K
    have T₀ := B₀.T
    have F := hide_fr (H := [x, dx, it]) k1 hns (by rw [hL]; exact Nat.le_refl _)
    have N := hide_news (H := [x, dx, it]) k1 hLn (ps := [(x, smO dx it), (dx, dictOf [] 0)]) (by
      intro p hp
      simp only [List.mem_cons, List.not_mem_nil, or_false] at hp
      rcases hp with rfl | rfl
      · exact ⟨hx, by simp⟩
      · exact ⟨hdx, by simp⟩)
    refine C_execs_cons (C_any ?_)
    try dsimp only
    k_steps
    have hit₁ : ItAt h₁ it lst T i := let ⟨o, a, b⟩ := hit; ⟨o, k1 _ _ a, b⟩
    have hLit : L ≠ it := fun q => by obtain ⟨o, a, _⟩ := hit; rw [← q, hLn] at a; cases a
    refine next_end rfl hT hit₁ (k1 _ _ hl) hd hv fun hm h₂ e₂ hb₂ hitm ne₂ => ?_
    have Fm := but_fr F hb₂ (hideAll_none _ (by simp)) hLit
    have Nm := but_news N hb₂ (by
      intro p hp
      simp only [List.mem_cons, List.not_mem_nil, or_false] at hp
      rcases hp with rfl | rfl
      · exact Ne.symm hne.1
      · exact Ne.symm hne.2)
    have hXi : ∀ b ∈ [it], base.get? b = none ∧ b ∉ frs l := fun b hm => by
      rw [List.mem_singleton.mp hm]; exact ⟨hb _ (by simp), hfr _ (by simp)⟩
    have hitf : it ∉ L :: frs l := fun m => by
      rcases List.mem_cons.mp m with q | m
      · exact hLit q.symm
      · exact hfr _ (by simp) m
    have stm := step_walk (S := frs l) (X := [it]) Fm Nm (fun b hm hn o e => by
      simp only [List.mem_cons, List.not_mem_nil, or_false] at hm hn
      rcases hm with rfl | rfl | rfl
      · rw [hx] at e; injection e with e; subst e; simp
      · rw [hdx] at e; injection e with e; subst e; simp
      · exact absurd rfl hn)
    obtain ⟨oit, hoit, hoc, hod⟩ := hitm
    refine leave_new (h := s.heap) (hc := hm) (base := base) (X := [it]) (P := fun B => ∃ o, B.get? it = some o ∧ o.cls = .type T ∧ o.data = .fields #[.none, .int i 0]) rfl rfl stm (fun b hm => by rw [List.mem_singleton.mp hm, hoit]; simp) hLn ?_ ne₂ (fun B hB => ⟨oit, hB _ _ hoit ?_, hoc, hod⟩) fun h'' fl => hE h'' _ _ fl
    · exact (U.inside stm hXi Fm.ns hLn rfl rfl).frames
    · exact hitf
end
end Mine

/-! MQ -/
namespace Mine
/-! list() of a starmap -/
theorem Flung.before {l : List Env} {X : List Addr} {P : Heap → Prop} {h h₁ h' : Heap} {e : Addr} {cls : String} (st : Step (frs l) X h h₁) (hX : ∀ b ∈ X, h₁.get? b ≠ none) (F : Flung l X P h₁ h' e cls) : Flung l X P h h' e cls := by
  obtain ⟨s2, he, B, a0, hB, hP, fl⟩ := F
  exact ⟨st.trans s2, fresh_of_step st hX he, B, a0, fun b o e hm hX => hB b o ((st b o e hX).1 hm) hm hX, hP, fl⟩
theorem Flung.there {l : List Env} {X : List Addr} {P : Heap → Prop} {h h' : Heap} {e : Addr} {cls : String} (F : Flung l X P h h' e cls) : ∃ o, h'.get? e = some o ∧ o.cls = .type cls := by
  obtain ⟨_, _, _, _, _, _, fl⟩ := F
  exact fl.there
/-- what the function gives for a row -/
def ThreeF (h₀ h : Heap) (v : Value) (row : Option (List PyData)) : Prop :=
  ∃ r t vs d ds, v = .ref r ∧ row = some (d :: ds) ∧ h.get? r = some (tupO (threeVs vs t)) ∧ h.get? t = some (tupO (vs.drop 2)) ∧ AllAtm vs (d :: ds) ∧ h₀.get? r = none ∧ h₀.get? t = none
theorem ThreeF.step {h₀ h h' : Heap} {S X : List Addr} {v : Value} {row : Option (List PyData)} (x : ThreeF h₀ h v row) (st : Step S X h h') (hS : ∀ b ∈ S, h₀.get? b ≠ none) (hX : ∀ b ∈ X, h₀.get? b ≠ none) : ThreeF h₀ h' v row := by
  obtain ⟨r, t, vs, d, ds, e1, e2, e3, e4, e5, e6, e7⟩ := x
  exact ⟨r, t, vs, d, ds, e1, e2, st.get e3 (fun m => hS _ m e6) (fun m => hX _ m e6), st.get e4 (fun m => hS _ m e7) (fun m => hX _ m e7), e5, e6, e7⟩
theorem ThreeF.write {h₀ h : Heap} {S : Addr} {acc : Array Value} {c : Nat} {v : Value} {row : Option (List PyData)} {f : Obj → Obj} (x : ThreeF h₀ h v row) (hS : h.get? S = some (listO acc c)) : ThreeF h₀ (h.update S f) v row := by
  obtain ⟨r, t, vs, d, ds, e1, e2, e3, e4, e5, e6, e7⟩ := x
  refine ⟨r, t, vs, d, ds, e1, e2, ?_, ?_, e5, e6, e7⟩
  · rw [Heap.get?_update_other _ _ (fun q => by rw [← q, hS] at e3; simp [tupO] at e3)]; exact e3
  · rw [Heap.get?_update_other _ _ (fun q => by rw [← q, hS] at e4; simp [tupO] at e4)]; exact e4
theorem ThreeF.base {h₀ h₁ h : Heap} {v : Value} {row : Option (List PyData)} (x : ThreeF h₁ h v row) (k : ∀ a, h₁.get? a = none → h₀.get? a = none) : ThreeF h₀ h v row := by
  obtain ⟨r, t, vs, d, ds, e1, e2, e3, e4, e5, e6, e7⟩ := x
  exact ⟨r, t, vs, d, ds, e1, e2, e3, e4, e5, k _ e6, k _ e7⟩
/-- the answers, one by one -/
def Told (h₀ h : Heap) (acc : Array Value) (rs : List (Option (List PyData))) : Prop := ∀ (j : Nat) v, acc[j]? = some v → ∃ row, rs[j]? = some row ∧ ThreeF h₀ h v row
theorem Told.push {h₀ h : Heap} {acc : Array Value} {rs : List (Option (List PyData))} {v : Value} {row : Option (List PyData)} (x : Told h₀ h acc rs) (hr : rs[acc.size]? = some row) (hv : ThreeF h₀ h v row) : Told h₀ h (acc.push v) rs := fun j u hj => by
  rw [Array.getElem?_push] at hj
  split at hj
  · rename_i e; rw [e]; cases hj; exact ⟨row, hr, hv⟩
  · exact x j u hj
theorem RowAt.move {h h' : Heap} {v : Value} {od : Option (List PyData)} (r : RowAt h v od) (key : ∀ a o, v = .ref a → h.get? a = some o → h'.get? a = some o) : RowAt h' v od := by
  cases r with
  | list a b c d e => exact .list (key _ _ rfl a) b c d e
  | tup a b c d e => exact .tup (key _ _ rfl a) b c d e
  | rng a b => exact .rng (key _ _ rfl a) b
  | str a => exact .str a
  | dict a b c => exact .dict (fun p w => (a p w).at' fun o e => key _ _ rfl e) b c
  | int => exact .int
def AllRow (h : Heap) (vs : List Value) (rs : List (Option (List PyData))) : Prop := vs.length = rs.length ∧ ∀ (k : Nat) v row, vs[k]? = some v → rs[k]? = some row → RowAt h v row
theorem stop_yes : isSubtype (.type "StopIteration") (.type "StopIteration") = pure true := by rw [isSubtype_type]; kernel_rfl
theorem stop_no : isSubtype (.type "TypeError") (.type "StopIteration") = pure false := by rw [isSubtype_type]; kernel_rfl
section
variable {w : World} {A : Around} {E : Value → Shared → Prop} {s : Shared}
/-- next() of an own iterator, under the caller -/
theorem C_pyNext {x f : Addr} {ox : Obj} {C : Addr} {od : Option Obj} {K : Frag} {Q : Option Value → Shared → Prop} (X : K.In s.heap) (I : InstAt s.heap x ox C od) (hs : findIn K (.ref C) "__next__" = some (some (.ref f))) (hf : isFn K (.ref f) = true)
    (h : codeC (model PR w) A (.call (.ref f) ⟨[.ref x], []⟩) (fun r s' => match r with
      | .ok (.ret v) => Q (some v) s'
      | .ok _ => False
      | .error e => wpAny (model PR w) A (isInstance e (.type "StopIteration")) (fun b s₂ => if b = true then Q none s₂ else E e s₂) E s') s) : wpC (model PR w) A (pyNext (.ref x)) Q E s := by
  unfold pyNext
  refine C_bind (C_attempt ?_)
  unfold callSpecial?
  refine C_step ?_
  unfold specialOf
  refine wpAny_bind ?_
  refine I.type.here ?_
  refine (looks_findIn X hs).here ?_
  dsimp only
  refine C_holding ?_
  refine C_step ?_
  refine (bind_fn X _ (beq_iff_eq.mp hf)).here ?_
  dsimp only
  refine C_bind (C_mono (Q := fun v s' => Q (some v) s') (E := fun e s' => wpAny (model PR w) A (isInstance e (.type "StopIteration")) (fun b s₂ => if b = true then Q none s₂ else E e s₂) E s') (C_call h) (fun v s' hq => C_pure (C_pure hq)) fun e s' he => ?_)
  refine C_step (wpAny_mono he (fun b s₂ hb => ?_) fun _ _ z => z)
  cases b with
  | true => exact C_pure hb
  | false => exact C_any (wpAny_throw hb)
end
section
variable {w : World} {mean : ExcName → Option Value} {mg mb : Str → Option Value} {dp un : Nat} {l : List Env} {gd : Option (List Code)} {s : Shared} {base : Heap} {E : Value → Shared → Prop} {Q : Value → Shared → Prop}
abbrev Spent (h : Heap) (it : Addr) (T : String) : Prop := ∃ o j, h.get? it = some o ∧ o.cls = .type T ∧ o.data = .fields #[.none, .int j 0]
theorem own_iter {A : Around} {x f : Addr} {ox : Obj} {C : Addr} {od : Option Obj} {K : Frag} {Q : Value → Shared → Prop} (X : K.In s.heap) (I : InstAt s.heap x ox C od) (hs : findIn K (.ref C) "__iter__" = some (some (.ref f))) (hf : isFn K (.ref f) = true)
    (h : wpAny (model PR w) A (call (.ref f) [.ref x]) (OwitIt (model PR w) A Q E) E s) : wpAny (model PR w) A (pyIter (.ref x)) Q E s := by
  have fin : wpAny (model PR w) A (call (.ref f) [.ref x] >>= fun v => pure (some v)) (fun r s' => ∃ v, r = some v ∧ OwitIt (model PR w) A Q E v s') E s :=
    wpAny_bind (wpAny_mono h (fun v s' h' => wpAny_pure ⟨v, rfl, h'⟩) fun _ _ z => z)
  have one : ∀ refuse : Sem Value, wpAny (model PR w) A (callSpecialIfBoundUnlessNone? (.ref x) "__iter__" refuse) (fun r s' => ∃ v, r = some v ∧ OwitIt (model PR w) A Q E v s') E s := by
    intro refuse
    simp only [callSpecialIfBoundUnlessNone?, bindSpecialIfBound?]
    refine wpAny_holding (wpAny_bind (wpAny_bind (wpAny_bind (I.type.here ((looks_findIn X hs).here ?_)))))
    refine wpAny_bind (wpAny_askSetting (wpAny_ite ?_))
    have fin2 : wpAny (model PR w) A (if (Value.ref f == Value.none) = true then (refuse >>= fun v => pure (some v)) else (call (.ref f) [.ref x] >>= fun v => pure (some v))) (fun r s' => ∃ v, r = some v ∧ OwitIt (model PR w) A Q E v s') E s := by
      rw [if_neg (show ¬ ((Value.ref f == Value.none) = true) from Bool.false_ne_true)]
      exact fin
    split
    · exact wpAny_bind ((bind_fn X _ (beq_iff_eq.mp hf)).here (wpAny_pure (by exact fin2)))
    · exact wpAny_tryCatch (wpAny_bind ((bind_fn X _ (beq_iff_eq.mp hf)).here (wpAny_pure (by exact fin2))))
  unfold pyIter
  refine wpAny_bind (wpAny_bind (I.type.here ((looks_findIn X hs).here ?_)))
  show wpAny (model PR w) A (callSpecialIfBoundUnlessNone? (.ref x) "__iter__" _ >>= _) Q E s
  refine wpAny_bind (wpAny_mono (one _) (fun r s' hr => ?_) fun _ _ z => z)
  obtain ⟨v, rfl, hv⟩ := hr
  refine wpAny_bind (wpAny_mono hv (fun r s₂ hr => ?_) fun _ _ z => z)
  cases r with
  | none => exact hr.elim
  | some g => exact wpAny_pure hr
theorem iter_self {x : Addr} {R : Result → Shared → Prop} (b : Bs w mean mg mb s.heap) (hroom : dp < recursionLimit) (h : ∀ h' tk, Kp s.heap h' → R (.ok (.ret (.ref x))) { s with heap := h', toks := tk }) :
    codeAny (model PR w) (Ar dp un l gd) (.call (.ref 43) ⟨[.ref x], []⟩) R s := by
  refine' enter_plain (binds := [(Str.ofString "self", .ref x)]) b hroom ?k6 ?k7 ?k9 ?h ?kB ?c5 ?c2 ?c3 ?c4
  case k6 => k_is
  case k7 => k_is
  case k9 => exact BindsTo.of_eq rfl
  case c5 => decide
  case kB => intro y hy; rw [List.mem_singleton.mp hy]; exact rfl
  case c2 => exact rfl
  case c3 => exact rfl
  case c4 => exact rfl
  case h =>
    intro L h₁ F N X T hL
    try dsimp only
    k_steps
    exact h _ _ F.keep
theorem list_sm {x dx it lst : Addr} {T : String} {n : Nat} {items : Array Value} {ol : Obj} {rs : List (Option (List PyData))}
    (U : Und w mean mg mb (Ar dp un l gd) base l s.heap) (hroom : dp + 3 < recursionLimit) (hu : un + 110 < cLine)
    (hx : s.heap.get? x = some (smO dx it)) (hdx : s.heap.get? dx = some (dictOf [] 0)) (hT : T = "list_iterator" ∨ T = "tuple_iterator") (hit : ItAt s.heap it lst T 0) (hl : s.heap.get? lst = some ol) (hd : ol.data = .seq items n)
    (hrows : AllRow s.heap items.toList rs) (hn : items.size ≤ 64) (hlf : ol.cls = .type "list" ∨ ol.cls = .type "tuple")
    (hb : ∀ b ∈ [x, dx, it], base.get? b = none) (hfr : ∀ b ∈ [x, dx, it, lst], b ∉ frs l) (hvn : ∀ v ∈ items.toList, ∀ b ∈ [x, dx, it], v ≠ .ref b) (hrf : ∀ v ∈ items.toList, ∀ b ∈ frs l, v ≠ .ref b)
    (hok : ∀ h' tk S acc c, Step (frs l) [it] s.heap h' → Spent h' it T → s.heap.get? S = none → h'.get? S = some (listO acc c) → acc.size = rs.length → Told s.heap h' acc rs → Q (.ref S) { s with heap := h', toks := tk })
    (herr : ∀ h' tk e k, (∀ j, j < k → ∃ d ds, rs[j]? = some (some (d :: ds))) → (rs[k]? = some none ∨ rs[k]? = some (some [])) → Flung l [it] (fun B => ItAt B it lst T (k + 1)) s.heap h' e "TypeError" → E (.ref e) { s with heap := h', toks := tk }) :
    wpC (model PR w) (Ar dp un l gd) (call (.type "list") [.ref x]) Q E s := by
  have hne : it ≠ x ∧ it ≠ dx := by
    obtain ⟨o, h1, h2, h3⟩ := hit
    refine ⟨fun q => ?_, fun q => ?_⟩
    · rw [q, hx] at h1; injection h1 with h1; subst h1; cases h3
    · rw [q, hdx] at h1; injection h1 with h1; subst h1; cases h3
  have hlx : lst ≠ it ∧ lst ≠ x ∧ lst ≠ dx := by
    refine ⟨fun q => ?_, fun q => ?_, fun q => ?_⟩
    · obtain ⟨o, h1, h2, h3⟩ := hit; rw [← q, hl] at h1; injection h1 with h1; subst h1; rw [hd] at h3; cases h3
    · rw [q, hx] at hl; injection hl with hl; subst hl; cases hd
    · rw [q, hdx] at hl; injection hl with hl; subst hl; cases hd
  have hitn : s.heap.get? it ≠ none := by obtain ⟨o, h1, _⟩ := hit; rw [h1]; simp
  have hSn : ∀ b ∈ frs l, s.heap.get? b ≠ none := fun b hm => by obtain ⟨_, o, ho, _⟩ := U.frames.mem hm; rw [ho]; simp
  have hXn : ∀ b ∈ [it], s.heap.get? b ≠ none := fun b hm => by rw [List.mem_singleton.mp hm]; exact hitn
  have hXi : ∀ b ∈ [it], base.get? b = none ∧ b ∉ frs l := fun b hm => by rw [List.mem_singleton.mp hm]; exact ⟨hb _ (by simp), hfr _ (by simp)⟩
  have inst : ∀ h', Step (frs l) [it] s.heap h' → InstAt h' x (smO dx it) 54 (some (dictOf [] 0)) := fun h' st =>
    ⟨st.get hx (hfr _ (by simp)) (by simp [Ne.symm hne.1]), rfl, rfl, st.get hdx (hfr _ (by simp)) (by simp [Ne.symm hne.2])⟩
  have bsAt : ∀ h', Step (frs l) [it] s.heap h' → Bs w mean mg mb h' := fun h' st => (U.step st hXi).in
  refine C_call_list (T0 := .ref 54)
    (fun acc m s' => ∃ k, m = items.size - k ∧ k ≤ items.size ∧ acc.size = k ∧ Step (frs l) [it] s.heap s'.heap ∧ ItAt s'.heap it lst T k ∧ s' = { s with heap := s'.heap, toks := s'.toks } ∧ Told s.heap s'.heap acc rs)
    (fun acc s' => acc.size = items.size ∧ Step (frs l) [it] s.heap s'.heap ∧ Spent s'.heap it T ∧ s' = { s with heap := s'.heap, toks := s'.toks } ∧ Told s.heap s'.heap acc rs) items.size
    (fun h' k => (inst h' (.of_kp k)).type) ⟨rfl, rfl⟩ (fun h' k => ?len) (fun h' k => ?hint) (fun s' Q k hq => ?iter) (fun h' tk k => ?start) (fun S acc acc' c m s' f hSn' hS hst => ?keepS) (fun S acc c m s' hSn' hS hst => ?turn) (fun S acc c s' hSn' hS hend => ?stop) (Heap.lt_size hx)
  case len => exact (inst h' (.of_kp k)).type.andThen (looks_findIn (bsAt h' (.of_kp k)).K (by k_is))
  case hint => exact (inst h' (.of_kp k)).type.andThen (looks_findIn (bsAt h' (.of_kp k)).K (by k_is))
  case iter =>
    refine own_iter (bsAt _ (.of_kp k)).K (inst _ (.of_kp k)) (by k_is) (by k_is) (wpAny_call (iter_self (un := un + 1 + 1) (bsAt _ (.of_kp k)) (by show dp < _; omega) fun h' tk k' => ?_))
    have st' : Step (frs l) [it] s.heap h' := .of_kp (Kp.trans k k')
    show OwitIt _ _ _ _ _ _
    unfold OwitIt
    refine wpAny_bind ?_
    refine (inst h' st').type.here ?_
    exact (looks_findIn (bsAt h' st').K (r := some (.ref 50)) (by k_is)).here (hq _ _ k')
  case start =>
    refine ⟨0, rfl, Nat.zero_le _, rfl, .of_kp k, ?_, rfl, fun j v hj => by simp at hj⟩
    obtain ⟨o, h1, h2⟩ := hit
    exact ⟨o, k _ _ h1, h2⟩
  case keepS =>
    obtain ⟨k, h1, h2, h3, h4, h5, h6, h7⟩ := hst
    refine ⟨k, h1, h2, h3, h4.write hSn', ?_, by rw [h6], fun j v hj => ?_⟩
    · obtain ⟨o, g1, g2⟩ := h5
      exact ⟨o, (Heap.get?_update_other _ _ (fun q => by rw [q] at hSn'; exact hitn hSn')).trans g1, g2⟩
    · obtain ⟨row, g1, g2⟩ := h7 j v hj
      exact ⟨row, g1, g2.write hS⟩
  case stop =>
    obtain ⟨h1, h2, h3, h4, h5⟩ := hend
    rw [h4]
    refine hok _ _ S acc c h2 h3 hSn' hS ?_ h5
    rw [h1, ← hrows.1, Array.length_toList]
  case turn =>
    obtain ⟨k, h1, h2, h3, h4, h5, h6, h7⟩ := hst
    have hSl : S ∉ frs l := fun m => hSn _ m hSn'
    have hSi : S ∉ [it] := fun m => hXn _ m hSn'
    have U' := U.step h4 hXi
    have hx' := h4.get hx (hfr _ (by simp)) (by simp [Ne.symm hne.1])
    have hdx' := h4.get hdx (hfr _ (by simp)) (by simp [Ne.symm hne.2])
    have hl' := h4.get hl (hfr _ (by simp)) (by simp [hlx.1])
    have hXn' : ∀ b ∈ [it], s'.heap.get? b ≠ none := fun b hm => by
      rw [List.mem_singleton.mp hm]; obtain ⟨o, g1, _⟩ := h5; rw [g1]; simp
    have hz : acc.size ≤ sizeLine := by rw [h3, sizeLine_eq]; omega
    refine C_pyNext (bsAt _ h4).K (inst _ h4) (by k_is) (by k_is) ?_
    rcases hi : items[k]? with _ | v
    · have hk : k = items.size := by have := Array.getElem?_eq_none_iff.mp hi; omega
      refine next_stops (un := un + 1 + 1) (U'.around rfl) hroom (by omega) hx' hdx' hT h5 hl' hd hi hb hne hfr fun h'' tk e F => ?_
      dsimp only
      obtain ⟨oe, hoe, hce⟩ := F.there
      obtain ⟨f1, f2, B, a0, f3, f4, f5⟩ := F
      refine wpAny_isInstance (T := "StopIteration") (b := true) (⟨oe, hoe, hce⟩ : Shared.TypeIs _ (.ref e) "StopIteration") stop_yes ?_
      rw [if_pos rfl]
      refine ⟨f1.get hS hSl hSi, hz, by rw [h3, hk], h4.trans f1, ?_, by rw [h6], fun j v hj => ?_⟩
      · obtain ⟨o, g1, g2, g3⟩ := f4
        exact ⟨o, k, f5.1 _ _ g1, g2, g3⟩
      · obtain ⟨row, g1, g2⟩ := h7 j v hj
        exact ⟨row, g1, g2.step f1 hSn hXn⟩
    · have hk : k < items.size := by
        rcases Nat.lt_or_ge k items.size with q | q
        · exact q
        · rw [Array.getElem?_eq_none q] at hi; cases hi
      have hvm : v ∈ items.toList := by
        rw [← Array.getElem?_toList] at hi
        exact List.mem_of_getElem? hi
      obtain ⟨row, hrow⟩ : ∃ row, rs[k]? = some row := by
        have : k < rs.length := by rw [← hrows.1, Array.length_toList]; exact hk
        exact ⟨_, List.getElem?_eq_getElem this⟩
      have hrow' : RowAt s.heap v row := hrows.2 k v row (by rw [Array.getElem?_toList]; exact hi) hrow
      have hrow'' : RowAt s'.heap v row := hrow'.move fun a o q e => h4.get e (fun m => hrf v hvm a m q) (fun m => hvn v hvm a (by simp at m; simp [m]) q)
      refine next_walk (un := un + 1 + 1) (U'.around rfl) hroom (by omega) hx' hdx' hT h5 hl' hd hi hrow'' hb hne hfr (hvn v hvm) (fun h'' tk r t vs d ds e1 f1 f2 f3 f4 f5 f6 f7 => ?_) (fun h'' tk e e1 F => ?_)
      · dsimp only
        have r0 := fresh_of_step h4 hXn' f6
        have t0 := fresh_of_step h4 hXn' f7
        refine ⟨f1.get hS hSl hSi, hz, items.size - (k + 1), by omega, k + 1, rfl, by omega, by rw [Array.size_push, h3], h4.trans f1, f2, by rw [h6], Told.push (row := row) (fun j v hj => ?_) (by rw [h3]; exact hrow) ⟨r, t, vs, d, ds, rfl, e1, f3, f4, f5, r0, t0⟩⟩
        obtain ⟨row, g1, g2⟩ := h7 j v hj
        exact ⟨row, g1, g2.step f1 hSn hXn⟩
      · dsimp only
        obtain ⟨oe, hoe, hce⟩ := F.there
        refine wpAny_isInstance (T := "TypeError") (b := false) (⟨oe, hoe, hce⟩ : Shared.TypeIs _ (.ref e) "TypeError") stop_no ?_
        rw [if_neg (by decide)]
        rw [h6]
        refine herr _ _ e k (fun j hj => ?_) (by rcases e1 with rfl | rfl; exact .inl hrow; exact .inr hrow) (F.before h4 hXn')
        have hja : j < acc.size := by omega
        obtain ⟨row', g1, r, t, vs, d, ds, g2, g3, _⟩ := h7 j _ (Array.getElem?_eq_getElem hja)
        exact ⟨d, ds, by rw [g1, g3]⟩
end
end Mine

/-! MR -/
namespace Mine
/-! making a starmap -/
abbrev Iters (w : World) (h : Heap) (b lst : Addr) (T : String) (Xs : List Addr) : Prop := ∀ (A : Around) (E : Value → Shared → Prop) (Q : Value → Shared → Prop) (s' : Shared), Kp h s'.heap →
  (∀ h'' it, Kp s'.heap h'' → ItAt h'' it lst T 0 → ((it = b ∧ Xs = [b] ∧ ItAt h b lst T 0) ∨ (Xs = [] ∧ s'.heap.get? it = none)) → Q (.ref it) { s' with heap := h'' }) → wpAny (model PR w) A (call (.builtin "iter") [.ref b]) Q E s'
theorem iter_call {w : World} {A : Around} {E : Value → Shared → Prop} {b : Addr} {s : Shared} {Q : Value → Shared → Prop} (h : wpAny (model PR w) A.in1 (pyIter (.ref b)) Q E s) : wpAny (model PR w) A (call (.builtin "iter") [.ref b]) Q E s := by
  refine call_function_entry (by decide +kernel) (by decide +kernel) kdk_entry_iter (kdk_args_iter _) ?_
  unfold Builtin.«iter»
  refine wpAny_bind (m := someArgs "iter" 1 2 _) (wpAny_of_eq (a := [Value.ref b]) (by first | rfl | kernel_rfl!) ?_)
  show wpAny _ _ (pyIter (.ref b) >>= _) _ _ _
  exact wpAny_bind (wpAny_mono h (fun v s' q => wpAny_pure ⟨_, rfl, q⟩) fun _ _ x => x)
theorem iters_list {w : World} {h : Heap} {b : Addr} {items : Array Value} (hl : h.IsList b items) : Iters w h b b "list_iterator" [] := fun A E Q s' k hq => by
  obtain ⟨o, h1, h2⟩ := hl
  refine iter_call (wpAny_pyIter_list (items := items) ⟨o, k _ _ h1, h2⟩ (hq _ _ (fun a o e => Heap.get?_push_of_some _ e) ⟨_, Heap.get?_push_size _ rfl, rfl, rfl⟩ (.inr ⟨rfl, Heap.get?_none_of_le (Nat.le_refl _)⟩)))
theorem iters_tup {w : World} {h : Heap} {b : Addr} {vs : List Value} (hl : h.get? b = some (tupO vs)) : Iters w h b b "tuple_iterator" [] := fun A E Q s' k hq => by
  have hT : s'.TypeIs (.ref b) "tuple" := ⟨_, k _ _ hl, rfl⟩
  refine iter_call (wpAny_pyIter_slot hT F.slot_tuple_iter (wpAny_call_entry F.slot_tuple_iter hT F.entry_tuple_iter ?_ (F.args_tuple_iter_1 _)))
  show wpAny _ _ (do ret (← newFields "tuple_iterator" [.ref b, rawInt 0])) _ _ s'
  exact wpAny_bind (wpAny_newObj_type (wpAny_pure ⟨_, rfl, "tuple_iterator", _, ⟨_, Heap.get?_push_size _ rfl, rfl⟩, F.slot_tuple_iterator_next.lookup,
    hq _ _ (fun a o e => Heap.get?_push_of_some _ e) ⟨_, Heap.get?_push_size _ rfl, rfl, rfl⟩ (.inr ⟨rfl, Heap.get?_none_of_le (Nat.le_refl _)⟩)⟩))
theorem iters_it {w : World} {h : Heap} {b lst : Addr} (hl : ItAt h b lst "list_iterator" 0) : Iters w h b lst "list_iterator" [b] := fun A E Q s' k hq => by
  have hl' := hl
  obtain ⟨o, h1, h2, h3⟩ := hl
  have hT : s'.TypeIs (.ref b) "list_iterator" := ⟨o, k _ _ h1, h2⟩
  refine iter_call (wpAny_pyIter_slot hT slot_listiter_iter (wpAny_call_entry slot_listiter_iter hT entry_listiter_iter ?_ (args_listiter_iter _)))
  show wpAny _ _ (do ret (.ref b)) _ _ s'
  exact wpAny_pure ⟨_, rfl, "list_iterator", _, hT, slot_listiter_next.lookup, hq _ _ (fun a o e => e) ⟨o, k _ _ h1, h2, h3⟩ (.inl ⟨rfl, rfl, hl'⟩)⟩
section
variable {w : World} {mean : ExcName → Option Value} {mg mb : Str → Option Value} {dp un : Nat} {l : List Env} {gd : Option (List Code)} {s : Shared} {base : Heap} {R : Result → Shared → Prop}
theorem sm_init {x dx b lst : Addr} {T : String} {Xs : List Addr} (B : Bs w mean mg mb base) (hbs : base.StaysIn s.heap) (hroom : dp < recursionLimit) (hu : un + 100 < cLine)
    (hx : s.heap.get? x = some (instObj 54 dx)) (hdx : s.heap.get? dx = some emptyDict) (hbx : base.get? x = none ∧ base.get? dx = none) (hI : Iters w s.heap b lst T Xs) (hbd : b ≠ x ∧ b ≠ dx) (hlt : dx < x)
    (h : ∀ h' tk it, (∀ a o, a ≠ x → s.heap.get? a = some o → h'.get? a = some o) → h'.get? x = some (smO dx it) → ItAt h' it lst T 0 → ((it = b ∧ Xs = [b]) ∨ (Xs = [] ∧ s.heap.get? it = none)) → R (.ok (.ret .none)) { s with heap := h', toks := tk }) :
    codeAny (model PR w) (Ar dp un l gd) (.call (.ref 36) ⟨[.ref x, .ref 73, .ref b], []⟩) R s := by
  have Bx : Bs w mean mg mb s.heap := B.keeps hbs
  have hH : ∀ a ∈ [x, dx], base.get? a = none := fun a m => by
    simp only [List.mem_cons, List.not_mem_nil, or_false] at m
    rcases m with rfl | rfl
    · exact hbx.1
    · exact hbx.2
  refine' enter_plain (binds := [(Str.ofString "self", .ref x), (Str.ofString "function", .ref 73), (Str.ofString "iterable", .ref b)]) Bx hroom ?k6 ?k7 ?k9 ?h ?kB ?c5 ?c2 ?c3 ?c4
  case k6 => k_is
  case k7 => k_is
  case k9 => exact BindsTo.of_eq rfl
  case c5 => decide
  case kB => intro y hy; simp only [List.mem_cons, List.not_mem_nil, or_false] at hy; rcases hy with rfl | rfl | rfl <;> exact rfl
  case c2 => exact rfl
  case c3 => exact rfl
  case c4 => exact rfl
  case h =>
    intro L h₁ F1 N1 X1 T1 hL
    have hLn : s.heap.get? L = none := by rw [hL]; exact Heap.get?_none_of_le (Nat.le_refl _)
    have B₀ : Bs w mean mg mb (hideAll s.heap [x, dx]) := B.keeps fun b o e => hideAll_get _ (hbs b o e) fun m => by rw [hH b m] at e; cases e
    have X := B₀.K
    have T₀ := B₀.T
    have k1 := F1.keep
    have F := hide_fr (H := [x, dx]) F1.keep F1.ns F1.above
    have N := hide_news (H := [x, dx]) F1.keep hLn (ps := [(x, ({ cls := .ref 54, dict := some dx, data := .plain } : Obj)), (dx, dictOf [] 0)]) (by
      intro p hp
      simp only [List.mem_cons, List.not_mem_nil, or_false] at hp
      rcases hp with rfl | rfl
      · exact ⟨hx, by simp⟩
      · exact ⟨hdx, by simp⟩)
    clear F1 N1 X1 T1
    try dsimp only
    k_steps
    refine hI _ _ _ _ k1 fun h₂ it k2 hit hitb => ?_
    have F₂ := F.keeps k2
    have N₂ : News (hideAll s.heap [x, dx]) L h₂ [(x, ({ cls := .ref 54, dict := some dx, data := .plain } : Obj)), (dx, dictOf [] 0)] := fun p hp => ⟨k2 _ _ (N p hp).1, (N p hp).2⟩
    have old : ∀ {h' : Heap} {m'} {ns}, Fr (hideAll s.heap [x, dx]) L h' m' → News (hideAll s.heap [x, dx]) L h' ns → (dx, dictOf [] 0) ∈ ns → ∀ a o, a ≠ x → s.heap.get? a = some o → h'.get? a = some o := fun F' N' hm a o hax e => by
      by_cases hd : a = dx
      · subst hd; rw [hdx] at e; injection e with e; subst e; exact (N' _ hm).1
      · exact F'.keep _ _ (hideAll_get _ e (by simp [hax, hd]))
    rcases hitb with ⟨rfl, hitX, hitb⟩ | ⟨hitX, hitn⟩
    · clear F N
      k_lt2 hlt
      k_steps
      rename_i h₃ F₃ N₃
      obtain ⟨oit, g1, g2⟩ := hitb
      refine h h₃ _ _ (old F₃ N₃ (by simp)) (N₃ _ (.head _)).1 ⟨oit, F₃.keep _ _ (hideAll_get _ g1 (by simp [hbd.1, hbd.2])), g2⟩ (.inl ⟨rfl, hitX⟩)
    · obtain ⟨oit, g1, g2⟩ := hit
      have hits : s.heap.get? it = none := by
        cases q : s.heap.get? it with
        | none => rfl
        | some o => have := k1 _ _ q; rw [show h₁.get? it = none from hitn] at this; cases this
      have N₃ : News (hideAll s.heap [x, dx]) L h₂ [(x, ({ cls := .ref 54, dict := some dx, data := .plain } : Obj)), (dx, dictOf [] 0), (it, oit)] := fun p hp => by
        simp only [List.mem_cons, List.not_mem_nil, or_false] at hp
        rcases hp with rfl | rfl | rfl
        · exact N₂ _ (by simp)
        · exact N₂ _ (by simp)
        · refine ⟨g1, fun q => ?_, ?_⟩
          · obtain ⟨o, _, _, ho, _⟩ := F.ns
            have q' : it = L := q
            rw [q', show h₁.get? L = some o from ho] at hitn; cases hitn
          · cases q : (hideAll s.heap [x, dx]).get? it with
            | none => rfl
            | some o => have := of_hideAll _ q; rw [hits] at this; cases this
      have ne1 : @Ne Nat it x := fun q => by rw [q, hx] at hits; cases hits
      have ne2 : @Ne Nat it dx := fun q => by rw [q, hdx] at hits; cases hits
      clear F N N₂
      k_lt2 hlt
      k_steps
      rename_i h₃ F₃ N₃
      exact h h₃ _ _ (old F₃ N₃ (by simp)) (N₃ _ (.head _)).1 ⟨oit, (N₃ (it, oit) (by simp)).1, g2⟩ (.inr ⟨hitX, hits⟩)
end
end Mine

/-! MS -/
namespace Mine
/-! starmapstar -/
theorem Step.popL {l : List Env} {env : Env} {L : Addr} {X X' : List Addr} {h hc h' : Heap} (hf : env.frame = some L) (st : Step (frs l) X h hc) (hL : h.get? L = none) (hXX : ∀ b ∈ X', b ∈ X ∨ h.get? b = none) (st2 : Step (frs (env :: l)) X' hc h') : Step (frs l) X h h' := fun b o e hX => by
  obtain ⟨p, sl, q⟩ := st b o e hX
  have hX' : b ∉ X' := fun m => (hXX b m).elim hX fun z => by rw [z] at e; cases e
  obtain ⟨p', sl', q'⟩ := st2 b _ q hX'
  refine ⟨fun hS => (st2 b o (p hS) hX').1 fun m => ?_, sl', q'⟩
  rw [frs_cons hf] at m
  rcases List.mem_cons.mp m with rfl | m
  · rw [hL] at e; cases e
  · exact hS m
/-- the rows that are handed in: at b, behind it the sequence lst -/
structure Rows (w : World) (h : Heap) (l : List Env) (base : Heap) (b lst : Addr) (T : String) (Xs : List Addr) (rs : List (Option (List PyData))) : Prop where
  hT : T = "list_iterator" ∨ T = "tuple_iterator"
  iter : Iters w h b lst T Xs
  seq : ∃ ol items n, h.get? lst = some ol ∧ ol.data = .seq items n ∧ (ol.cls = .type "list" ∨ ol.cls = .type "tuple") ∧ AllRow h items.toList rs ∧ items.size ≤ 64 ∧ ∀ v ∈ items.toList, ∀ a ∈ frs l, v ≠ .ref a
  nb : base.get? b = none
  nl : lst ∉ frs l ∧ b ∉ frs l
  there : h.get? b ≠ none
  xs : Xs = [] ∨ Xs = [b]
theorem AllRow.move {h h' : Heap} {vs : List Value} {rs : List (Option (List PyData))} (r : AllRow h vs rs) (k : ∀ v ∈ vs, ∀ a o, v = .ref a → h.get? a = some o → h'.get? a = some o) : AllRow h' vs rs :=
  ⟨r.1, fun i v row e1 e2 => (r.2 i v row e1 e2).move fun a o q e => k v (List.mem_of_getElem? e1) a o q e⟩
theorem Iters.keeps {w : World} {h h' : Heap} {b lst : Addr} {T : String} {Xs : List Addr} (x : Iters w h b lst T Xs) (k : Kp h h') : Iters w h' b lst T Xs := fun A E Q s' k' hq =>
  x A E Q s' (Kp.trans k k') fun h'' it g1 g2 g3 => hq h'' it g1 g2 (g3.imp (fun z => ⟨z.1, z.2.1, let ⟨o, a, r⟩ := z.2.2; ⟨o, k _ _ a, r⟩⟩) id)
theorem RowAt.there (w : World) {h : Heap} {a : Addr} {row : Option (List PyData)} (r : RowAt h (.ref a) row) : ∃ o, h.get? a = some o ∧ (o.cls = .type "list" ∨ o.cls = .type "tuple" ∨ o.cls = .type "range" ∨ o.cls = .type "dict") := by
  cases r with
  | list a b c d e => exact ⟨_, a, .inl b⟩
  | tup a b c d e => exact ⟨_, a, .inr (.inl b)⟩
  | rng a b => exact ⟨_, a, .inr (.inr (.inl rfl))⟩
  | dict a b c => exact ⟨_, (a PR w).choose_spec.choose_spec.1, .inr (.inr (.inr (a PR w).choose_spec.choose_spec.2.1.1))⟩
theorem RowAt.ne_it (w : World) {h : Heap} {a it lst : Addr} {T : String} {i : Nat} {row : Option (List PyData)} (r : RowAt h (.ref a) row) (x : ItAt h it lst T i) (hT : T = "list_iterator" ∨ T = "tuple_iterator") : a ≠ it := fun q => by
  obtain ⟨o, ho, hc⟩ := r.there w
  obtain ⟨o', h1, h2, _⟩ := x
  rw [← q, ho] at h1
  injection h1 with h1
  subst h1
  rw [h2] at hc
  rcases hT with rfl | rfl <;> simp at hc
section
variable {w : World} {mean : ExcName → Option Value} {mg mb : Str → Option Value} {dp un : Nat} {l : List Env} {gd : Option (List Code)} {s : Shared} {base : Heap} {R : Result → Shared → Prop}
theorem sms {a b lst : Addr} {oa : Obj} {T : String} {Xs : List Addr} {rs : List (Option (List PyData))}
    (U : Und w mean mg mb (Ar dp un l gd) base l s.heap) (hroom : dp + 8 < recursionLimit) (hu : un + 200 < cLine)
    (ha : s.heap.get? a = some oa) (hoa : oa = tupO [.ref 73, .ref b] ∨ ∃ c i t, oa = listO #[.ref 73, .ref b, .int i t] c) (hba : base.get? a = none)
    (hr : Rows w s.heap l base b lst T Xs rs)
    (hok : ∀ h' tk S acc c, Step (frs l) Xs s.heap h' → (Xs = [b] → Spent h' b T) → s.heap.get? S = none → h'.get? S = some (listO acc c) → acc.size = rs.length → Told s.heap h' acc rs → R (.ok (.ret (.ref S))) { s with heap := h', toks := tk })
    (herr : ∀ h' tk e k, (∀ j, j < k → ∃ d ds, rs[j]? = some (some (d :: ds))) → (rs[k]? = some none ∨ rs[k]? = some (some [])) → Flung l Xs (fun B => Xs = [b] → ItAt B b lst T (k + 1)) s.heap h' e "TypeError" → R (.error (.ref e)) { s with heap := h', toks := tk }) :
    codeC (model PR w) (Ar dp un l gd) (.call (.ref 65) ⟨[.ref a], []⟩) R s := by
  refine' enter_C (binds := [(Str.ofString "args", .ref a)]) U (by show dp < _; omega) ?k6 ?k7 ?k9 ?h ?c1 ?c5 ?c2 ?c3 ?c4
  case k6 => k_is
  case k7 => k_is
  case k9 => exact BindsTo.of_eq rfl
  case c1 => exact rfl
  case c5 => decide
  case c2 => exact rfl
  case c3 => exact rfl
  case c4 => exact rfl
  case h =>
    intro L h₁ k1 hsz hLn hns U₁ hL
    have B₀ := U.hide (H := [a]) (by simpa using hba)
    have X := B₀.K
    have T₀ := B₀.T
    have F := hide_fr (H := [a]) k1 hns (by rw [hL]; exact Nat.le_refl _)
    have N := hide_news (H := [a]) k1 hLn (ps := [(a, oa)]) (by
      intro p hp
      simp only [List.mem_cons, List.not_mem_nil, or_false] at hp
      subst hp
      exact ⟨ha, by simp⟩)
    refine C_execs_cons (C_Return (C_Call_Name (C_any ?_)))
    k_steps
    refine C_callWith (P := fun _ => True) (fun _ _ => ⟨.machine, .inr rfl, Looks.of_pure rfl⟩) (C_evalArgs_plain (C_spliced_cons (C_any ?_)))
    rw [if_neg Bool.false_ne_true]
    rcases hoa with rfl | ⟨c, i, t, rfl⟩
    all_goals
      k_steps
      refine wpAny_call (make_K F N (X.keeps F.keep) (by k_is) (by k_is) (by k_is) fun x dx h₂ F₂ N₂ l1 l2 => ?_)
      have hax := l1 _ (.head _)
      have nx := N₂ _ (.head _)
      have ndx := N₂ _ (.tail _ (.head _))
      have kp2 : Kp s.heap h₂ := fun b' o' e => by
        by_cases q : b' = a
        · subst q; rw [ha] at e; injection e with e; subst e; exact (N₂ _ (.tail _ (.tail _ (.head _)))).1
        · exact F₂.keep _ _ (hideAll_get _ e (by simpa using q))
      have fx : ∀ {y : Addr}, y ≠ a → (hideAll s.heap [a]).get? y = none → s.heap.get? y = none := fun hy e => by
        cases q : s.heap.get? _ with
        | none => rfl
        | some o => have := hideAll_get [a] q (by simpa using hy); rw [e] at this; cases this
      have sx : s.heap.get? x = none := fx (Nat.ne_of_gt (Nat.lt_trans hax l2)) nx.2.2
      have sdx : s.heap.get? dx = none := fx (Nat.ne_of_gt hax) ndx.2.2
      have bn : ∀ {y : Addr}, s.heap.get? y = none → base.get? y = none := fun e => by
        cases q : base.get? _ with
        | none => rfl
        | some o => have := U.stays _ _ q; rw [e] at this; cases this
      have fn : ∀ {y : Addr}, s.heap.get? y = none → y ∉ frs l := fun e m => by
        obtain ⟨_, o, ho, _⟩ := U.frames.mem m; rw [e] at ho; cases ho
      have bx : b ≠ x ∧ b ≠ dx := ⟨fun q => hr.there (q ▸ sx), fun q => hr.there (q ▸ sdx)⟩
      refine sm_init (dp := dp + 1 + 1) (base := base) U.bs (fun b' o e => kp2 _ _ (U.stays _ _ e)) (by omega) (by show un + 3 + 1 + 100 < _; omega) nx.1 ndx.1 ⟨bn sx, bn sdx⟩ (hr.iter.keeps kp2) bx l2 fun hc tk it hk' hx' hit' alt => ?_
      have kpc : Kp s.heap hc := fun b' o e => hk' _ _ (fun q => by rw [q, sx] at e; cases e) (kp2 _ _ e)
      have altS : (it = b ∧ Xs = [b]) ∨ (Xs = [] ∧ s.heap.get? it = none) := alt.imp id fun z => ⟨z.1, by
        cases q : s.heap.get? it with
        | none => rfl
        | some o => have := kp2 _ _ q; rw [z.2] at this; cases this⟩
      have stc : Step (frs l) Xs s.heap hc := .of_kp kpc
      have hXb : ∀ b' ∈ Xs, base.get? b' = none ∧ b' ∉ frs l := fun b' m => by
        rcases hr.xs with q | q
        · rw [q] at m; cases m
        · rw [q] at m; rw [List.mem_singleton.mp m]; exact ⟨hr.nb, hr.nl.2⟩
      have hXh : ∀ b' ∈ Xs, hc.get? b' ≠ none := fun b' m => by
        rcases hr.xs with q | q
        · rw [q] at m; cases m
        · rw [q] at m; rw [List.mem_singleton.mp m]
          intro z
          exact hr.there (Step.fresh (S := []) (X := []) (.of_kp kpc) z (by simp))
      have hXX : ∀ b' ∈ [it], b' ∈ Xs ∨ s.heap.get? b' = none := fun b' m => by
        rw [List.mem_singleton.mp m]
        rcases altS with ⟨rfl, q⟩ | ⟨_, q⟩
        · left; rw [q]; simp
        · exact .inr q
      have Fc : Fr (hideAll s.heap [a]) L hc _ := but_fr F₂ hk' nx.2.2 (Ne.symm nx.2.1)
      have Uc := fun (env : Env) (hf : env.frame = some L) (hk : env.scope.kind = .function) => U.inside (env := env) stc hXb Fc.ns hLn hf hk
      obtain ⟨ol, items, n, g1, g2, g3, g4, g5, g6⟩ := hr.seq
      have hitb : it ∉ L :: frs l := fun m => by
        rcases List.mem_cons.mp m with q | m
        · rcases alt with ⟨q', _⟩ | ⟨_, q'⟩
          · exact hr.there (by rw [← q', q]; exact hLn)
          · obtain ⟨oL, _, _, hoL, _⟩ := F₂.ns
            rw [q, show h₂.get? L = some oL from hoL] at q'; cases q'
        · rcases altS with ⟨q', _⟩ | ⟨_, q'⟩
          · exact hr.nl.2 (q' ▸ m)
          · exact fn q' m
      have hitbase : base.get? it = none := by
        rcases altS with ⟨q', _⟩ | ⟨_, q'⟩
        · rw [q']; exact hr.nb
        · exact bn q'
      have rowc : AllRow hc items.toList rs := g4.move fun v m a' o q e => kpc _ _ e
      have there : ∀ v ∈ items.toList, ∃ row, RowAt s.heap v row := fun v m => by
        obtain ⟨i', hi', rfl⟩ := List.getElem_of_mem m
        have hi2 : i' < rs.length := by rw [← g4.1]; exact hi'
        exact ⟨_, g4.2 i' _ _ (List.getElem?_eq_getElem hi') (List.getElem?_eq_getElem hi2)⟩
      refine ⟨rfl, ?_⟩
      dsimp only
      refine C_spliced_nil ⟨trivial, ?_⟩
      show wpC _ _ (call (.type "list") [.ref x]) _ _ _
      refine list_sm (mean := mean) (mg := mg) (mb := mb) (dp := dp + 1) (un := un + 3) (base := base) ?_ (by omega) (by omega) hx' (hk' _ _ (Nat.ne_of_lt l2) ndx.1) hr.hT hit' (kpc _ _ g1) g2 rowc g5 g3 ?_ ?_ ?_ ?_ ?_ ?_
      · exact Uc _ rfl rfl
      · intro b' m
        simp only [List.mem_cons, List.not_mem_nil, or_false] at m
        rcases m with rfl | rfl | rfl
        · exact bn sx
        · exact bn sdx
        · exact hitbase
      · intro b' m
        simp only [List.mem_cons, List.not_mem_nil, or_false] at m
        show b' ∉ L :: frs l
        rcases m with rfl | rfl | rfl | rfl
        · intro m; rcases List.mem_cons.mp m with q | m; exact nx.2.1 q; exact fn sx m
        · intro m; rcases List.mem_cons.mp m with q | m; exact ndx.2.1 q; exact fn sdx m
        · exact hitb
        · intro m
          rcases List.mem_cons.mp m with q | m
          · rw [q, hLn] at g1; cases g1
          · exact hr.nl.1 m
      · intro v m b' m' q
        obtain ⟨row, rv⟩ := there v m
        subst q
        obtain ⟨o, ho, _⟩ := rv.there w
        simp only [List.mem_cons, List.not_mem_nil, or_false] at m'
        rcases m' with rfl | rfl | rfl
        · rw [sx] at ho; cases ho
        · rw [sdx] at ho; cases ho
        · exact (rv.keeps kpc).ne_it w hit' hr.hT rfl
      · intro v m b' m' q
        obtain ⟨row, rv⟩ := there v m
        subst q
        obtain ⟨o, ho, _⟩ := rv.there w
        rcases List.mem_cons.mp m' with q | m'
        · rw [q, hLn] at ho; cases ho
        · exact g6 _ m _ m' rfl
      · intro h' tk' S acc c' st' sp hS hS' hz ht
        have fS : ∀ {y : Addr}, hc.get? y = none → s.heap.get? y = none := fun e => Step.fresh (S := []) (X := []) (.of_kp kpc) e (by simp)
        refine hok h' tk' S acc c' (Step.popL rfl stc hLn hXX st') (fun q => ?_) (fS hS) hS' hz fun j v hj => ?_
        · rcases altS with ⟨q', _⟩ | ⟨q', _⟩
          · rw [q'] at sp; exact sp
          · rw [q'] at q; cases q
        · obtain ⟨row, z1, z2⟩ := ht j v hj
          exact ⟨row, z1, z2.base fun _ e => fS e⟩
      · intro h' tk' e k e1 e2 F'
        refine leave_on (h := s.heap) (hc := hc) (X := Xs) (X' := [it]) (P := fun B => Xs = [b] → ItAt B b lst T (k + 1)) (P' := fun B => ItAt B it lst T (k + 1)) rfl rfl stc hXh hLn hXX (fun B z q => ?_) F' fun h'' F'' => herr h'' _ _ k e1 e2 F''
        rcases altS with ⟨q', _⟩ | ⟨q', _⟩
        · rw [q'] at z; exact z
        · rw [q'] at q; cases q
end
end Mine

/-! MT -/
namespace Mine
/-! an exception caught by a try of one's own -/
structure Cau (B h₀ hs : Heap) (l : List Env) (env : Env) (L : Addr) (m : Str → Option Value) (e : Addr) (cls : String) (a0 : Value) (h : Heap) : Prop where
  fl : Heap.FlyingW B (env :: l) e (.type cls) a0 h
  fr : Fr h₀ L h m
  up : hs.UpToSlots h
section
variable {prog : Program} {w : World} {A : Around} {E : Value → Shared → Prop} {s : Shared} {B h₀ hs : Heap} {l : List Env} {L e a : Addr} {m : Str → Option Value} {cls T : String} {a0 : Value} {name : Str} {scope : Scope} {cd : Value}
theorem cau_notes {Q : Unit → Shared → Prop} (hst : A.frames = some l) (hB : h₀.StaysIn B) (c : Cau B h₀ hs l (envOf name scope L a cd) L m e cls a0 s.heap)
    (hQ : ∀ h', Cau B h₀ hs l (envOf name scope L a cd) L m e cls a0 h' → Q () { s with heap := h' }) :
    wpAny (model prog w) (A.deeper (envOf name scope L a cd)) (noteFrame (.ref e) (envOf name scope L a cd)) (fun _ s₂ => wpAny (model prog w) (A.deeper (envOf name scope L a cd)) (setFlight (.ref e) none) Q E s₂) E s := by
  refine wpAny_looks_onW (Around.frames_deeper hst) rfl c.fl fun h₄ hheld₄ hsm₄ => ?_
  refine wpAny_landsW hheld₄ fun h₅ hfl hsm₅ => hQ h₅ ⟨hfl, ?_, (c.up.trans hsm₄).trans hsm₅⟩
  exact c.fr.of_stays (fun b o e => hfl.1 _ _ (hB _ _ e)) (hsm₄.trans hsm₅)
theorem cau_test {x : Str} {np pos : Pos} {b₀ : Stmt} {suite : List Stmt} {rest : List ExceptHandler} {b : Bool} {Q : Flow → Shared → Prop} {p : Program} {loose : List Str} {mg mb : Str → Option Value}
    (hB : h₀.StaysIn B) (c : Cau B h₀ hs l (envOf name scope L a cd) L m e cls a0 s.heap) (Tr : TopRead p loose mg mb h₀) (hv : bootBuiltins x = some (.type T))
    (hexc : isSubtype (.type T) (.type "BaseException") = pure true) (hnt : isSubtype (.type ((Manifest.find? T).elim "type" fun y => y.metatype)) (.type "tuple") = pure false) (hsub : isSubtype (.type cls) (.type T) = pure b)
    (k : if b then ∀ h', Cau B h₀ hs l (envOf name scope L a cd) L m e cls a0 h' → wpAny (model prog w) ((A.deeper (envOf name scope L a cd)).mark (some (.ref e))) (execs (b₀ :: suite) (envOf name scope L a cd)) Q (fun _ _ => False) { s with heap := h' }
      else wpAny (model prog w) (A.deeper (envOf name scope L a cd)) (handleBy (.ref e) (envOf name scope L a cd) rest) Q E s)
    (h1 : x ∉ startupNames := by decide +kernel) (h2 : x ∉ loose := by decide +kernel) (h3 : x ∉ (recsOf p).map (·.name) := by decide +kernel) (h4 : x ∉ (litsOf p).map (·.1) := by decide +kernel) (h4c : x ∉ (clssOf p loose).map (·.name) := by decide +kernel) (hn : x ≠ "__name__" := by decide +kernel)
    (hk : scope.kind = .function := by rfl) (hx : (envOf name scope L a cd).kindOf x = some .globalImplicit := by rfl) (hd : (x == ("__debug__" : Str)) = false := by decide) :
    wpAny (model prog w) (A.deeper (envOf name scope L a cd)) (handleBy (.ref e) (envOf name scope L a cd) (.ExceptHandler (some (.Name x np)) none (b₀ :: suite) pos :: rest)) Q E s := by
  obtain ⟨ob, hob, hobc⟩ := c.fl.there
  refine wpAny_handleBy_builtin (X := cls) (T := T) (b := b) hexc hnt hsub (ld_builtin_at c.fr Tr.g (Tr.free x h1 h2 h3 h4 h4c) Tr.b ((Tr.builtins x hn).trans hv) ⟨rfl, ⟨ob, hob, hobc⟩, ?_⟩ hk hx hd)
  cases b with
  | false => exact k
  | true =>
    rw [if_pos rfl] at k ⊢
    refine lands_againW c.fl fun h₆ hfl₆ hsm₆ => ?_
    exact wpAny_mono (k h₆ ⟨hfl₆, c.fr.of_stays (fun b o e => hfl₆.1 _ _ (hB _ _ e)) hsm₆, c.up.trans hsm₆⟩) (fun _ _ z => z) fun _ _ z => z.elim
end
end Mine

/-! MU -/
namespace Mine
/-! _law_told -/
theorem Step.ns {S X : List Addr} {h h' : Heap} {L : Addr} {m : Str → Option Value} (st : Step S X h h') (hn : h.Ns L m) (hX : L ∉ X) : h'.Ns L m := by
  obtain ⟨o, es, ep, ho, hd, r⟩ := hn
  obtain ⟨_, sl, q⟩ := st L o ho hX
  exact ⟨_, es, ep, q, hd, r⟩
theorem Rows.enter {w : World} {h h₁ : Heap} {l : List Env} {base : Heap} {b lst L : Addr} {T : String} {Xs : List Addr} {rs : List (Option (List PyData))} {env : Env} (r : Rows w h l base b lst T Xs rs) (k : Kp h h₁) (hL : h.get? L = none) (hf : env.frame = some L) : Rows w h₁ (env :: l) base b lst T Xs rs := by
  obtain ⟨ol, items, n, g1, g2, g3, g4, g5, g6⟩ := r.seq
  refine ⟨r.hT, r.iter.keeps k, ⟨ol, items, n, k _ _ g1, g2, g3, g4.move fun v m a' o q e => k _ _ e, g5, fun v m a' m' q => ?_⟩, r.nb, ?_, fun q => ?_, r.xs⟩
  · rw [frs_cons hf] at m'
    rcases List.mem_cons.mp m' with q' | m'
    · subst q
      obtain ⟨i', hi', q⟩ := List.getElem_of_mem m
      have hi2 : i' < rs.length := by rw [← g4.1]; exact hi'
      have := g4.2 i' _ _ (List.getElem?_eq_getElem hi') (List.getElem?_eq_getElem hi2)
      rw [q] at this
      obtain ⟨o, ho, _⟩ := this.there w
      rw [q', hL] at ho; cases ho
    · exact g6 _ m _ m' q
  · rw [frs_cons hf]
    refine ⟨fun m => ?_, fun m => ?_⟩
    · rcases List.mem_cons.mp m with q | m
      · rw [q, hL] at g1; cases g1
      · exact r.nl.1 m
    · rcases List.mem_cons.mp m with q | m
      · exact r.there (q ▸ hL)
      · exact r.nl.2 m
  · exact r.there (Step.fresh (S := []) (X := []) (.of_kp k) q (by simp))
section
variable {w : World} {mean : ExcName → Option Value} {mg mb : Str → Option Value} {dp un : Nat} {l : List Env} {gd : Option (List Code)} {s : Shared} {base : Heap} {R : Result → Shared → Prop}
theorem told {a b lst : Addr} {oa : Obj} {T : String} {Xs : List Addr} {rs : List (Option (List PyData))}
    (U : Und w mean mg mb (Ar dp un l gd) base l s.heap) (hroom : dp + 10 < recursionLimit) (hu : un + 250 < cLine)
    (ha : s.heap.get? a = some oa) (hoa : oa = tupO [.ref 73, .ref b] ∨ ∃ c i t, oa = listO #[.ref 73, .ref b, .int i t] c) (hba : base.get? a = none)
    (hr : Rows w s.heap l base b lst T Xs rs)
    (hok : ∀ h' tk S acc c, Step (frs l) Xs s.heap h' → (Xs = [b] → Spent h' b T) → s.heap.get? S = none → h'.get? S = some (listO acc c) → acc.size = rs.length → Told s.heap h' acc rs → R (.ok (.ret (.ref S))) { s with heap := h', toks := tk })
    (herr : ∀ h' tk t k, (∀ j, j < k → ∃ d ds, rs[j]? = some (some (d :: ds))) → (rs[k]? = some none ∨ rs[k]? = some (some [])) → Step (frs l) Xs s.heap h' → (Xs = [b] → ItAt h' b lst T (k + 1)) → R (.ok (.ret (.str (Str.ofString "TypeError") t))) { s with heap := h', toks := tk }) :
    codeC (model PR w) (Ar dp un l gd) (.call (.ref 97) ⟨[.ref a], []⟩) R s := by
  refine' enter_C (binds := [(Str.ofString "given", .ref a)]) U (by show dp < _; omega) ?k6 ?k7 ?k9 ?h ?c1 ?c5 ?c2 ?c3 ?c4
  case k6 => k_is
  case k7 => k_is
  case k9 => exact BindsTo.of_eq rfl
  case c1 => exact rfl
  case c5 => decide
  case c2 => exact rfl
  case c3 => exact rfl
  case c4 => exact rfl
  case h =>
    intro L h₁ k1 hsz hLn hns U₁ hL
    have hHb : ∀ b' ∈ frs l ++ Xs, base.get? b' = none := fun b' m => by
      rcases List.mem_append.mp m with m | m
      · exact (U.frames.mem m).1
      · rcases hr.xs with q | q
        · rw [q] at m; cases m
        · rw [q] at m; rw [List.mem_singleton.mp m]; exact hr.nb
    have hXh : ∀ b' ∈ Xs, s.heap.get? b' ≠ none := fun b' m => by
      rcases hr.xs with q | q
      · rw [q] at m; cases m
      · rw [q] at m; rw [List.mem_singleton.mp m]; exact hr.there
    have hLX : L ∉ Xs := fun m => hXh _ m hLn
    have B₀ := U.hide (H := frs l ++ Xs) hHb
    have X := B₀.K
    have T₀ := B₀.T
    have F := hide_fr (H := frs l ++ Xs) k1 hns (by rw [hL]; exact Nat.le_refl _)
    have N : News (hideAll s.heap (frs l ++ Xs)) L h₁ [] := News.nil
    have up1 : ∀ {y : Addr}, h₁.get? y = none → s.heap.get? y = none := fun e => Step.fresh (S := []) (X := []) (.of_kp k1) e (by simp)
    refine C_execs_cons (C_Try ?_)
    refine C_execs_cons (C_Return (C_Call_Name (C_any ?_)))
    k_steps
    refine C_callWith (P := fun h => (Mine.hd.heap_39 w.params).In h) (fun h X => looks_keep (by k_is) X) (C_evalArgs_plain (C_spliced_cons (C_any ?_)))
    rw [if_neg Bool.false_ne_true]
    k_steps
    refine C_spliced_nil ⟨X.keeps F.keep, ?_⟩
    show wpC _ _ (call (.ref 65) [.ref a]) _ _ _
    refine C_call ?_
    have hXX : ∀ b' ∈ Xs, b' ∈ Xs ∨ s.heap.get? b' = none := fun _ m => .inl m
    refine sms (mean := mean) (mg := mg) (mb := mb) (dp := dp + 1) (un := un + 3) (base := base) U₁ (by omega) (by omega) (k1 _ _ ha) hoa hba (hr.enter k1 hLn rfl) ?_ ?_
    · intro h' tk S acc c st' sp hS hS' hz ht
      refine ⟨(fun q => by cases q), hok h' tk S acc c (Step.popL rfl (.of_kp k1) hLn hXX st') sp (up1 hS) hS' hz fun j v hj => ?_⟩
      obtain ⟨row, z1, z2⟩ := ht j v hj
      exact ⟨row, z1, z2.base fun _ e => up1 e⟩
    · intro h' tk e k e1 e2 F'
      obtain ⟨st2, fe, B, a0, hB, hP, fl⟩ := F'
      have hB0 : (hideAll s.heap (frs l ++ Xs)).StaysIn B := fun b' o q => by
        have q' : s.heap.get? b' = some o := of_hideAll _ q
        have nm : b' ∉ frs l ++ Xs := fun m => by rw [hideAll_none _ m] at q; cases q
        refine hB b' o (k1 _ _ q') (fun m => ?_) (fun m => nm (List.mem_append_right _ m))
        rcases List.mem_cons.mp (show b' ∈ L :: frs l from m) with z | m
        · rw [z, hLn] at q'; cases q'
        · exact nm (List.mem_append_left _ m)
      have c0 := Cau.mk (hs := h') fl (Fr.mk (st2.ns F.ns hLX) (fun b' o q => fl.1 _ _ (hB0 _ _ q)) F.above) (Heap.UpToSlots.refl _)
      refine cau_notes rfl hB0 c0 fun h₅ c₅ => ?_
      refine cau_test (b := true) (T := "TypeError") hB0 c₅ (topRead_of T₀) PyProof.Rows.Boot.«TypeError» PySem.F.isExc_TypeError PySem.F.notTuple_TypeError (by rw [isSubtype_type]; kernel_rfl) ?_
      rw [if_pos rfl]
      intro h₆ c₆
      have F₆ := c₆.fr
      have N₆ : News (hideAll s.heap (frs l ++ Xs)) L h₆ [] := News.nil
      clear F N
      k_steps
      refine herr h₆ _ _ k e1 e2 (step_leave rfl (.of_kp k1) hLn hXX st2 hB fl.2.2.1 c₆.fl.1 c₆.up) fun q => ?_
      obtain ⟨o, z1, z2⟩ := hP q
      exact ⟨o, c₆.fl.1 _ _ z1, z2⟩
end
end Mine

/-! MV -/
namespace Mine
section
variable {w : World} {mean : ExcName → Option Value} {mg mb : Str → Option Value} {dp un : Nat} {l : List Env} {gd : Option (List Code)} {s : Shared} {base : Heap} {R : Result → Shared → Prop}
theorem sms_index {a : Addr}
    (U : Und w mean mg mb (Ar dp un l gd) base l s.heap) (hroom : dp + 8 < recursionLimit) (hu : un + 200 < cLine)
    (ha : s.heap.get? a = some (tupO [.ref 73])) (hba : base.get? a = none)
    (herr : ∀ h' tk e, Flung l [] (fun _ => True) s.heap h' e "IndexError" → R (.error (.ref e)) { s with heap := h', toks := tk }) :
    codeC (model PR w) (Ar dp un l gd) (.call (.ref 65) ⟨[.ref a], []⟩) R s := by
  refine' enter_C (binds := [(Str.ofString "args", .ref a)]) U (by show dp < _; omega) ?k6 ?k7 ?k9 ?h ?c1 ?c5 ?c2 ?c3 ?c4
  case k6 => k_is
  case k7 => k_is
  case k9 => exact BindsTo.of_eq rfl
  case c1 => exact rfl
  case c5 => decide
  case c2 => exact rfl
  case c3 => exact rfl
  case c4 => exact rfl
  case h =>
    intro L h₁ k1 hsz hLn hns U₁ hL
    have B₀ := U.hide (H := [a]) (by simpa using hba)
    have X := B₀.K
    have T₀ := B₀.T
    have F := hide_fr (H := [a]) k1 hns (by rw [hL]; exact Nat.le_refl _)
    have N := hide_news (H := [a]) k1 hLn (ps := [(a, tupO [.ref 73])]) (by
      intro p hp
      simp only [List.mem_cons, List.not_mem_nil, or_false] at hp
      subst hp
      exact ⟨ha, by simp⟩)
    refine C_execs_cons (C_Return (C_Call_Name (C_any ?_)))
    k_steps
    refine C_callWith (P := fun _ => True) (fun _ _ => ⟨.machine, .inr rfl, Looks.of_pure rfl⟩) (C_evalArgs_plain (C_spliced_cons (C_any ?_)))
    rw [if_neg Bool.false_ne_true]
    k_steps
    have hah := (N _ (.head _)).1
    refine tail_any (T := "tuple") ⟨_, hah, rfl⟩ PySem.F.slot_tuple_getitem.lookup (getItem_meets ⟨_, hah, rfl⟩ (by decide) PySem.F.slot_tuple_getitem PySem.F.entry_tuple_getitem (PySem.F.args_tuple_getitem_2 _ _)
      (PySem.MeetsSeq.tuple_getitem_out a #[.ref 73] 0 1 _ (by decide) (by decide) (by decide)) ⟨hah, ?_⟩) (by with_unfolding_all rfl)
    refine ⟨rfl, fun h₂ tk₂ e₂ ne₂ => ?_⟩
    have st₂ : Step (frs l) [] s.heap h₁ := .of_kp k1
    refine leave_new (h := s.heap) (hc := h₁) (base := base) (X := []) (P := fun _ => True) rfl rfl st₂ (fun _ m => nomatch m) hLn ?_ ne₂ (fun _ _ => trivial) fun h'' fl => herr h'' _ _ fl
    exact U₁.frames
theorem told_index {a : Addr}
    (U : Und w mean mg mb (Ar dp un l gd) base l s.heap) (hroom : dp + 10 < recursionLimit) (hu : un + 250 < cLine)
    (ha : s.heap.get? a = some (tupO [.ref 73])) (hba : base.get? a = none)
    (hok : ∀ h' tk t, Step (frs l) [] s.heap h' → R (.ok (.ret (.str (Str.ofString "IndexError") t))) { s with heap := h', toks := tk }) :
    codeC (model PR w) (Ar dp un l gd) (.call (.ref 97) ⟨[.ref a], []⟩) R s := by
  refine' enter_C (binds := [(Str.ofString "given", .ref a)]) U (by show dp < _; omega) ?k6 ?k7 ?k9 ?h ?c1 ?c5 ?c2 ?c3 ?c4
  case k6 => k_is
  case k7 => k_is
  case k9 => exact BindsTo.of_eq rfl
  case c1 => exact rfl
  case c5 => decide
  case c2 => exact rfl
  case c3 => exact rfl
  case c4 => exact rfl
  case h =>
    intro L h₁ k1 hsz hLn hns U₁ hL
    have hHb : ∀ b' ∈ frs l, base.get? b' = none := fun b' m => (U.frames.mem m).1
    have B₀ := U.hide (H := frs l) hHb
    have X := B₀.K
    have T₀ := B₀.T
    have F := hide_fr (H := frs l) k1 hns (by rw [hL]; exact Nat.le_refl _)
    have N : News (hideAll s.heap (frs l)) L h₁ [] := News.nil
    refine C_execs_cons (C_Try ?_)
    refine C_execs_cons (C_Return (C_Call_Name (C_any ?_)))
    k_steps
    refine C_callWith (P := fun h => (Mine.hd.heap_39 w.params).In h) (fun h X => looks_keep (by k_is) X) (C_evalArgs_plain (C_spliced_cons (C_any ?_)))
    rw [if_neg Bool.false_ne_true]
    k_steps
    refine C_spliced_nil ⟨X.keeps F.keep, ?_⟩
    show wpC _ _ (call (.ref 65) [.ref a]) _ _ _
    refine C_call ?_
    refine sms_index (mean := mean) (mg := mg) (mb := mb) (dp := dp + 1) (un := un + 3) (base := base) U₁ (by omega) (by omega) (k1 _ _ ha) hba fun h' tk e F' => ?_
    obtain ⟨st2, fe, B, a0, hB, hP, fl⟩ := F'
    have hB0 : (hideAll s.heap (frs l)).StaysIn B := fun b' o q => by
      have q' : s.heap.get? b' = some o := of_hideAll _ q
      have nm : b' ∉ frs l := fun m => by rw [hideAll_none _ m] at q; cases q
      refine hB b' o (k1 _ _ q') (fun m => ?_) (fun m => nomatch m)
      rcases List.mem_cons.mp (show b' ∈ L :: frs l from m) with z | m
      · rw [z, hLn] at q'; cases q'
      · exact nm m
    have c0 := Cau.mk (hs := h') fl (Fr.mk (st2.ns F.ns (by simp)) (fun b' o q => fl.1 _ _ (hB0 _ _ q)) F.above) (Heap.UpToSlots.refl _)
    refine cau_notes rfl hB0 c0 fun h₅ c₅ => ?_
    refine cau_test (b := false) (T := "TypeError") hB0 c₅ (topRead_of T₀) PyProof.Rows.Boot.«TypeError» PySem.F.isExc_TypeError PySem.F.notTuple_TypeError (by rw [isSubtype_type]; kernel_rfl) ?_
    rw [if_neg Bool.false_ne_true]
    refine cau_test (b := true) (T := "IndexError") hB0 c₅ (topRead_of T₀) PyProof.Rows.Boot.«IndexError» PySem.F.isExc_IndexError PySem.F.notTuple_IndexError (by rw [isSubtype_type]; kernel_rfl) ?_
    rw [if_pos rfl]
    intro h₆ c₆
    have F₆ := c₆.fr
    have N₆ : News (hideAll s.heap (frs l)) L h₆ [] := News.nil
    clear F N
    k_steps
    exact hok h₆ _ _ (step_leave (X' := []) rfl (.of_kp k1) hLn (fun _ m => nomatch m) st2 hB fl.2.2.1 c₆.fl.1 c₆.up)
end
end Mine

/-! MW -/
namespace Mine
/-! facts of map -/
theorem slot_map_init : Slot "map" "__init__" "object.__init__" :=
  .of (owner := "object") (n := "__init__") (by rw [typeLookup_type, builtinLookup_eq_fast]; kernel_rfl) (by decide +kernel) (by decide +kernel) (by decide +kernel)
    (by first | exact .inl (by decide +kernel) | exact .inr (by decide +kernel)) (by rw [isSubtype_type]; kernel_rfl)
theorem slot_map_iter : Slot "map" "__iter__" "map.__iter__" :=
  .of (owner := "map") (n := "__iter__") (by rw [typeLookup_type, builtinLookup_eq_fast]; kernel_rfl) (by decide +kernel) (by decide +kernel) (by decide +kernel)
    (by first | exact .inl (by decide +kernel) | exact .inr (by decide +kernel)) (by rw [isSubtype_type]; kernel_rfl)
theorem slot_map_next : Slot "map" "__next__" "map.__next__" :=
  .of (owner := "map") (n := "__next__") (by rw [typeLookup_type, builtinLookup_eq_fast]; kernel_rfl) (by decide +kernel) (by decide +kernel) (by decide +kernel)
    (by first | exact .inl (by decide +kernel) | exact .inr (by decide +kernel)) (by rw [isSubtype_type]; kernel_rfl)
theorem entry_map_next : entryFor table "map.__next__" = some Builtin.«map.__next__» := entryFor_of_tree (by kernel_rfl)
theorem entry_map_new : entryFor table "map.__new__" = some Builtin.«map.__new__» := entryFor_of_tree (by kernel_rfl)
theorem entry_map_iter : entryFor table "map.__iter__" = some Builtin.«dict_keyiterator.__iter__» :=
  entryFor_alias (id' := "dict_keyiterator.__iter__") (by kernel_rfl) (by first | rfl | decide +kernel | (unfold String.splitOn; simp +decide [String.splitOnAux])) (by decide +kernel) (by kernel_rfl)
theorem owner_map : Manifest.owners.lookup (String.ofList ['p', 'a', 'm'].reverse) = some Manifest.sig_map := by kernel_rfl
theorem args_map_next_1 (a : Value) : argsOk "map.__next__" ⟨[a], []⟩ := by
  unfold argsOk; rw [signature?_of (id := "map.__next__") (n := ['_', '_', 't', 'x', 'e', 'n', '_', '_']) (o := ['p', 'a', 'm']) (by kernel_rfl) owner_map]; kernel_rfl
theorem args_map_iter_1 (a : Value) : argsOk "map.__iter__" ⟨[a], []⟩ := by
  unfold argsOk; rw [signature?_of (id := "map.__iter__") (n := ['_', '_', 'r', 'e', 't', 'i', '_', '_']) (o := ['p', 'a', 'm']) (by kernel_rfl) owner_map]; kernel_rfl
theorem mro_map : mroOf (.type "map") = pure [.type "map", .type "object"] := by rw [mroOf_type]; kernel_rfl
theorem lookup_map_new : typeLookup (.type "map") "__new__" = pure (some (.builtin "map.__new__")) := by rw [typeLookup_type, builtinLookup_eq_fast]; kernel_rfl
theorem called_map : TypeCalled "map" "map.__new__" "object.__init__" :=
  ⟨by decide +kernel, by decide +kernel, ⟨_, _, mro_map⟩, madeBy_type mro_map lookup_map_new (by decide +kernel), by decide +kernel, by rw [isSubtype_type]; kernel_rfl, slot_map_init⟩
theorem typeCall_map_2 (a b : Value) : checkTypeCall "map" ⟨[a, b], []⟩ = pure () := by kernel_rfl
theorem newCall_map_2 (a b : Value) : checkBuiltinCall "map.__new__" ⟨[.type "map", a, b], []⟩ = pure () := by kernel_rfl
theorem sub_map : isSubtype (.type "map") (.type "map") = pure true := by rw [isSubtype_type]; kernel_rfl
theorem map_no_len : typeLookup (.type "map") "__len__" = pure none := by rw [typeLookup_type, builtinLookup_eq_fast]; kernel_rfl
theorem map_no_hint : typeLookup (.type "map") "__length_hint__" = pure none := by rw [typeLookup_type, builtinLookup_eq_fast]; kernel_rfl
end Mine

/-! MX -/
namespace Mine
abbrev mapO (t f : Addr) : Obj := { cls := .type "map", dict := none, data := .fields #[.ref t, .ref f], slots := #[] }
theorem meets_map_new (f b : Addr) :
    Meets (Builtin.«map.__new__» ⟨[.type "map", .ref f, .ref b], []⟩)
      (fun A R s => (∃ items, s.heap.IsList b items) ∧ ∀ h' m t it, Kp s.heap h' → s.heap.get? m = none → s.heap.get? t = none → s.heap.get? it = none → h'.get? m = some (mapO t f) → h'.get? t = some (tupO [.ref it]) → ItAt h' it b "list_iterator" 0 →
        R (.ok (.ret (.ref m))) { s with heap := h' }) :=
  .of_wp fun prog w A R s h => by
    obtain ⟨⟨items, hl⟩, h⟩ := h
    have hsub := sub_map
    show wpAny _ _ (Builtin.SmallTypes.newClass "map" ⟨[.type "map", .ref f, .ref b], []⟩ >>= _) _ _ _
    refine wpAny_bind ?_
    unfold Builtin.SmallTypes.newClass
    dsimp only
    refine wpAny_bind (m := isType _) (wpAny_pure ?_)
    rw [if_neg (by decide)]
    refine wpAny_bind (wpAny_of_eq hsub ?_)
    rw [if_neg (by decide)]
    refine wpAny_pure ?_
    dsimp only
    refine wpAny_bind (m := Builtin.SmallTypes.refuseKeywords _ _ _) (wpAny_pure ?_)
    rw [if_neg (by simp)]
    refine wpAny_bind (wpAny_bind ?_)
    simp only [List.drop, List.forIn_cons, List.forIn_nil]
    refine wpAny_bind ?_
    refine wpAny_bind (wpAny_holding (wpAny_pyIter_list hl ?_))
    refine wpAny_pure ?_
    dsimp only
    refine wpAny_pure (wpAny_pure ?_)
    have it0 := Heap.get?_push_size s.heap (o := { cls := .type "list_iterator", data := .fields #[.ref b, .int 0 0] }) rfl
    refine wpAny_bind (wpAny_newTuple (hsz := by rw [sizeLine_eq]; simp) ?_)
    refine wpAny_bind ?_
    unfold Builtin.SmallTypes.newRecord
    dsimp only
    refine wpAny_newObj_type ?_
    refine wpAny_pure ⟨_, rfl, ?_⟩
    have k1 : Kp s.heap (s.heap.push { cls := .type "list_iterator", data := .fields #[.ref b, .int 0 0] }) := fun a o e => Heap.get?_push_of_some _ e
    have fr : ∀ {h' : Heap} {a : Addr}, Kp s.heap h' → h'.get? a = none → s.heap.get? a = none := fun k e => Step.fresh (S := []) (X := []) (.of_kp k) e (by simp)
    refine h _ _ _ s.heap.objs.size (fun a o e => Heap.get?_push_of_some _ (Heap.get?_push_of_some _ (k1 a o e))) ?_ ?_ (Heap.get?_none_of_le (Nat.le_refl _)) (Heap.get?_push_size _ rfl) (Heap.get?_push_of_some _ (Heap.get?_push_size _ rfl)) ⟨_, Heap.get?_push_of_some _ (Heap.get?_push_of_some _ it0), rfl, rfl⟩
    · exact Heap.get?_none_of_le (by simp; omega)
    · exact Heap.get?_none_of_le (by simp)
section
variable {w : World} {A : Around} {E : Value → Shared → Prop} {s : Shared}
theorem call_map {f b : Addr} {items : Array Value} {Q : Value → Shared → Prop} (hl : s.heap.IsList b items)
    (h : ∀ h' m t it, Kp s.heap h' → s.heap.get? m = none → s.heap.get? t = none → s.heap.get? it = none → h'.get? m = some (mapO t f) → h'.get? t = some (tupO [.ref it]) → ItAt h' it b "list_iterator" 0 → Q (.ref m) { s with heap := h' }) :
    wpAny (model PR w) A (call (.type "map") [.ref f, .ref b]) Q E s := by
  refine callType_new called_map (by decide) (typeCall_map_2 _ _) (newCall_map_2 _ _) (fun obj => F.args_object_init_3 obj _ _) entry_map_new (meets_map_new f b) ⟨⟨_, hl⟩, fun h' m t it k h1 h2 h3 h4 h5 h6 => ⟨⟨_, h4, rfl⟩, h h' m t it k h1 h2 h3 h4 h5 h6⟩⟩
end
end Mine

/-! MZ0 -/
namespace Mine
theorem fq_lk : typeLookup (.type "function") "__qualname__" = pure (some (.builtin "function.__qualname__")) := by rw [typeLookup_type, builtinLookup_eq_fast]; kernel_rfl
theorem fm_lk : typeLookup (.type "function") "__module__" = pure (some (.builtin "function.__module__")) := by rw [typeLookup_type, builtinLookup_eq_fast]; kernel_rfl
theorem fq_ty : typeOf (.builtin "function.__qualname__") = pure (.type "getset_descriptor") := by show builtinType _ = _; rw [builtinType_eq_fast]; kernel_rfl
theorem slot_fga : Slot "function" "__getattribute__" "object.__getattribute__" :=
  .of (owner := "object") (n := "__getattribute__") (by rw [typeLookup_type, builtinLookup_eq_fast]; kernel_rfl) (by decide +kernel) (by decide +kernel) (by decide +kernel)
    (by first | exact .inl (by decide +kernel) | exact .inr (by decide +kernel)) (by rw [isSubtype_type]; kernel_rfl)
theorem fm_ty : typeOf (.builtin "function.__module__") = pure (.type "member_descriptor") := by show builtinType _ = _; rw [builtinType_eq_fast]; kernel_rfl
theorem entry_fq : entryFor table "function.__qualname__" = some Builtin.«function.__qualname__» := entryFor_of_tree (by kernel_rfl)
theorem entry_fm : entryFor table "function.__module__" = some Builtin.«function.__module__» := entryFor_of_tree (by kernel_rfl)
theorem entry_oga : entryFor table "object.__getattribute__" = some Builtin.«object.__getattribute__» := entryFor_of_tree (by kernel_rfl)
theorem fq_own : ".".intercalate (("function.__qualname__".cutAt '.').dropLast) = "function" := by with_unfolding_all decide
theorem fq_sub : isSubtype (.type "function") (.type (".".intercalate ("function.__qualname__".cutAt '.').dropLast)) = pure true := by
  rw [fq_own, isSubtype_type]; kernel_rfl
section
variable {prog : Program} {w : World} {A : Around} {E : Value → Shared → Prop} {h : Heap} {g : Array GenState} {d : Drawn} {t : Nat} {os : OsState} {a : Addr} {o : Obj} {fd : FuncData}
theorem fq_get {R : Result → Shared → Prop} (hx : h.get? a = some o) (hc : o.cls = .type "function") (hd : o.data = .func fd) (hz : fd.qualname.length ≤ sizeLine) (hq : R (.ok (.ret (.str fd.qualname t))) ⟨h, g, d, t + 1, os⟩) :
    codeAny (model prog w) A (.call (.builtin "getset_descriptor.__get__") ⟨[.builtin "function.__qualname__", .ref a, .type "function"], []⟩) R ⟨h, g, d, t, os⟩ := by
  have hT : (⟨h, g, d, t, os⟩ : Shared).TypeIs (.ref a) "function" := ⟨_, hx, hc⟩
  have hT5 : (⟨h, g, d, t, os⟩ : Shared).TypeIs (.builtin "function.__qualname__") "getset_descriptor" := fq_ty
  have f8 := fq_sub
  refine codeAny_call_builtin F.slot_gs_get.plain F.entry_gs_get (F.slot_gs_get.check _ _ _ _ _ _ _ _ hT5 (F.args_gs_get _ _ _) ?_)
  repeat (any_goals (first | assumption | wp_step))
  refine ⟨Code.quiet_builtin _ (by decide +kernel), codeAny_builtin entry_fq ?_⟩
  unfold Builtin.«function.__qualname__»
  repeat (any_goals (first | assumption | wp_step))
  rw [hd]
  refine wpAny_pure ?_
  unfold retStr
  exact wpAny_bind (wpAny_mkStr (wpAny_pure hq) hz)
theorem fm_own : ".".intercalate (("function.__module__".cutAt '.').dropLast) = "function" := by with_unfolding_all decide
theorem fm_sub : isSubtype (.type "function") (.type (".".intercalate ("function.__module__".cutAt '.').dropLast)) = pure true := by
  rw [fm_own, isSubtype_type]; kernel_rfl
theorem fm_get {R : Result → Shared → Prop} (hx : h.get? a = some o) (hc : o.cls = .type "function") (hd : o.data = .func fd) (hq : R (.ok (.ret fd.pyModule)) ⟨h, g, d, t, os⟩) :
    codeAny (model prog w) A (.call (.builtin "member_descriptor.__get__") ⟨[.builtin "function.__module__", .ref a, .type "function"], []⟩) R ⟨h, g, d, t, os⟩ := by
  have hT : (⟨h, g, d, t, os⟩ : Shared).TypeIs (.ref a) "function" := ⟨_, hx, hc⟩
  have hT5 : (⟨h, g, d, t, os⟩ : Shared).TypeIs (.builtin "function.__module__") "member_descriptor" := fm_ty
  have f8 := fm_sub
  refine codeAny_call_builtin KF.slot_mem.plain KF.entry_mem (KF.slot_mem.check _ _ _ _ _ _ _ _ hT5 (KF.args_mem _ _ _) ?_)
  repeat (any_goals (first | assumption | wp_step))
  refine ⟨Code.quiet_builtin _ (by decide +kernel), codeAny_builtin entry_fm ?_⟩
  repeat (any_goals (first | assumption | wp_step))
  rw [hd]
  refine wpAny_pure (wpAny_pure ?_)
  exact hq
theorem fq_entry {tk : Tok} {Q : Fin → Shared → Prop} (hx : h.get? a = some o) (hc : o.cls = .type "function") (hd : o.data = .func fd) (hz : fd.qualname.length ≤ sizeLine) (hq : Q (.done (.ret (.str fd.qualname t))) ⟨h, g, d, t + 1, os⟩) :
    wpAny (model prog w) A (Builtin.«object.__getattribute__» ⟨[.ref a, .str "__qualname__" tk], []⟩) Q E ⟨h, g, d, t, os⟩ := by
  have hT : (⟨h, g, d, t, os⟩ : Shared).TypeIs (.ref a) "function" := ⟨_, hx, hc⟩
  have hT5 : (⟨h, g, d, t, os⟩ : Shared).TypeIs (.builtin "function.__qualname__") "getset_descriptor" := fq_ty
  have f4 := fq_lk
  have f5 := fq_ty
  have f6 := F.slot_gs_get.lookup
  have f7 := F.slot_gs_set.lookup
  repeat (any_goals (first | assumption | wp_step))
  refine fq_get hx hc hd hz ?_
  repeat (any_goals (first | assumption | wp_step))
theorem fm_entry {tk : Tok} {Q : Fin → Shared → Prop} (hx : h.get? a = some o) (hc : o.cls = .type "function") (hd : o.data = .func fd) (hq : Q (.done (.ret fd.pyModule)) ⟨h, g, d, t, os⟩) :
    wpAny (model prog w) A (Builtin.«object.__getattribute__» ⟨[.ref a, .str "__module__" tk], []⟩) Q E ⟨h, g, d, t, os⟩ := by
  have hT : (⟨h, g, d, t, os⟩ : Shared).TypeIs (.ref a) "function" := ⟨_, hx, hc⟩
  have hT5 : (⟨h, g, d, t, os⟩ : Shared).TypeIs (.builtin "function.__module__") "member_descriptor" := fm_ty
  have f4 := fm_lk
  have f5 := fm_ty
  have f6 := KF.slot_mem.lookup
  have f7 := KF.slot_mset.lookup
  repeat (any_goals (first | assumption | wp_step))
  refine fm_get hx hc hd ?_
  repeat (any_goals (first | assumption | wp_step))
theorem fq_attr {Q : Option Value → Shared → Prop} (hx : h.get? a = some o) (hc : o.cls = .type "function") (hd : o.data = .func fd) (hz : fd.qualname.length ≤ sizeLine) (hq : Q (some (.str fd.qualname (t + 1))) ⟨h, g, d, t + 1 + 1, os⟩) :
    wpAny (model prog w) A (getAttr? (.ref a) "__qualname__") Q E ⟨h, g, d, t, os⟩ := by
  have hby : ∀ {tk : Tok} {Q : Value → Shared → Prop} {E : Value → Shared → Prop} {t : Nat}, Q (.str fd.qualname t) ⟨h, g, d, t + 1, os⟩ → wpAny (model prog w) A (getAttrBy (.ref a) (.str "__qualname__" tk) false) Q E ⟨h, g, d, t, os⟩ := by
    intro tk Q E t hq
    have hT : (⟨h, g, d, t, os⟩ : Shared).TypeIs (.ref a) "function" := ⟨_, hx, hc⟩
    have f2 := slot_fga.lookup
    have f3 := slot_fga.bind (.ref a)
    repeat (any_goals (first | assumption | wp_step))
    refine codeAny_call_builtin slot_fga.plain entry_oga (slot_fga.check _ _ _ _ _ _ _ _ hT (F.args_object_getattribute_2 _ _) (fq_entry hx hc hd hz ?_))
    repeat (any_goals (first | assumption | wp_step))
  unfold getAttr? getAttrBy?
  repeat (any_goals (first | assumption | with_reducible apply hby | wp_step))
theorem fm_attr {Q : Option Value → Shared → Prop} (hx : h.get? a = some o) (hc : o.cls = .type "function") (hd : o.data = .func fd) {mn : Str} {mt : Tok} (hm : fd.pyModule = .str mn mt) (hq : Q (some (.str mn mt)) ⟨h, g, d, t + 1, os⟩) :
    wpAny (model prog w) A (getAttr? (.ref a) "__module__") Q E ⟨h, g, d, t, os⟩ := by
  have hby : ∀ {tk : Tok} {Q : Value → Shared → Prop} {E : Value → Shared → Prop} {t : Nat}, Q (.str mn mt) ⟨h, g, d, t, os⟩ → wpAny (model prog w) A (getAttrBy (.ref a) (.str "__module__" tk) false) Q E ⟨h, g, d, t, os⟩ := by
    intro tk Q E t hq
    have hT : (⟨h, g, d, t, os⟩ : Shared).TypeIs (.ref a) "function" := ⟨_, hx, hc⟩
    have f2 := slot_fga.lookup
    have f3 := slot_fga.bind (.ref a)
    repeat (any_goals (first | assumption | wp_step))
    refine codeAny_call_builtin slot_fga.plain entry_oga (slot_fga.check _ _ _ _ _ _ _ _ hT (F.args_object_getattribute_2 _ _) (fm_entry hx hc hd ?_))
    repeat (any_goals (first | assumption | wp_step))
    rw [hm]
    exact wpAny_pure hq
  unfold getAttr? getAttrBy?
  repeat (any_goals (first | assumption | with_reducible apply hby | wp_step))
theorem fstr {Q : String → Shared → Prop} {mn : Str} {mt : Tok} (hx : h.get? a = some o) (hc : o.cls = .type "function") (hd : o.data = .func fd) (hz : fd.qualname.length ≤ sizeLine) (hm : fd.pyModule = .str mn mt)
    (hs1 : fd.qualname.cps.any Str.isSurrogate = false) (hs2 : mn.cps.any Str.isSurrogate = false) (hne : (mn != Str.ofString "builtins") = true)
    (hq : ∀ tk, Q (toString mn.toString ++ toString "." ++ toString fd.qualname.toString ++ toString "()") ⟨h, g, d, tk, os⟩) : wpAny (model prog w) A (functionStr (.ref a)) Q E ⟨h, g, d, t, os⟩ := by
  unfold functionStr
  refine wpAny_bind (fq_attr hx hc hd hz ?_)
  dsimp only
  refine wpAny_bind (fm_attr hx hc hd hm ?_)
  dsimp only
  have ps : ∀ (x : Str) (u : Tok), pyStr (.str x u) = pure x := fun _ _ => rfl
  refine wpAny_bind (wpAny_mkText ?_)
  refine wpAny_bind ?_
  show wpAny _ _ (compareOp .NotEq (.str mn mt) (.str (Str.ofString "builtins") _)) _ _ _
  refine ne_str ?_
  rw [hne]
  refine wpAny_bind (m := truthy (.bool true)) (wpAny_pure ?_)
  rw [if_pos rfl]
  rw [ps, ps]
  refine wpAny_bind (wpAny_bind (wpAny_pure ?_))
  rw [if_neg (by rw [hs2]; decide)]
  refine wpAny_pure (wpAny_bind (wpAny_bind (wpAny_pure ?_)))
  rw [if_neg (by rw [hs1]; decide)]
  exact wpAny_pure (wpAny_pure (hq _))
end
end Mine

/-! MY -/
namespace Mine
section
variable {w : World} {A : Around} {E : Value → Shared → Prop} {s : Shared}
theorem fstr_K {K : Frag} {f : Addr} {oc : Value} {od : Option Addr} {osl : Array (Option Value)} {name qual : Str} {params : Arguments} {body : List Stmt} {scope : Scope} {dV kV doc pm cdv ct : Value} {an : Option Addr} {mn : Str} {mt : Tok} {Q : String → Shared → Prop}
    (X : K.In s.heap) (ho : K.lookup f = some ⟨oc, od, .func (fnOf name qual params body scope dV kV doc pm an cdv ct), osl⟩) (hc : oc = .type "function") (hm : pm = .str mn mt) (hz : qual.length ≤ sizeLine)
    (hs1 : qual.cps.any Str.isSurrogate = false) (hs2 : mn.cps.any Str.isSurrogate = false) (hne : (mn != Str.ofString "builtins") = true)
    (hq : ∀ tk, Q (toString mn.toString ++ toString "." ++ toString qual.toString ++ toString "()") { s with toks := tk }) : wpAny (model PR w) A (functionStr (.ref f)) Q E s :=
  fstr (X _ _ ho) hc rfl hz hm hs1 hs2 hne hq
theorem lone_int {f : Value} {x : Sem Value} {pos : Pos} {Q : Args → Shared → Prop} {i : Int} {t : Tok} (hh : A.handled = none)
    (h : wpAny (model PR w) A x (fun v s₁ => v = .int i t ∧ (Mine.hd.heap_39 w.params).In s₁.heap ∧ ∀ h' tk e, Heap.NewExc s₁.heap h' e "TypeError" → E (.ref e) { s₁ with heap := h', toks := tk }) E s) (hf : f = .ref 73) :
    wpAny (model PR w) A (evalArgs f true [(true, (do let v ← x; standAt pos; pure v))] []) Q E s := by
  subst hf
  unfold evalArgs
  first
    | refine wpAny_bind (wpAny_bind (wpAny_mono h (fun v s₁ h₁ => wpAny_bind (wpAny_standAt (wpAny_pure ?_))) fun _ _ x => x))
    | refine wpAny_bind (wpAny_bind (wpAny_bind (wpAny_mono h (fun v s₁ h₁ => wpAny_bind (wpAny_standAt (wpAny_pure (wpAny_pure ?_)))) fun _ _ x => x)))
  obtain ⟨rfl, hK, h₁⟩ := h₁
  refine wpAny_bind (wpAny_pure ?_)
  dsimp only
  refine wpAny_holding ?_
  rw [if_pos (show (([] : List (Option Str × Sem Value)).all fun x => x.1.isSome) = true from rfl)]
  refine wpAny_bind (m := evalAll _) (wpAny_pure ?_)
  refine wpAny_bind (wpAny_bind (wpAny_mono star_int (fun b s₂ h₂ => ?_) fun _ _ x => x))
  obtain ⟨rfl, rfl⟩ := h₂
  rw [if_pos rfl]
  refine wpAny_bind (wpAny_rule ?_)
  refine wpAny_bind ?_
  refine' fstr_K hK ?k1 ?k2 ?k3 ?k4 ?k5 ?k6 ?k7 ?k8
  case k1 => k_is
  case k2 => exact rfl
  case k3 => exact rfl
  case k4 => decide +kernel
  case k5 => decide +kernel
  case k6 => decide +kernel
  case k7 => decide +kernel
  case k8 =>
    intro tk
    refine wpAny_bind (m := PySem.typeNameOf (.int i t)) (wpAny_of_eq (a := "int") (by first | rfl | kernel_rfl) ?_)
    refine wpAny_bind (wpAny_raiseErrorMade plainExc_TypeError hh (fun h' tk' e ne => h₁ h' tk' e ne) (by decide +kernel))
end
end Mine

/-! MZ -/
namespace Mine
section
variable {w : World} {A : Around} {E : Value → Shared → Prop} {s : Shared}
theorem row_star {v : Value} {ds : List PyData} {Q : List Value → Shared → Prop} (hh : A.handled = none) (r : RowAt s.heap v (some ds))
    (hQ : ∀ h' tk vs, Kp s.heap h' → AllAtm vs ds → Q vs { s with heap := h', toks := tk }) : StarOf (model PR w) A E v Q s := by
  unfold StarOf notIterableAtAll
  have c : wpAny (model PR w) A (collect v) Q E s := collect_row hh r hQ
  cases r with
  | list a b _ d e => exact wpAny_bind (wpAny_specialOf (show s.TypeIs (.ref _) "list" from ⟨_, a, b⟩) slot_list_iter.lookup (wpAny_pure ⟨rfl, c⟩))
  | tup a b _ d e => exact wpAny_bind (wpAny_specialOf (show s.TypeIs (.ref _) "tuple" from ⟨_, a, b⟩) F.slot_tuple_iter.lookup (wpAny_pure ⟨rfl, c⟩))
  | rng a b => exact wpAny_bind (wpAny_specialOf (show s.TypeIs (.ref _) "range" from ⟨_, a, rfl⟩) F.slot_range_iter.lookup (wpAny_pure ⟨rfl, c⟩))
  | str a => exact wpAny_bind (wpAny_specialOf (show s.TypeIs (.str _ _) "str" from rfl) F.slot_str_iter.lookup (wpAny_pure ⟨rfl, c⟩))
  | dict a b _ => exact wpAny_bind (wpAny_specialOf ((a PR w).dictOf.typeIs) F.slot_dict_iter.lookup (wpAny_pure ⟨rfl, c⟩))
theorem C_callWith_Si {env : Env} {e : Expr} {pos p : Pos} {Q : Value → Shared → Prop} {i : Int} {t : Tok} (hh : A.handled = none) (hk : keepIn (Mine.hd.heap_39 w.params) (.ref 73) = true)
    (h : wpAny (model PR w) A (eval e env) (fun v s₁ => v = .int i t ∧ (Mine.hd.heap_39 w.params).In s₁.heap ∧ ∀ h' tk e, Heap.NewExc s₁.heap h' e "TypeError" → E (.ref e) { s₁ with heap := h', toks := tk }) E s)
    (he : starEach [.Starred e p] env = [(true, eval e env)] := by rfl) :
    wpC (model PR w) A (callWith pos (.ref 73) [] (backTo pos (starEach [.Starred e p] env)) []) Q E s := by
  rw [he]
  exact C_callWith_star rfl (keeps_K hk) (C_any (lone_int hh h rfl))
end
section
variable {w : World} {mean : ExcName → Option Value} {mg mb : Str → Option Value} {dp un : Nat} {l : List Env} {gd : Option (List Code)} {s : Shared} {base : Heap} {R : Result → Shared → Prop}
theorem whole {v : Value} {row : Option (List PyData)}
    (U : Und w mean mg mb (Ar dp un l gd) base l s.heap) (hroom : dp + 3 < recursionLimit) (hu : un + 100 < cLine) (hrow : RowAt s.heap v row)
    (hok : ∀ h' tk r t vs d ds, row = some (d :: ds) → Kp s.heap h' → h'.get? r = some (tupO (threeVs vs t)) → h'.get? t = some (tupO (vs.drop 2)) → AllAtm vs (d :: ds) → s.heap.get? r = none → s.heap.get? t = none →
      R (.ok (.ret (.ref r))) { s with heap := h', toks := tk })
    (herr : ∀ h' tk e, (row = none ∨ row = some []) → Flung l [] (fun _ => True) s.heap h' e "TypeError" → R (.error (.ref e)) { s with heap := h', toks := tk }) :
    codeC (model PR w) (Ar dp un l gd) (.call (.ref 80) ⟨[v], []⟩) R s := by
  refine' enter_C (binds := [(Str.ofString "row", v)]) U (by show dp < _; omega) ?k6 ?k7 ?k9 ?h ?c1 ?c5 ?c2 ?c3 ?c4
  case k6 => k_is
  case k7 => k_is
  case k9 => exact BindsTo.of_eq rfl
  case c1 => exact rfl
  case c5 => decide
  case c2 => exact rfl
  case c3 => exact rfl
  case c4 => exact rfl
  case h =>
    intro L h₁ k1 hsz hLn hns U₁ hL
    have B₀ := U.in
    have X := B₀.K
    have T₀ := B₀.T
    have F : Fr s.heap L h₁ _ := ⟨hns, k1, by rw [hL]; exact Nat.le_refl _⟩
    have N : News s.heap L h₁ [] := News.nil
    have hrow₁ := hrow.keeps k1
    have fl : ∀ {h' : Heap} {tk : Nat} {e : Addr} {hc : Heap} {env : Env} {Q : Unit → Shared → Prop} {E : Value → Shared → Prop}, (row = none ∨ row = some []) → env.frame = some L → env.scope.kind = .function → Kp s.heap hc → Fr s.heap L hc (fun y => List.lookup y [(Str.ofString "row", v)].reverse) → Heap.NewExc hc h' e "TypeError" →
        (∀ s'', R (.error (.ref e)) s'' → Q () s'') → wpAny (model PR w) ((Ar dp un l gd).deeper env) (leaving env (.ref e)) Q E { s with heap := h', toks := tk } := by
      intro h' tk e hc env Q E hr hf hk kc Fc ne hQ
      have st : Step (frs l) [] s.heap hc := .of_kp kc
      refine leave_new (h := s.heap) (hc := hc) (base := base) (X := []) (P := fun _ => True) rfl hf st (fun _ m => nomatch m) hLn ?_ ne (fun _ _ => trivial) fun h'' fl => hQ _ (herr h'' _ _ hr fl)
      exact (U.inside st (fun _ m => nomatch m) Fc.ns hLn hf hk).frames
    refine C_execs_cons (C_Return (C_Call_Name (C_any ?_)))
    k_steps
    rcases row with _ | ds
    · obtain ⟨iv, tv, rfl⟩ : ∃ iv tv, v = .int iv tv := by cases hrow; exact ⟨_, _, rfl⟩
      refine C_callWith_Si (i := iv) (t := tv) rfl (by k_is) ?_
      k_steps
      rename_i h₂ tk₂ e₂ ne₂
      exact fl (.inl rfl) rfl rfl k1 F ne₂ fun _ z => z
    · refine C_callWith_S (K := Mine.hd.heap_39 w.params) (by k_is) ?_
      k_steps
      refine row_star rfl hrow₁ fun h₂ tk₂ vs k2 hal => ⟨X.keeps (Kp.trans k1 k2), ?_⟩
      show wpC _ _ (call (.ref 73) vs) _ _ _
      refine C_call ?_
      have B₂ := B₀.keeps (Kp.trans k1 k2)
      rcases ds with _ | ⟨d, ds⟩
      · have hnil : vs = [] := List.length_eq_zero_iff.mp hal.length
        rw [hnil]
        exact three_refused B₂ (by show dp + 1 < _; omega) rfl fun h₆ tk₆ e₆ ne₆ => fl (.inr rfl) rfl rfl (Kp.trans k1 k2) (F.keeps k2) ne₆ fun _ z => z
      · refine K_any (three_ok B₂ (by show dp + 1 < _; omega) hal (by simp) hrow.small fun h₆ tk₆ r t k6 hr0 ht0 hr ht => ?_)
        have fr : ∀ {y : Addr}, h₂.get? y = none → s.heap.get? y = none := fun e => Step.fresh (S := []) (X := []) (.of_kp (Kp.trans k1 k2)) e (by simp)
        exact hok h₆ tk₆ r t _ d ds rfl (Kp.trans (Kp.trans k1 k2) k6) hr ht hal (fr hr0) (fr ht0)
end
end Mine

/-! N1 -/
namespace Mine
section
variable {w : World} {A : Around} {E : Value → Shared → Prop} {s : Shared}
theorem map_next_open {m t f it : Addr} {Q : Option Value → Shared → Prop} (hm : s.heap.get? m = some (mapO t f)) (ht : s.heap.get? t = some (tupO [.ref it]))
    (h : wpAny (model PR w) A.in1 (Builtin.SmallTypes.nextOf (.ref it)) (fun v s₁ => s₁.heap.get? m = some (mapO t f) ∧ wpC (model PR w) A.in1 (call (.ref f) [v]) (fun r s₂ => Q (some r) s₂)
        (fun e s' => wpAny (model PR w) A (isInstance e (.type "StopIteration")) (fun b s₂ => if b = true then Q none s₂ else E e s₂) E s') s₁)
      (fun e s' => wpAny (model PR w) A (isInstance e (.type "StopIteration")) (fun b s₂ => if b = true then Q none s₂ else E e s₂) E s') s) : wpC (model PR w) A (pyNext (.ref m)) Q E s := by
  have hT : s.TypeIs (.ref m) "map" := ⟨_, hm, rfl⟩
  unfold pyNext
  refine C_bind (C_attempt ?_)
  unfold callSpecial?
  refine C_step (wpAny_specialOf hT slot_map_next.lookup ?_)
  dsimp only
  refine C_holding ?_
  refine C_step (wpAny_of_eq (slot_map_next.bind _) ?_)
  dsimp only
  refine C_bind (C_mono (Q := fun v s' => Q (some v) s') (E := fun e s' => wpAny (model PR w) A (isInstance e (.type "StopIteration")) (fun b s₂ => if b = true then Q none s₂ else E e s₂) E s')
    (C_call (K_call_builtin slot_map_next.plain entry_map_next (slot_map_next.check _ _ _ _ _ _ _ _ hT (args_map_next_1 _) ?_))) (fun v s' hq => C_pure (C_pure hq)) fun e s' he => ?_)
  · unfold Builtin.«map.__next__»
    refine C_step (wpAny_of_eq (a := (Value.ref m, [])) (by rfl) ?_)
    dsimp only
    refine C_step (wpAny_field hm rfl (x := .ref t) rfl ?_)
    refine C_step (wpAny_seqItems ht rfl ?_)
    dsimp only
    refine C_step ?_
    simp only [List.forIn_toArray, List.forIn_cons, List.forIn_nil]
    refine wpAny_bind (wpAny_bind (wpAny_holding (wpAny_mono h (fun v s₁ h₁ => wpAny_pure ?_) fun _ _ x => x)))
    dsimp only
    refine wpAny_pure ?_
    obtain ⟨hm₁, h₁⟩ := h₁
    refine C_step (wpAny_field hm₁ rfl (x := .ref f) rfl ?_)
    exact C_bind (C_holding (C_mono h₁ (fun r s₂ h₂ => C_step (wpAny_letGo (C_pure h₂))) fun _ _ x => x))
  refine C_step (wpAny_mono he (fun b s₂ hb => ?_) fun _ _ z => z)
  cases b with
  | true => exact C_pure hb
  | false => exact C_any (wpAny_throw hb)
theorem nextOf_item {it l : Addr} {i n : Nat} {items : Array Value} {ol : Obj} {x : Value} {Q : Value → Shared → Prop} (hit : ItAt s.heap it l "list_iterator" i) (hl : s.heap.get? l = some ol) (hd : ol.data = .seq items n) (hx : items[i]? = some x)
    (hQ : ∀ h', ItAt h' it l "list_iterator" (i + 1) → But it s.heap h' → Q x { s with heap := h' }) : wpAny (model PR w) A (Builtin.SmallTypes.nextOf (.ref it)) Q E s := by
  obtain ⟨o, ho, hc, hdo⟩ := id hit
  have hTS : s.TypeIs (.ref it) "list_iterator" := ⟨o, ho, hc⟩
  unfold Builtin.SmallTypes.nextOf
  have fin : Q x { s with heap := s.heap.update it (Obj.mapFields (·.setIfInBounds 1 (rawInt ((i : Int) + 1)))) } :=
    hQ _ ⟨_, Heap.get?_update_self _ ho (Obj.isFreed_of_fields (Obj.data_mapFields hdo _)), (Obj.cls_mapFields ..).trans hc, by rw [Obj.data_mapFields hdo]; simp [rawInt]⟩ fun b o' nb e => (Heap.get?_update_other _ _ (Ne.symm nb)).trans e
  refine wpAny_bind (wpAny_callSpecial?_slot (name := Str.ofString "__next__") hTS slot_listiter_next (wpAny_call_entry slot_listiter_next hTS entry_listiter_next ?_ (args_listiter_next _)))
  show wpAny _ _ (field (.ref it) 0 >>= _) _ _ s
  refine wpAny_bind (wpAny_field ho hdo (x := .ref l) rfl ?_)
  show wpAny _ _ (if (Value.ref l == Value.none) = true then _ else _) _ _ s
  rw [if_neg (show ¬ ((Value.ref l == Value.none) = true) from Bool.false_ne_true)]
  show wpAny _ _ (field (.ref it) 1 >>= _) _ _ s
  refine wpAny_bind (wpAny_field ho hdo (x := .int i 0) rfl ?_)
  show wpAny _ _ (seqItems? (.ref l) >>= _) _ _ s
  refine wpAny_bind (wpAny_seqItems hl hd ?_)
  simp only [Int.toNat_natCast, hx]
  refine wpAny_bind (wpAny_setField ho hdo (by simp) (wpAny_pure ⟨x, rfl, wpAny_pure ?_⟩))
  exact fin
theorem nextOf_end {it l : Addr} {i n : Nat} {items : Array Value} {ol : Obj} {Q : Value → Shared → Prop} (hh : A.handled = none) (hit : ItAt s.heap it l "list_iterator" i) (hl : s.heap.get? l = some ol) (hd : ol.data = .seq items n) (hx : items[i]? = none)
    (hE : ∀ hm h' e, But it s.heap hm → Heap.NewExc hm h' e "StopIteration" → E (.ref e) { s with heap := h' }) : wpAny (model PR w) A (Builtin.SmallTypes.nextOf (.ref it)) Q E s := by
  obtain ⟨o, ho, hc, hdo⟩ := id hit
  have hTS : s.TypeIs (.ref it) "list_iterator" := ⟨o, ho, hc⟩
  unfold Builtin.SmallTypes.nextOf
  have hm1 : But it s.heap (s.heap.update it (Obj.mapFields (·.setIfInBounds 0 Value.none))) := fun b o' nb e => (Heap.get?_update_other _ _ (Ne.symm nb)).trans e
  refine wpAny_bind (wpAny_callSpecial?_slot (name := Str.ofString "__next__") hTS slot_listiter_next (wpAny_call_entry slot_listiter_next hTS entry_listiter_next ?_ (args_listiter_next _)))
  show wpAny _ _ (field (.ref it) 0 >>= _) _ _ s
  refine wpAny_bind (wpAny_field ho hdo (x := .ref l) rfl ?_)
  show wpAny _ _ (if (Value.ref l == Value.none) = true then _ else _) _ _ s
  rw [if_neg (show ¬ ((Value.ref l == Value.none) = true) from Bool.false_ne_true)]
  show wpAny _ _ (field (.ref it) 1 >>= _) _ _ s
  refine wpAny_bind (wpAny_field ho hdo (x := .int i 0) rfl ?_)
  show wpAny _ _ (seqItems? (.ref l) >>= _) _ _ s
  refine wpAny_bind (wpAny_seqItems hl hd ?_)
  simp only [Int.toNat_natCast, hx]
  refine wpAny_bind (wpAny_rule (wpAny_bind (wpAny_setField ho hdo (by simp) ?_)))
  exact stop_raised hh fun h' e x => hE _ h' e hm1 x
end
end Mine

/-! N2 -/
namespace Mine
theorem Flung.wid {l : List Env} {X X' : List Addr} {P : Heap → Prop} {h h' : Heap} {e : Addr} {cls : String} (F : Flung l X' P h h' e cls) (hX : ∀ b ∈ X', b ∈ X) : Flung l X P h h' e cls := by
  obtain ⟨s2, he, B, a0, hB, hP, fl⟩ := F
  exact ⟨s2.mono (fun _ m => m) hX, he, B, a0, fun b o e hm hbX => hB b o e hm fun m => hbX (hX b m), hP, fl⟩
section
variable {w : World} {mean : ExcName → Option Value} {mg mb : Str → Option Value} {dp un : Nat} {l : List Env} {gd : Option (List Code)} {s : Shared} {base : Heap} {E : Value → Shared → Prop} {Q : Value → Shared → Prop}
theorem map_iter {A : Around} {m t f : Addr} {Q : Value → Shared → Prop} (hm : s.heap.get? m = some (mapO t f)) (hq : Q (.ref m) s) : wpAny (model PR w) A (pyIter (.ref m)) Q E s := by
  have hT : s.TypeIs (.ref m) "map" := ⟨_, hm, rfl⟩
  refine wpAny_pyIter_slot hT slot_map_iter (wpAny_call_entry slot_map_iter hT entry_map_iter ?_ (args_map_iter_1 _))
  show wpAny _ _ (do ret (.ref m)) _ _ s
  exact wpAny_pure ⟨_, rfl, "map", _, hT, slot_map_next.lookup, hq⟩
theorem list_map {m t it lst : Addr} {n : Nat} {items : Array Value} {ol : Obj} {rs : List (Option (List PyData))}
    (U : Und w mean mg mb (Ar dp un l gd) base l s.heap) (hroom : dp + 4 < recursionLimit) (hu : un + 110 < cLine)
    (hm : s.heap.get? m = some (mapO t 80)) (ht : s.heap.get? t = some (tupO [.ref it])) (hit : ItAt s.heap it lst "list_iterator" 0) (hl : s.heap.get? lst = some ol) (hd : ol.data = .seq items n)
    (hrows : AllRow s.heap items.toList rs) (hn : items.size ≤ 64)
    (hb : base.get? it = none) (hfr : ∀ b ∈ [m, t, it, lst], b ∉ frs l) (hvn : ∀ v ∈ items.toList, v ≠ .ref it) (hrf : ∀ v ∈ items.toList, ∀ b ∈ frs l, v ≠ .ref b)
    (hok : ∀ h' tk S acc c, Step (frs l) [it] s.heap h' → s.heap.get? S = none → h'.get? S = some (listO acc c) → acc.size = rs.length → Told s.heap h' acc rs → Q (.ref S) { s with heap := h', toks := tk })
    (herr : ∀ h' tk e (k : Nat), (∀ j, j < k → ∃ d ds, rs[j]? = some (some (d :: ds))) → (rs[k]? = some none ∨ rs[k]? = some (some [])) → Flung l [it] (fun _ => True) s.heap h' e "TypeError" → E (.ref e) { s with heap := h', toks := tk }) :
    wpC (model PR w) (Ar dp un l gd) (call (.type "list") [.ref m]) Q E s := by
  have hne : it ≠ m ∧ it ≠ t ∧ it ≠ lst := by
    obtain ⟨o, h1, h2, h3⟩ := hit
    refine ⟨fun q => ?_, fun q => ?_, fun q => ?_⟩
    · rw [q, hm] at h1; injection h1 with h1; subst h1; simp at h2
    · rw [q, ht] at h1; injection h1 with h1; subst h1; cases h3
    · rw [q, hl] at h1; injection h1 with h1; subst h1; rw [hd] at h3; cases h3
  have hitn : s.heap.get? it ≠ none := by obtain ⟨o, h1, _⟩ := hit; rw [h1]; simp
  have hSn : ∀ b ∈ frs l, s.heap.get? b ≠ none := fun b hm => by obtain ⟨_, o, ho, _⟩ := U.frames.mem hm; rw [ho]; simp
  have hXn : ∀ b ∈ [it], s.heap.get? b ≠ none := fun b hm => by rw [List.mem_singleton.mp hm]; exact hitn
  have hXi : ∀ b ∈ [it], base.get? b = none ∧ b ∉ frs l := fun b hm => by rw [List.mem_singleton.mp hm]; exact ⟨hb, hfr _ (by simp)⟩
  have mAt : ∀ h', Step (frs l) [it] s.heap h' → h'.get? m = some (mapO t 80) := fun h' st => st.get hm (hfr _ (by simp)) (by simp [Ne.symm hne.1])
  have tAt : ∀ h', Step (frs l) [it] s.heap h' → h'.get? t = some (tupO [.ref it]) := fun h' st => st.get ht (hfr _ (by simp)) (by simp [Ne.symm hne.2.1])
  refine C_call_list (T0 := .type "map")
    (fun acc c s' => ∃ k, c = items.size - k ∧ k ≤ items.size ∧ acc.size = k ∧ Step (frs l) [it] s.heap s'.heap ∧ ItAt s'.heap it lst "list_iterator" k ∧ s' = { s with heap := s'.heap, toks := s'.toks } ∧ Told s.heap s'.heap acc rs)
    (fun acc s' => acc.size = items.size ∧ Step (frs l) [it] s.heap s'.heap ∧ s' = { s with heap := s'.heap, toks := s'.toks } ∧ Told s.heap s'.heap acc rs) items.size
    (fun h' k => ?typ) ⟨rfl, rfl⟩ (fun h' k => ?len) (fun h' k => ?hint) (fun s' Q k hq => ?iter) (fun h' tk k => ?start) (fun S acc acc' c c' s' f hSn' hS hst => ?keepS) (fun S acc c c' s' hSn' hS hst => ?turn) (fun S acc c s' hSn' hS hend => ?stop) (Heap.lt_size hm)
  case typ => exact (Looks.ld (k _ _ hm)).andThen .now
  case len => exact ((Looks.ld (k _ _ hm)).andThen .now : Looks (model PR w) h' (typeOf (.ref m)) (.type "map")).andThen (Looks.of_pure map_no_len)
  case hint => exact ((Looks.ld (k _ _ hm)).andThen .now : Looks (model PR w) h' (typeOf (.ref m)) (.type "map")).andThen (Looks.of_pure map_no_hint)
  case iter => exact map_iter (k _ _ hm) (hq _ _ fun _ _ e => e)
  case start =>
    refine ⟨0, rfl, Nat.zero_le _, rfl, .of_kp k, ?_, rfl, fun j v hj => by simp at hj⟩
    obtain ⟨o, h1, h2⟩ := hit
    exact ⟨o, k _ _ h1, h2⟩
  case keepS =>
    obtain ⟨k, h1, h2, h3, h4, h5, h6, h7⟩ := hst
    refine ⟨k, h1, h2, h3, h4.write hSn', ?_, by rw [h6], fun j v hj => ?_⟩
    · obtain ⟨o, g1, g2⟩ := h5
      exact ⟨o, (Heap.get?_update_other _ _ (fun q => by rw [q] at hSn'; exact hitn hSn')).trans g1, g2⟩
    · obtain ⟨row, g1, g2⟩ := h7 j v hj
      exact ⟨row, g1, g2.write hS⟩
  case stop =>
    obtain ⟨h1, h2, h4, h5⟩ := hend
    rw [h4]
    refine hok _ _ S acc c h2 hSn' hS ?_ h5
    rw [h1, ← hrows.1, Array.length_toList]
  case turn =>
    obtain ⟨k, h1, h2, h3, h4, h5, h6, h7⟩ := hst
    have hSl : S ∉ frs l := fun m => hSn _ m hSn'
    have hSi : S ∉ [it] := fun m => hXn _ m hSn'
    have hl' := h4.get hl (hfr _ (by simp)) (by simp [Ne.symm hne.2.2])
    have hz : acc.size ≤ sizeLine := by rw [h3, sizeLine_eq]; omega
    have hSit : S ≠ it := fun q => hSi (by simp [q])
    refine map_next_open (mAt _ h4) (tAt _ h4) ?_
    rcases hi : items[k]? with _ | v
    · have hk : k = items.size := by have := Array.getElem?_eq_none_iff.mp hi; omega
      refine nextOf_end rfl h5 hl' hd hi fun hm' h'' e hbut ne => ?_
      obtain ⟨oe, tp, hoe, hce, _⟩ := ne.there
      have f1 : Step (frs l) [it] s'.heap h'' := (hbut.step (by simp)).trans (.of_kp ne.keeps)
      refine wpAny_isInstance (T := "StopIteration") (b := true) (⟨oe, hoe, hce⟩ : Shared.TypeIs _ (.ref e) "StopIteration") stop_yes ?_
      rw [if_pos rfl]
      refine ⟨f1.get hS hSl hSi, hz, by rw [h3, hk], h4.trans f1, by rw [h6], fun j v hj => ?_⟩
      obtain ⟨row, g1, g2⟩ := h7 j v hj
      exact ⟨row, g1, g2.step f1 hSn hXn⟩
    · have hk : k < items.size := by
        rcases Nat.lt_or_ge k items.size with q | q
        · exact q
        · rw [Array.getElem?_eq_none q] at hi; cases hi
      have hvm : v ∈ items.toList := by
        rw [← Array.getElem?_toList] at hi
        exact List.mem_of_getElem? hi
      obtain ⟨row, hrow⟩ : ∃ row, rs[k]? = some row := by
        have : k < rs.length := by rw [← hrows.1, Array.length_toList]; exact hk
        exact ⟨_, List.getElem?_eq_getElem this⟩
      have hrow' : RowAt s.heap v row := hrows.2 k v row (by rw [Array.getElem?_toList]; exact hi) hrow
      refine nextOf_item h5 hl' hd hi fun h₂ hit₂ hbut => ?_
      have f1 : Step (frs l) [it] s'.heap h₂ := hbut.step (by simp)
      have st₂ := h4.trans f1
      have hrow'' : RowAt h₂ v row := hrow'.move fun a o q e => st₂.get e (fun m => hrf v hvm a m q) (fun m => hvn v hvm (by rw [q, List.mem_singleton.mp m]))
      have U₂ := U.step st₂ hXi
      have hXn₂ : ∀ b ∈ [it], h₂.get? b ≠ none := fun b hm => by
        rw [List.mem_singleton.mp hm]; obtain ⟨o, g1, _⟩ := hit₂; rw [g1]; simp
      refine ⟨mAt _ st₂, C_call (whole (un := un + 1 + 1 + 1) (U₂.around rfl) (by show dp + 3 < _; omega) (by omega) hrow'' (fun h'' tk r t vs d ds e1 f2 f3 f4 f5 f6 f7 => ?_) (fun h'' tk e e1 F => ?_))⟩
      · dsimp only
        have st₃ : Step (frs l) [it] s.heap h'' := st₂.trans (.of_kp f2)
        refine ⟨f2 _ _ (f1.get hS hSl hSi), hz, items.size - (k + 1), by omega, k + 1, rfl, by omega, by rw [Array.size_push, h3], st₃, ?_, by rw [h6], Told.push (row := row) (fun j v hj => ?_) (by rw [h3]; exact hrow) ⟨r, t, vs, d, ds, rfl, e1, f3, f4, f5, fresh_of_step st₂ hXn₂ f6, fresh_of_step st₂ hXn₂ f7⟩⟩
        · obtain ⟨o, g1, g2⟩ := hit₂; exact ⟨o, f2 _ _ g1, g2⟩
        · obtain ⟨row, g1, g2⟩ := h7 j v hj
          exact ⟨row, g1, (g2.step f1 hSn hXn).step (.of_kp f2 : Step (frs l) [it] h₂ h'') hSn hXn⟩
      · dsimp only
        obtain ⟨oe, hoe, hce⟩ := F.there
        refine wpAny_isInstance (T := "TypeError") (b := false) (⟨oe, hoe, hce⟩ : Shared.TypeIs _ (.ref e) "TypeError") stop_no ?_
        rw [if_neg (by decide)]
        rw [h6]
        refine herr _ _ e k (fun j hj => ?_) (by rcases e1 with rfl | rfl; exact .inl hrow; exact .inr hrow) ((F.wid (X := [it]) (fun _ m => nomatch m)).before st₂ hXn₂)
        have hja : j < acc.size := by omega
        obtain ⟨row', g1, r, t, vs, d, ds, g2, g3, _⟩ := h7 j _ (Array.getElem?_eq_getElem hja)
        exact ⟨d, ds, by rw [g1, g3]⟩
end
end Mine

/-! N3 -/
namespace Mine
theorem callWith_Smap {M : Model} {A : Around} {E : Value → Shared → Prop} {s : Shared} {env : Env} {e : Expr} {pos p : Pos} {T : String} {Q : Value → Shared → Prop}
    (h : wpAny M A (eval e env) (fun v s₁ => StarOf M A E v (fun vs s₂ => wpAny M A (call (.type T) vs) Q E s₂) s₁) E s)
    (he : starEach [.Starred e p] env = [(true, eval e env)] := by rfl) :
    wpAny M A (callWith pos (.type T) [] (backTo pos (starEach [.Starred e p] env)) []) Q E s := by
  rw [he]
  refine ks_call (P := fun _ => True) rfl (fun _ _ => ⟨.machine, .inr (.inl rfl), Looks.of_pure rfl⟩) (ks_lone (wpAny_mono h (fun v s₁ h₁ => ?_) fun _ _ x => x))
  unfold StarOf at h₁ ⊢
  exact wpAny_mono h₁ (fun b s₂ h₂ => ⟨h₂.1, wpAny_mono h₂.2 (fun vs s₃ h₃ => ⟨trivial, h₃⟩) fun _ _ x => x⟩) fun _ _ x => x
section
variable {w : World} {mean : ExcName → Option Value} {mg mb : Str → Option Value} {dp un : Nat} {l : List Env} {gd : Option (List Code)} {s : Shared} {base : Heap} {R : Result → Shared → Prop}
theorem mapst {a lst : Addr} {rs : List (Option (List PyData))}
    (U : Und w mean mg mb (Ar dp un l gd) base l s.heap) (hroom : dp + 8 < recursionLimit) (hu : un + 200 < cLine)
    (ha : s.heap.get? a = some (tupO [.ref 80, .ref lst])) (hba : base.get? a = none)
    (hr : Rows w s.heap l base lst lst "list_iterator" [] rs) (hll : ∃ items, s.heap.IsList lst items)
    (hok : ∀ h' tk S acc c, Step (frs l) [] s.heap h' → s.heap.get? S = none → h'.get? S = some (listO acc c) → acc.size = rs.length → Told s.heap h' acc rs → R (.ok (.ret (.ref S))) { s with heap := h', toks := tk })
    (herr : ∀ h' tk e (k : Nat), (∀ j, j < k → ∃ d ds, rs[j]? = some (some (d :: ds))) → (rs[k]? = some none ∨ rs[k]? = some (some [])) → Flung l [] (fun _ => True) s.heap h' e "TypeError" → R (.error (.ref e)) { s with heap := h', toks := tk }) :
    codeC (model PR w) (Ar dp un l gd) (.call (.ref 21) ⟨[.ref a], []⟩) R s := by
  refine' enter_C (binds := [(Str.ofString "args", .ref a)]) U (by show dp < _; omega) ?k6 ?k7 ?k9 ?h ?c1 ?c5 ?c2 ?c3 ?c4
  case k6 => k_is
  case k7 => k_is
  case k9 => exact BindsTo.of_eq rfl
  case c1 => exact rfl
  case c5 => decide
  case c2 => exact rfl
  case c3 => exact rfl
  case c4 => exact rfl
  case h =>
    intro L h₁ k1 hsz hLn hns U₁ hL
    have B₀ := U.in
    have X := B₀.K
    have T₀ := B₀.T
    have F : Fr s.heap L h₁ _ := ⟨hns, k1, by rw [hL]; exact Nat.le_refl _⟩
    have N : News s.heap L h₁ [] := News.nil
    refine C_execs_cons (C_Return (C_Call_Name (C_any ?_)))
    k_steps
    refine C_callWith (P := fun _ => True) (fun _ _ => ⟨.machine, .inr rfl, Looks.of_pure rfl⟩) (C_evalArgs_plain (C_spliced_cons (C_any ?_)))
    rw [if_neg Bool.false_ne_true]
    k_steps
    refine callWith_Smap ?_
    k_steps
    refine star_tup (k1 _ _ ha) rfl rfl (by rw [sizeLine_eq]; simp) fun h₂ k2 => ?_
    obtain ⟨items₀, hll⟩ := hll
    have hll₂ : h₂.IsList lst items₀ := by obtain ⟨o, e, r⟩ := hll; exact ⟨o, k2 _ _ (k1 _ _ e), r⟩
    show wpAny _ _ (call (.type "map") [.ref 80, .ref lst]) _ _ _
    refine call_map hll₂ fun h₃ m t it k3 m0 t0 it0 hm ht hit => ?_
    have kpc : Kp s.heap h₃ := Kp.trans (Kp.trans k1 k2) k3
    have stc : Step (frs l) [] s.heap h₃ := .of_kp kpc
    have fr : ∀ {y : Addr}, h₂.get? y = none → s.heap.get? y = none := fun e => Step.fresh (S := []) (X := []) (.of_kp (Kp.trans k1 k2)) e (by simp)
    have bn : ∀ {y : Addr}, s.heap.get? y = none → base.get? y = none := fun e => by
      cases q : base.get? _ with
      | none => rfl
      | some o => have := U.stays _ _ q; rw [e] at this; cases this
    have fn : ∀ {y : Addr}, s.heap.get? y = none → y ∉ frs l := fun e m => by
      obtain ⟨_, o, ho, _⟩ := U.frames.mem m; rw [e] at ho; cases ho
    have nL : ∀ {y : Addr}, h₂.get? y = none → y ≠ L := fun e q => by
      obtain ⟨o, _, _, ho, _⟩ := hns
      rw [q, k2 _ _ ho] at e; cases e
    have Fc : Fr s.heap L h₃ _ := ⟨(F.keeps (Kp.trans k2 k3)).ns, kpc, F.above⟩
    have Uc := fun (env : Env) (hf : env.frame = some L) (hk : env.scope.kind = .function) => U.inside (env := env) stc (fun _ m => nomatch m) Fc.ns hLn hf hk
    obtain ⟨ol, items, n, g1, g2, g3, g4, g5, g6⟩ := hr.seq
    have rowc : AllRow h₃ items.toList rs := g4.move fun v m a' o q e => kpc _ _ e
    have there : ∀ v ∈ items.toList, ∃ row, RowAt s.heap v row := fun v m => by
      obtain ⟨i', hi', rfl⟩ := List.getElem_of_mem m
      have hi2 : i' < rs.length := by rw [← g4.1]; exact hi'
      exact ⟨_, g4.2 i' _ _ (List.getElem?_eq_getElem hi') (List.getElem?_eq_getElem hi2)⟩
    have hXX : ∀ b' ∈ [it], b' ∈ ([] : List Addr) ∨ s.heap.get? b' = none := fun b' m => .inr (by rw [List.mem_singleton.mp m]; exact fr it0)
    refine C_spliced_nil ⟨trivial, ?_⟩
    show wpC _ _ (call (.type "list") [.ref m]) _ _ _
    refine list_map (mean := mean) (mg := mg) (mb := mb) (dp := dp + 1) (un := un + 3) (base := base) ?_ (by omega) (by omega) hm ht hit (kpc _ _ g1) g2 rowc g5 (bn (fr it0)) ?_ ?_ ?_ ?_ ?_
    · exact Uc _ rfl rfl
    · intro b' m'
      simp only [List.mem_cons, List.not_mem_nil, or_false] at m'
      show b' ∉ L :: frs l
      rcases m' with rfl | rfl | rfl | rfl
      · intro m; rcases List.mem_cons.mp m with q | m; exact nL m0 q; exact fn (fr m0) m
      · intro m; rcases List.mem_cons.mp m with q | m; exact nL t0 q; exact fn (fr t0) m
      · intro m; rcases List.mem_cons.mp m with q | m; exact nL it0 q; exact fn (fr it0) m
      · intro m
        rcases List.mem_cons.mp m with q | m
        · rw [q, hLn] at g1; cases g1
        · exact hr.nl.1 m
    · intro v m' q
      obtain ⟨row, rv⟩ := there v m'
      subst q
      obtain ⟨o, ho, _⟩ := rv.there w
      rw [fr it0] at ho; cases ho
    · intro v m' b' m'' q
      obtain ⟨row, rv⟩ := there v m'
      subst q
      obtain ⟨o, ho, _⟩ := rv.there w
      rcases List.mem_cons.mp m'' with q | m''
      · rw [q, hLn] at ho; cases ho
      · exact g6 _ m' _ m'' rfl
    · intro h' tk' S acc c' st' hS hS' hz hto
      have fS : ∀ {y : Addr}, h₃.get? y = none → s.heap.get? y = none := fun e => Step.fresh (S := []) (X := []) (.of_kp kpc) e (by simp)
      refine hok h' tk' S acc c' (Step.popL rfl stc hLn hXX st') (fS hS) hS' hz fun j v hj => ?_
      obtain ⟨row, z1, z2⟩ := hto j v hj
      exact ⟨row, z1, z2.base fun _ e => fS e⟩
    · intro h' tk' e k e1 e2 F'
      exact leave_on (h := s.heap) (hc := h₃) (X := []) (X' := [it]) (P := fun _ => True) (P' := fun _ => True) rfl rfl stc (fun _ m => nomatch m) hLn hXX (fun _ z => z) F' fun h'' F'' => herr h'' _ _ k e1 e2 F''
end
end Mine

/-! N4 -/
namespace Mine
theorem Flung.start {l : List Env} {X : List Addr} {P : Heap → Prop} {h h₁ h' : Heap} {e : Addr} {cls : String} (k : Kp h h₁) (F : Flung l X P h₁ h' e cls) : Flung l X P h h' e cls := by
  obtain ⟨s2, he, B, a0, hB, hP, fl⟩ := F
  refine ⟨(Step.of_kp k : Step (frs l) X h h₁).trans s2, ?_, B, a0, fun b o e hm hX => hB b o (k b o e) hm hX, hP, fl⟩
  cases q : h.get? e with
  | none => rfl
  | some o => rw [k _ _ q] at he; cases he
section
variable {w : World} {mean : ExcName → Option Value} {mg mb : Str → Option Value} {dp un : Nat} {l : List Env} {gd : Option (List Code)} {s : Shared} {base : Heap} {R : Result → Shared → Prop}
theorem told_whole {lst : Addr} {rs : List (Option (List PyData))}
    (U : Und w mean mg mb (Ar dp un l gd) base l s.heap) (hroom : dp + 10 < recursionLimit) (hu : un + 250 < cLine)
    (hr : Rows w s.heap l base lst lst "list_iterator" [] rs) (hll : ∃ items, s.heap.IsList lst items)
    (hok : ∀ h' tk S acc c, Step (frs l) [] s.heap h' → s.heap.get? S = none → h'.get? S = some (listO acc c) → acc.size = rs.length → Told s.heap h' acc rs → R (.ok (.ret (.ref S))) { s with heap := h', toks := tk })
    (herr : ∀ h' tk t (k : Nat), (∀ j, j < k → ∃ d ds, rs[j]? = some (some (d :: ds))) → (rs[k]? = some none ∨ rs[k]? = some (some [])) → Step (frs l) [] s.heap h' → R (.ok (.ret (.str (Str.ofString "TypeError") t))) { s with heap := h', toks := tk }) :
    codeC (model PR w) (Ar dp un l gd) (.call (.ref 104) ⟨[.ref lst], []⟩) R s := by
  refine' enter_C (binds := [(Str.ofString "rows", .ref lst)]) U (by show dp < _; omega) ?k6 ?k7 ?k9 ?h ?c1 ?c5 ?c2 ?c3 ?c4
  case k6 => k_is
  case k7 => k_is
  case k9 => exact BindsTo.of_eq rfl
  case c1 => exact rfl
  case c5 => decide
  case c2 => exact rfl
  case c3 => exact rfl
  case c4 => exact rfl
  case h =>
    intro L h₁ k1 hsz hLn hns U₁ hL
    have Bs := U.in
    have X := Bs.K
    have T₀ := Bs.T
    have F : Fr s.heap L h₁ _ := ⟨hns, k1, by rw [hL]; exact Nat.le_refl _⟩
    have N : News s.heap L h₁ [] := News.nil
    refine C_execs_cons (C_Try ?_)
    refine C_execs_cons (C_Return (C_Call_Name (C_any ?_)))
    k_steps
    refine C_callWith (P := fun h => (Mine.hd.heap_39 w.params).In h) (fun h X => looks_keep (by k_is) X) (C_evalArgs_plain (C_spliced_cons (C_any ?_)))
    rw [if_neg Bool.false_ne_true]
    k_steps
    rename_i a h₂ F₂ N₂ l1
    have k2 := F₂.keep
    have ha := (N₂ _ (.head _)).1
    have han := (N₂ _ (.head _)).2.2
    refine C_spliced_nil ⟨X.keeps k2, ?_⟩
    show wpC _ _ (call (.ref 21) [.ref a]) _ _ _
    refine C_call ?_
    clear X T₀ N₂
    have hHb : ∀ b' ∈ frs l, base.get? b' = none := fun b' m => (U.frames.mem m).1
    have B₀ := U.hide (H := frs l) hHb
    have X := B₀.K
    have T₀ := B₀.T
    have hXX : ∀ b' ∈ ([] : List Addr), b' ∈ ([] : List Addr) ∨ s.heap.get? b' = none := fun _ m => .inl m
    have up1 : ∀ {y : Addr}, h₂.get? y = none → s.heap.get? y = none := fun e => Step.fresh (S := []) (X := []) (.of_kp k2) e (by simp)
    have hba : base.get? a = none := by
      cases q : base.get? a with
      | none => rfl
      | some o => have := U.stays _ _ q; rw [han] at this; cases this
    refine mapst (mean := mean) (mg := mg) (mb := mb) (dp := dp + 1) (un := un + 3) (base := base) ?_ (by omega) (by omega) ha hba (hr.enter k2 hLn rfl) ?_ ?_ ?_
    · exact U.inside (X := []) (.of_kp k2) (fun _ m => nomatch m) F₂.ns hLn rfl rfl
    · obtain ⟨items, o, e, r⟩ := hll
      exact ⟨items, o, k2 _ _ e, r⟩
    · intro h' tk S acc c st' hS hS' hz ht
      refine ⟨(fun q => by cases q), hok h' tk S acc c (Step.popL rfl (.of_kp k2) hLn hXX st') (up1 hS) hS' hz fun j v hj => ?_⟩
      obtain ⟨row, z1, z2⟩ := ht j v hj
      exact ⟨row, z1, z2.base fun _ e => up1 e⟩
    · intro h' tk e k e1 e2 F'
      obtain ⟨st2, fe, B, a0, hB, hP, fl⟩ := F'
      have hB0 : (hideAll s.heap (frs l)).StaysIn B := fun b' o q => by
        have q' : s.heap.get? b' = some o := of_hideAll _ q
        have nm : b' ∉ frs l := fun m => by rw [hideAll_none _ m] at q; cases q
        refine hB b' o (k2 _ _ q') (fun m => ?_) (fun m => nomatch m)
        rcases List.mem_cons.mp (show b' ∈ L :: frs l from m) with z | m
        · rw [z, hLn] at q'; cases q'
        · exact nm m
      have c0 := Cau.mk (hs := h') fl (Fr.mk (h₀ := hideAll s.heap (frs l)) (st2.ns F₂.ns (by simp)) (fun b' o q => fl.1 _ _ (hB0 _ _ q)) (by rw [hideAll_size]; exact F₂.above)) (Heap.UpToSlots.refl _)
      refine cau_notes rfl hB0 c0 fun h₅ c₅ => ?_
      refine cau_test (b := true) (T := "TypeError") hB0 c₅ (topRead_of T₀) PyProof.Rows.Boot.«TypeError» PySem.F.isExc_TypeError PySem.F.notTuple_TypeError (by rw [isSubtype_type]; kernel_rfl) ?_
      rw [if_pos rfl]
      intro h₆ c₆
      have F₆ := c₆.fr
      have N₆ : News (hideAll s.heap (frs l)) L h₆ [] := News.nil
      clear F₂
      k_steps
      exact herr h₆ _ _ k e1 e2 (step_leave rfl (.of_kp k2) hLn hXX st2 hB fl.2.2.1 c₆.fl.1 c₆.up)
end
end Mine

/-! N5 -/
namespace Mine
def Stop (p : Prop) : Prop := p
theorem stopHere {p : Prop} (h : Stop p) : p := h
def TestIs (b0 : Bool) (s : Shared) (b : Bool) (s₂ : Shared) : Prop := b = b0 ∧ ∃ tk, s₂ = { s with toks := tk }
theorem If_known {M : Model} {A : Around} {E : Value → Shared → Prop} {s : Shared} {env : Env} {test : Expr} {body orelse : List Stmt} {pos : Pos} {Q : Flow → Shared → Prop} (b0 : Bool)
    (h : wpAny M A (isTrue test env (eval test env)) (TestIs b0 s) E s) (k : ∀ tk, wpAny M A (execs (if b0 then body else orelse) env) Q E { s with toks := tk }) : wpAny M A (exec (.If test body orelse pos) env) Q E s := by
  refine wpAny_If (wpAny_mono h (fun b s₂ h₂ => ?_) fun _ _ x => x)
  obtain ⟨rfl, tk, rfl⟩ := h₂
  cases b with
  | true => exact k tk
  | false => exact k tk
/-! the plain law: what a row holds -/
abbrev cnt (v : Int) : Int := (v.fdiv 6).fmod 5
def inD (v : Int) (c : Nat) : List PyData := (List.range c).map fun (i : Nat) => PyData.int (v + i)
def letters (c : Int) : List PyData := (Txt.slice (Str.ofString "abcd") none (some c)).cps.toList.map fun k => .str ⟨#[k]⟩
def rowD (v : Int) : Option (List PyData) :=
  if v.fmod 6 = 0 then some (inD v (cnt v).toNat)
  else if v.fmod 6 = 1 then some (inD v (cnt v).toNat)
  else if v.fmod 6 = 2 then some ((List.range (cnt v).toNat).map fun (i : Nat) => PyData.int (i : Int))
  else if v.fmod 6 = 3 then some (letters (cnt v))
  else if v.fmod 6 = 4 ∨ (v.fdiv 30).fmod 3 ≠ 2 then some (inD v (cnt v).toNat)
  else none
/-- the row as data, for == -/
def Made (h : Heap) (u : Value) (v : Int) : Prop :=
  if v.fmod 6 = 0 then ∃ as, Reads h u (.list (inD v (cnt v).toNat)) as
  else if v.fmod 6 = 1 then ∃ as, Reads h u (.tuple (inD v (cnt v).toNat)) as
  else if v.fmod 6 = 2 then ∃ a t₁ t₂ t₃, u = .ref a ∧ IsRange h a 0 (cnt v) 1 t₁ t₂ t₃
  else if v.fmod 6 = 3 then ∃ t, u = .str (Txt.slice (Str.ofString "abcd") none (some (cnt v))) t
  else if v.fmod 6 = 4 ∨ (v.fdiv 30).fmod 3 ≠ 2 then ∃ as, Reads h u (.dict ((List.range (cnt v).toNat).map fun (i : Nat) => (PyData.int (v + i), PyData.int (cnt v)))) as
  else ∃ t, u = .int v t
theorem ints_atm : ∀ {xs : List Int} {ys : List Value}, IntsAre ys xs → AllAtm ys (xs.map PyData.int)
  | [], [], _ => trivial
  | x :: xs, y :: ys, h => by
    cases h
    rename_i t h'
    exact ⟨.inl ⟨x, t, rfl, rfl⟩, ints_atm h'⟩
theorem ints_eq (v : Int) (n : Int) : (List.map (fun k' => v + k') (rangeKs 0 (n - 0).toNat)).map PyData.int = inD v n.toNat := by
  unfold inD rangeKs
  rw [List.map_map, List.map_map, Int.sub_zero]
  apply List.map_congr_left
  intro i _
  simp
theorem cnt_lt (v : Int) : 0 ≤ cnt v ∧ cnt v < 5 := ⟨Int.fmod_nonneg_of_pos _ (by decide), Int.fmod_lt_of_pos _ (by decide)⟩
theorem letters_small {c : Int} (h0 : 0 ≤ c) (h : c < 5) : (Txt.slice (Str.ofString "abcd") none (some c)).cps.size ≤ 4 := by
  have : c = 0 ∨ c = 1 ∨ c = 2 ∨ c = 3 ∨ c = 4 := by omega
  rcases this with rfl | rfl | rfl | rfl | rfl <;> decide +kernel
theorem reads_key_int' {h : Heap} {prog : Program} {w : World} (k : Int) (key : Value) (hk : (intKind prog w).is k key = true) : Reads h key (.int k) [] := by
  obtain ⟨t, rfl⟩ := Value.isInt_shape hk
  exact .int _ _
theorem pairs_all {p p' : Program} {w w' : World} : ∀ {l : List DictEntry} {kvs : List (Int × Value)}, Pairs (intKind p w) l kvs → Pairs (intKind p' w') l kvs
  | _, _, .nil => .nil
  | _, _, .cons a b c => .cons a b (pairs_all c)
theorem dict_row {w : World} {h : Heap} {d : Addr} {o : Obj} {kvs : List (Int × Value)} {v : Int} {c : Nat} {x : Int} (hg : h.get? d = some o) (hd : Obj.IsDictOf (intKind PR w) o kvs) (lo : (d == sysModules) = false) (hc : c ≤ 4)
    (hk1 : kvs.map (·.1) = (List.range c).map fun (i : Nat) => v + (i : Int)) (hk2 : ∀ q ∈ kvs, ∃ tk, q.2 = Value.int x tk) : RowAt h (.ref d) (some (inD v c)) ∧ ∃ as, Reads h (.ref d) (.dict ((List.range c).map fun (i : Nat) => (PyData.int (v + i), PyData.int x))) as := by
  have two : ∀ {β : Type} (f : Int → β), kvs.map (fun q => f q.1) = (List.range c).map fun (i : Nat) => f (v + (i : Int)) := fun f => by
    have := congrArg (List.map f) hk1
    rw [List.map_map, List.map_map] at this
    exact this
  constructor
  · obtain ⟨es, ep, h1, h2, h3, h4, h5⟩ := hd
    have e : inD v c = kvs.map fun q => PyData.int q.1 := (two PyData.int).symm
    rw [e]
    exact .dict (ep := ep) (fun p w' => ⟨o, es, hg, h1, h2, h3, pairs_all h4, h5⟩) lo (by rw [← List.length_map (f := fun q : Int × Value => q.1), hk1]; simpa using hc)
  · have fp : ∀ l : List (Int × Value), (∀ q ∈ l, ∃ tk, q.2 = Value.int x tk) → PyProof.V.FlatPairs PyData.int l (l.map fun q => (PyData.int q.1, PyData.int x)) := fun l => by
      induction l with
      | nil => exact fun _ => .nil
      | cons a l ih =>
        intro hl
        obtain ⟨k, y⟩ := a
        obtain ⟨tk, e⟩ := hl (k, y) (.head _)
        have e' : y = Value.int x tk := e
        subst e'
        exact .cons (.int _ _) (ih fun q hq => hl q (.tail _ hq))
    have p := (fp kvs hk2).pairsRead h
    rw [two fun k => (PyData.int k, PyData.int x)] at p
    exact ⟨_, PyProof.V.reads_dictOf reads_key_int' (Heap.dictOf_iff.mpr ⟨o, hg, hd⟩) p⟩
section
variable {w : World} {mean : ExcName → Option Value} {mg mb : Str → Option Value} {dp un : Nat} {fr : Option (List Env)} {gd : Option (List Code)} {s : Shared}
theorem row_ok {R : Result → Shared → Prop} {t : Tok} {v : Int} (hb : v.natAbs.log2 < 2 ^ 24) (b : Bs w mean mg mb s.heap) (hroom : dp < recursionLimit) (hu : un + 100 < cLine)
    (hR : ∀ h' tk u, Kp s.heap h' → RowAt h' u (rowD v) → Made h' u v → (∀ a, u = .ref a → s.heap.get? a = none) → R (.ok (.ret u)) { s with heap := h', toks := tk }) :
    codeAny (model PR w) { handled := none, depth := dp, frames := fr, guards := gd, units := un } (.call (.ref 85) ⟨[.int v t], []⟩) R s := by
  refine' enter_cells (binds := [(Str.ofString "x", .int v t)]) b hroom ?k6 ?k7 ?k9 ?h ?kB ?c5 ?c2 ?c3 ?c4
  case k6 => k_is
  case k7 => k_is
  case k9 => exact BindsTo.of_eq rfl
  case c5 => decide
  case kB => exact rfl
  case c2 => exact rfl
  case c3 => exact rfl
  case c4 => exact rfl
  case h =>
    intro L h₁ tk cells F N Y X T hL
    k_cells Y
    try dsimp only
    k_with_none
    k_with "exec For Name Name cons nil" => refine stopHere ?_
    k_with "exec If BoolOp cons nil" => refine stopHere ?_
    k_steps
    · rename IntsAre _ _ => hI
      rename News _ _ _ _ => N'
      rename Fr _ _ _ _ => F'
      rename v.fmod 6 = 0 => h6
      have n1 := N' _ (.head _)
      have hat := ints_atm hI
      rw [ints_eq] at hat
      have hsz : ys.toArray.size ≤ 4 := by rw [List.size_toArray, hat.length]; simp [inD]; have := cnt_lt v; omega
      refine hR _ _ _ F'.keep ?_ ?_ (fun a e => by cases e; exact n1.2.2)
      · unfold rowD; rw [if_pos h6]
        exact .list n1.1 rfl rfl hsz hat
      · unfold Made; rw [if_pos h6]
        have hr := fun h : Heap => ints_readAll h hI
        simp only [ints_eq] at hr
        exact ⟨_, .list n1.1 rfl rfl (hr _)⟩
    · rename IntsAre _ _ => hI
      rename News _ _ _ _ => N'
      rename Fr _ _ _ _ => F'
      rename v.fmod 6 ≠ 0 => h0
      rename v.fmod 6 = 1 => h6
      have n1 := N' _ (.head _)
      have hat := ints_atm hI
      rw [ints_eq] at hat
      have hsz : ys.toArray.size ≤ 4 := by rw [List.size_toArray, hat.length]; simp [inD]; have := cnt_lt v; omega
      refine hR _ _ _ F'.keep ?_ ?_ (fun a e => by cases e; exact n1.2.2)
      · unfold rowD; rw [if_neg h0, if_pos h6]
        exact .tup n1.1 rfl rfl hsz hat
      · unfold Made; rw [if_neg h0, if_pos h6]
        have hr := fun h : Heap => ints_readAll h hI
        simp only [ints_eq] at hr
        exact ⟨_, .tuple n1.1 rfl rfl (hr _)⟩
    · rename IsRange _ _ _ _ _ _ _ _ => hrg
      rename Fr _ _ _ _ => F'
      rename v.fmod 6 ≠ 0 => h0
      rename v.fmod 6 ≠ 1 => h1
      rename v.fmod 6 = 2 => h6
      have hc : cnt v = ((cnt v).toNat : Int) := by have := cnt_lt v; omega
      refine hR _ _ _ F'.keep ?_ ?_ (fun a e => ?_)
      · unfold rowD; rw [if_neg h0, if_neg h1, if_pos h6]
        have hrg' := hrg
        rw [show (v.fdiv 6).fmod 5 = ((cnt v).toNat : Int) from hc] at hrg'
        exact .rng hrg' (by have := cnt_lt v; omega)
      · unfold Made; rw [if_neg h0, if_neg h1, if_pos h6]
        exact ⟨_, _, _, _, rfl, hrg⟩
      · cases e
        refine Step.fresh (S := []) (X := []) (.of_kp (Fr.keep (by assumption))) (Heap.get?_none_of_le (Nat.le_refl _)) (by simp)
    · rename Fr _ _ _ _ => F'
      rename v.fmod 6 ≠ 0 => h0
      rename v.fmod 6 ≠ 1 => h1
      rename v.fmod 6 ≠ 2 => h2
      rename v.fmod 6 = 3 => h6
      refine hR _ _ _ F'.keep ?_ ?_ (fun a e => by cases e)
      · unfold rowD; rw [if_neg h0, if_neg h1, if_neg h2, if_pos h6]
        exact .str (letters_small (cnt_lt v).1 (cnt_lt v).2)
      · unfold Made; rw [if_neg h0, if_neg h1, if_neg h2, if_pos h6]
        exact ⟨_, rfl⟩
    · unfold Stop
      rename v.fmod 6 ≠ 0 => h0
      rename v.fmod 6 ≠ 1 => h1
      rename v.fmod 6 ≠ 2 => h2
      rename v.fmod 6 ≠ 3 => h3
      by_cases hcond : v.fmod 6 = 4 ∨ (v.fdiv 30).fmod 3 ≠ 2
      · refine If_known true ?_ fun tk => ?_
        · k_steps
          all_goals first | exact ⟨rfl, _, rfl⟩ | exact ⟨by simp_all, _, rfl⟩ | (exfalso; omega)
        · rw [if_pos rfl]
          k_steps
          unfold Stop
          rename IntsAre _ _ => hI
          rename News _ _ _ _ => N'
          rename Fr _ _ _ _ => F'
          rename Obj.IsDictOf (intKind PR w) _ _ => hD
          rename (_ == sysModules) = false => lo
          have hcc : (v.fdiv 6).fmod 5 = 0 ∨ (v.fdiv 6).fmod 5 = 1 ∨ (v.fdiv 6).fmod 5 = 2 ∨ (v.fdiv 6).fmod 5 = 3 ∨ (v.fdiv 6).fmod 5 = 4 := by omega
          have fin : ∀ {h' : Heap} {d : Addr} {o : Obj} {kvs : List (Int × Value)} {c : Nat}, h'.get? d = some o → Obj.IsDictOf (intKind PR w) o kvs → (d == sysModules) = false → (v.fdiv 6).fmod 5 = (c : Int) → c ≤ 4 →
              (kvs.map (·.1) = (List.range c).map fun (i : Nat) => v + (i : Int)) → (∀ q ∈ kvs, ∃ tk, q.2 = Value.int ((v.fdiv 6).fmod 5) tk) → RowAt h' (.ref d) (rowD v) ∧ Made h' (.ref d) v := by
            intro h' d o kvs c hg hd lo hc hc4 hk1 hk2
            obtain ⟨r1, r2⟩ := dict_row (v := v) (c := c) hg hd lo hc4 hk1 hk2
            have ec : (cnt v).toNat = c := by rw [show cnt v = (v.fdiv 6).fmod 5 from rfl, hc]; simp
            refine ⟨?_, ?_⟩
            · unfold rowD; rw [if_neg h0, if_neg h1, if_neg h2, if_neg h3, if_pos hcond, ec]; exact r1
            · unfold Made; rw [if_neg h0, if_neg h1, if_neg h2, if_neg h3, if_pos hcond, ec]; exact r2
          have hne : ∀ a b : Int, (v + a = v + b) = (a = b) := fun a b => propext ⟨fun h => by omega, fun h => by omega⟩
          k_with_none
          rcases hcc with hc | hc | hc | hc | hc
          · rw [hc] at hI
            simp only [hc] at F'
            replace hI : IntsAre ys [] := by simpa [rangeKs, List.range_succ] using hI
            cases hI
            k_steps
            rename News _ _ _ _ => N₉
            rename Fr _ _ _ _ => F₉
            rename Obj.IsDictOf (intKind PR w) _ _ => hD₉
            have nd := N₉ _ (.head _)
            have rr := fin (c := 0) nd.1 hD₉ lo (by rw [hc]; rfl) (by decide) (by simp [List.range_succ]) (List.forall_mem_nil _)
            exact hR _ _ _ F₉.keep rr.1 rr.2 (fun a e => by cases e; exact nd.2.2)
          · rw [hc] at hI
            simp only [hc] at F'
            replace hI : IntsAre ys [v + 0] := by simpa [rangeKs, List.range_succ] using hI
            cases hI
            rename IntsAre _ _ => hI
            cases hI
            k_steps
            rename News _ _ _ _ => N₉
            rename Fr _ _ _ _ => F₉
            rename Obj.IsDictOf (intKind PR w) _ _ => hD₉
            have nd := N₉ _ (.head _)
            simp [stored, hne, -Int.add_zero] at hD₉
            have rr := fin (c := 1) nd.1 hD₉ lo (by rw [hc]; rfl) (by decide) (by simp [List.range_succ]) (List.forall_mem_cons.mpr ⟨⟨_, by rw [hc]⟩, List.forall_mem_nil _⟩)
            exact hR _ _ _ F₉.keep rr.1 rr.2 (fun a e => by cases e; exact nd.2.2)
          · rw [hc] at hI
            simp only [hc] at F'
            replace hI : IntsAre ys [v + 0, v + 1] := by simpa [rangeKs, List.range_succ] using hI
            cases hI
            rename IntsAre _ _ => hI
            cases hI
            rename IntsAre _ _ => hI
            cases hI
            k_steps
            rename News _ _ _ _ => N₉
            rename Fr _ _ _ _ => F₉
            rename Obj.IsDictOf (intKind PR w) _ _ => hD₉
            have nd := N₉ _ (.head _)
            simp [stored, hne, -Int.add_zero] at hD₉
            have rr := fin (c := 2) nd.1 hD₉ lo (by rw [hc]; rfl) (by decide) (by simp [List.range_succ]) (List.forall_mem_cons.mpr ⟨⟨_, by rw [hc]⟩, List.forall_mem_cons.mpr ⟨⟨_, by rw [hc]⟩, List.forall_mem_nil _⟩⟩)
            exact hR _ _ _ F₉.keep rr.1 rr.2 (fun a e => by cases e; exact nd.2.2)
          · rw [hc] at hI
            simp only [hc] at F'
            replace hI : IntsAre ys [v + 0, v + 1, v + 2] := by simpa [rangeKs, List.range_succ] using hI
            cases hI
            rename IntsAre _ _ => hI
            cases hI
            rename IntsAre _ _ => hI
            cases hI
            rename IntsAre _ _ => hI
            cases hI
            k_steps
            rename News _ _ _ _ => N₉
            rename Fr _ _ _ _ => F₉
            rename Obj.IsDictOf (intKind PR w) _ _ => hD₉
            have nd := N₉ _ (.head _)
            simp [stored, hne, -Int.add_zero] at hD₉
            have rr := fin (c := 3) nd.1 hD₉ lo (by rw [hc]; rfl) (by decide) (by simp [List.range_succ]) (List.forall_mem_cons.mpr ⟨⟨_, by rw [hc]⟩, List.forall_mem_cons.mpr ⟨⟨_, by rw [hc]⟩, List.forall_mem_cons.mpr ⟨⟨_, by rw [hc]⟩, List.forall_mem_nil _⟩⟩⟩)
            exact hR _ _ _ F₉.keep rr.1 rr.2 (fun a e => by cases e; exact nd.2.2)
          · rw [hc] at hI
            simp only [hc] at F'
            replace hI : IntsAre ys [v + 0, v + 1, v + 2, v + 3] := by simpa [rangeKs, List.range_succ] using hI
            cases hI
            rename IntsAre _ _ => hI
            cases hI
            rename IntsAre _ _ => hI
            cases hI
            rename IntsAre _ _ => hI
            cases hI
            rename IntsAre _ _ => hI
            cases hI
            k_steps
            rename News _ _ _ _ => N₉
            rename Fr _ _ _ _ => F₉
            rename Obj.IsDictOf (intKind PR w) _ _ => hD₉
            have nd := N₉ _ (.head _)
            simp [stored, hne, -Int.add_zero] at hD₉
            have rr := fin (c := 4) nd.1 hD₉ lo (by rw [hc]; rfl) (by decide) (by simp [List.range_succ]) (List.forall_mem_cons.mpr ⟨⟨_, by rw [hc]⟩, List.forall_mem_cons.mpr ⟨⟨_, by rw [hc]⟩, List.forall_mem_cons.mpr ⟨⟨_, by rw [hc]⟩, List.forall_mem_cons.mpr ⟨⟨_, by rw [hc]⟩, List.forall_mem_nil _⟩⟩⟩⟩)
            exact hR _ _ _ F₉.keep rr.1 rr.2 (fun a e => by cases e; exact nd.2.2)
      · refine If_known false ?_ fun tk => ?_
        · k_steps
          all_goals first | exact ⟨rfl, _, rfl⟩ | exact ⟨by simp_all, _, rfl⟩ | (exfalso; omega)
        · rw [if_neg Bool.false_ne_true]
          k_steps
          rename Fr _ _ _ _ => F'
          refine hR _ _ _ F'.keep ?_ ?_ (fun a e => by cases e)
          · unfold rowD; rw [if_neg h0, if_neg h1, if_neg h2, if_neg h3, if_neg hcond]
            exact .int
          · unfold Made; rw [if_neg h0, if_neg h1, if_neg h2, if_neg h3, if_neg hcond]
            exact ⟨_, rfl⟩
end
end Mine

/-! N6 -/
open PyProof.Rows.LCg
set_option maxHeartbeats 1000000
namespace Mine
theorem off1_mem {D : Addr} : ∀ {l : List (Addr × Obj)}, Off1 D l → ∀ p ∈ l, p.1 ≠ D
  | [], _, _, h => nomatch h
  | _ :: _, x, p, h => by
    rcases List.mem_cons.mp h with rfl | h
    · exact x.1
    · exact off1_mem x.2 p h
end Mine

/-! N7 -/
namespace Mine
/-- what is due for a row: the tuple, its places -/
def DueF (h₀ h : Heap) (u : Value) (row : Option (List PyData)) : Prop :=
  ∃ r t y0 y1 ys d ds, u = .ref r ∧ row = some (d :: ds) ∧ h.get? r = some (tupO [y0, y1, .ref t]) ∧ h.get? t = some (tupO ys) ∧ Atm y0 d ∧ Atm y1 (ds.headD (.int 7)) ∧ AllAtm ys (ds.drop 1) ∧ h₀.get? r = none ∧ h₀.get? t = none
theorem ThreeF.due {h₀ h : Heap} {u : Value} {row : Option (List PyData)} (x : ThreeF h₀ h u row) : DueF h₀ h u row := by
  obtain ⟨r, t, vs, d, ds, e1, e2, e3, e4, e5, e6, e7⟩ := x
  match vs, ds, e5 with
  | [y0], [], e5 => exact ⟨r, t, y0, .int 7 258, [], d, [], e1, e2, e3, e4, e5.1, .inl ⟨7, 258, rfl, rfl⟩, trivial, e6, e7⟩
  | y0 :: y1 :: ys, d1 :: ds, e5 => exact ⟨r, t, y0, y1, ys, d, d1 :: ds, e1, e2, e3, e4, e5.1, e5.2.1, e5.2.2, e6, e7⟩
end Mine

/-! N10 -/
namespace Mine
section
variable {w : World} {A : Around} {E : Value → Shared → Prop} {s : Shared} {env : Env} {h₀ : Heap} {L : Addr} {m : Str → Option Value}
/-- a place of a list, read -/
theorem list_place {value slice : Expr} {l : Addr} {items : Array Value} {i : Int} {u : Tok} {x : Value} {Q : Value → Shared → Prop} (hl : s.heap.IsList l items) (h0 : 0 ≤ i) (h1 : i < 2 ^ 63) (hx : items[i.toNat]? = some x) (h : Q x s)
    (hs : subscripted slice false (.ref l) (.int i u) = operate [.ref l, .int i u] (getItem (.ref l) (.int i u))) : wpAny (model PR w) A (subscriptTail value slice (.ref l) (.int i u)) Q E s :=
  tail_any hl.typeIs slot_list_getitem.lookup (wpAny_getItem_list hl h0 h1 hx h) hs
/-- one letter of the four -/
theorem letter_elt {px p0 p1 p2 p3 pl pos : Pos} {k0 k1 k2 k3 : Nat} {i : Nat} {u : Tok} {Q : Value → Shared → Prop} (hi : i < 4)
    (ht : ∀ {s' : Shared} {Q : Value → Shared → Prop}, Kp s.heap s'.heap → Q (.int i u) s' → wpAny (model PR w) A (eval (.Name (Str.ofString "t") px) env) Q E s')
    (hQ : ∀ h' tk tx, Kp s.heap h' → Q (.str ⟨#[97 + i]⟩ tx) { s with heap := h', toks := tk }) :
    wpAny (model PR w) A (eval (.Subscript (.List [.Constant (.str (Str.ofString "a")) k0 p0, .Constant (.str (Str.ofString "b")) k1 p1, .Constant (.str (Str.ofString "c")) k2 p2, .Constant (.str (Str.ofString "d")) k3 p3] pl) (.Name (Str.ofString "t") px) pos) env) Q E s := by
  refine Subscript_ (List_ ?_)
  simp only [starEach, backTo, List.map, Bool.false_eq_true, if_false]
  refine Calls.spliced_cons ?_
  refine Calls.Constant_str ?_
  refine Calls.spliced_cons ?_
  refine Calls.Constant_str ?_
  refine Calls.spliced_cons ?_
  refine Calls.Constant_str ?_
  refine Calls.spliced_cons ?_
  refine Calls.Constant_str ?_
  refine Calls.spliced_nil ?_
  refine wpAny_newObj_type ?_
  have h4 : i = 0 ∨ i = 1 ∨ i = 2 ∨ i = 3 := by omega
  rcases h4 with rfl | rfl | rfl | rfl
  · refine ht (fun b o e => Heap.get?_push_of_some _ e) ?_
    refine list_place (x := .str (Str.ofString "a") _) ⟨_, Heap.get?_push_size _ rfl, rfl, _, rfl⟩ (by omega) (by omega) (by rfl) ?_ (by with_unfolding_all rfl)
    rw [show Str.ofString "a" = ⟨#[97 + 0]⟩ from by decide +kernel]
    exact hQ _ _ _ (fun b o e => Heap.get?_push_of_some _ e)
  · refine ht (fun b o e => Heap.get?_push_of_some _ e) ?_
    refine list_place (x := .str (Str.ofString "b") _) ⟨_, Heap.get?_push_size _ rfl, rfl, _, rfl⟩ (by omega) (by omega) (by rfl) ?_ (by with_unfolding_all rfl)
    rw [show Str.ofString "b" = ⟨#[97 + 1]⟩ from by decide +kernel]
    exact hQ _ _ _ (fun b o e => Heap.get?_push_of_some _ e)
  · refine ht (fun b o e => Heap.get?_push_of_some _ e) ?_
    refine list_place (x := .str (Str.ofString "c") _) ⟨_, Heap.get?_push_size _ rfl, rfl, _, rfl⟩ (by omega) (by omega) (by rfl) ?_ (by with_unfolding_all rfl)
    rw [show Str.ofString "c" = ⟨#[97 + 2]⟩ from by decide +kernel]
    exact hQ _ _ _ (fun b o e => Heap.get?_push_of_some _ e)
  · refine ht (fun b o e => Heap.get?_push_of_some _ e) ?_
    refine list_place (x := .str (Str.ofString "d") _) ⟨_, Heap.get?_push_size _ rfl, rfl, _, rfl⟩ (by omega) (by omega) (by rfl) ?_ (by with_unfolding_all rfl)
    rw [show Str.ofString "d" = ⟨#[97 + 3]⟩ from by decide +kernel]
    exact hQ _ _ _ (fun b o e => Heap.get?_push_of_some _ e)
end
end Mine

/-! N11 -/
namespace Mine
section
variable {prog : Program} {w : World} {A : Around} {s : Shared} {h₀ : Heap} {L : Addr} {m : Str → Option Value} {env : Env}
/-- what a turn leaves: the heap grown, the ledger grown, the invariant one on -/
def TurnEnd (h₀ : Heap) (L : Addr) (h : Heap) (I C D : Addr) (S : List (Addr × Obj) → Prop) (G : List (Addr × Obj) → Prop) (s : Shared) (s₂ : Shared) : Prop :=
  ∃ h' tk add, s₂ = { s with heap := h', toks := tk } ∧ Kp h h' ∧ News h₀ L h' add ∧ Off3 I C D add ∧ S add ∧ G add
/-- the turns of a comprehension, by an invariant -/
theorem comp_turns {elt : Expr} {x : Str} {scope : Scope} {cl : List (Str × Addr)} {S : List (Addr × Obj) → Prop} {P : Nat → Value → Prop} {Fin : List Value → List (Addr × Obj) → Prop}
    (G : Nat → List Value → List (Addr × Obj) → Prop) (n : Nat)
    (step : ∀ j ys news v I oI C oC D m₂ h tk (E' : Value → Shared → Prop), j < n → G j ys news → P j v → NsObj oC m₂ → m₂ x = some v → Fr h₀ L h m → News h₀ L h ((I, oI) :: (C, oC) :: (D, lst ys) :: news) → Off3 I C D news → ((@Ne Nat I C) ∧ (@Ne Nat I D) ∧ (@Ne Nat C D)) →
      wpAny (model prog w) A (eval elt (compEnvC scope cl C env)) (fun y s₂ => TurnEnd h₀ L h I C D S (fun add => G (j + 1) (ys ++ [y]) add) s s₂) E' { s with heap := h, toks := tk })
    (fin : ∀ ys news, G n ys news → Fin ys news) :
    ∀ k i ys news, i + k = n → G i ys news → CompRest prog w A h₀ L m env elt x scope cl s S P Fin k i ys news
  | 0, i, ys, news, hi, g => CompRest.zero (fin _ _ (by have : i = n := by omega
                                                        subst this; exact g))
  | k + 1, i, ys, news, hi, g => CompRest.succ fun v I oI C oC D m₂ h tk E' hP hC hx F N off ne =>
      wpAny_mono (step i ys news v I oI C oC D m₂ h tk E' (by omega) g hP hC hx F N off ne) (fun y s₂ ⟨h', tk', add, e, kp, N', off', hS, g'⟩ => by
        subst e
        refine ⟨h', tk', add, rfl, F.keeps kp, ?_, off', hS, comp_turns G n step fin k (i + 1) _ _ (by omega) g'⟩
        have N₁ := N.grown kp
        intro p hp
        rcases List.mem_cons.mp hp with rfl | hp
        · exact N₁ _ (.head _)
        rcases List.mem_cons.mp hp with rfl | hp
        · exact N₁ _ (.tail _ (.head _))
        rcases List.mem_cons.mp hp with rfl | hp
        · exact N₁ _ (.tail _ (.tail _ (.head _)))
        · exact N' p hp) fun _ _ e => e
end
end Mine

/-! N14 -/
namespace Mine
/-! a comprehension that calls, said over heaps -/
def allN (h₀ h : Heap) (ex : List Addr) : List (Addr × Obj) :=
  (List.range h.objs.size).filterMap fun a => if a ∈ ex then none else match h₀.get? a with
    | some _ => none
    | none => (h.get? a).map fun o => (a, o)
theorem mem_allN {h₀ h : Heap} {ex : List Addr} {a : Addr} {o : Obj} : (a, o) ∈ allN h₀ h ex ↔ a ∉ ex ∧ h₀.get? a = none ∧ h.get? a = some o := by
  unfold allN
  rw [List.mem_filterMap]
  constructor
  · rintro ⟨b, hb, e⟩
    by_cases hm : b ∈ ex
    · rw [if_pos hm] at e; cases e
    · rw [if_neg hm] at e
      cases h0 : h₀.get? b with
      | some o' => rw [h0] at e; cases e
      | none =>
        rw [h0] at e
        cases h1 : h.get? b with
        | none => simp [h1] at e
        | some o' =>
          simp only [h1, Option.map_some, Option.some.injEq, Prod.mk.injEq] at e
          obtain ⟨rfl, rfl⟩ := e
          exact ⟨hm, h0, h1⟩
  · rintro ⟨h1, h2, h3⟩
    refine ⟨a, List.mem_range.mpr (Heap.lt_size h3), ?_⟩
    rw [if_neg h1, h2]
    simp [h3]
theorem allN_news {h₀ h : Heap} {ex : List Addr} {L : Addr} (hL : L ∈ ex) : News h₀ L h (allN h₀ h ex) := fun p hp => by
  obtain ⟨a, o⟩ := p
  obtain ⟨h1, h2, h3⟩ := mem_allN.mp hp
  exact ⟨h3, fun q => h1 (by have q' : a = L := q; rw [q']; exact hL), h2⟩
section
variable {prog : Program} {w : World} {A : Around} {E : Value → Shared → Prop} {s : Shared} {h₀ : Heap} {L : Addr} {m : Str → Option Value} {env : Env}
def CompG (h₀ : Heap) (L : Addr) (hs : Heap) (_ax : Addr) (its : Array Value) (P : Heap → Heap → Value → Value → Prop) (j : Nat) (ys : List Value) (news : List (Addr × Obj)) : Prop :=
  ys.length = j ∧ (∀ p ∈ allN h₀ hs [L], p ∈ news) ∧ ∀ h, Kp h₀ h → News h₀ L h news → ∀ (i : Nat) v y, its[i]? = some v → ys[i]? = some y → P hs h v y
theorem comp_but {hs h : Heap} {news : List (Addr × Obj)} (F : Fr h₀ L hs m) (sub : ∀ p ∈ allN h₀ hs [L], p ∈ news) (k : Kp h₀ h) (N : News h₀ L h news) : But L hs h := fun b o hb e => by
  cases q : h₀.get? b with
  | some o' => have := F.keep _ _ q; rw [e] at this; cases this; exact k _ _ q
  | none => exact (N _ (sub _ (mem_allN.mpr ⟨by simpa using hb, q, e⟩))).1
theorem comp_src {hs : Heap} {ax : Addr} {its : Array Value} {news : List (Addr × Obj)} (F : Fr h₀ L hs m) (hl : hs.IsList ax its) (hax : ax ≠ L) (sub : ∀ p ∈ allN h₀ hs [L], p ∈ news) : SrcAt h₀ ax its news := by
  obtain ⟨o, e, r⟩ := hl
  cases q : h₀.get? ax with
  | some o' => have := F.keep _ _ q; rw [e] at this; cases this; exact .inl ⟨o, q, r⟩
  | none => exact .inr ⟨o, sub _ (mem_allN.mpr ⟨by simpa using hax, q, e⟩), r⟩
theorem comp_heap {elt : Expr} {x : Str} {scope : Scope} {cl : List (Str × Addr)} {ax : Addr} {its : Array Value} {Fin : Shared → List Value → List (Addr × Obj) → Prop} (P : Heap → Heap → Value → Value → Prop)
    (stable : ∀ hT h h' v y, P hT h v y → (∀ b o, hT.get? b = none → h.get? b = some o → h'.get? b = some o) → P hT h' v y)
    (older : ∀ hT h₁ h v y, P hT h v y → (∀ a, hT.get? a = none → h₁.get? a = none) → P h₁ h v y)
    (hh : A.handled = none) (F : Fr h₀ L s.heap m) (hl : s.heap.IsList ax its) (hax : ax ≠ L) (hsz : its.size ≤ sizeLine)
    (turn : ∀ v h tk C oC m₂ (E' : Value → Shared → Prop), v ∈ its.toList → NsObj oC m₂ → m₂ x = some v → Fr h₀ L h m → But L s.heap h → News h₀ L h [(C, oC)] →
      wpAny (model prog w) A (eval elt (compEnvC scope cl C env)) (fun y s₂ => ∃ h' tk', s₂ = { s with heap := h', toks := tk' } ∧ Kp h h' ∧ P h h' v y) E' { s with heap := h, toks := tk })
    (fin : ∀ g ys news, CompG h₀ L s.heap ax its P its.size ys news → Fin { s with heap := g } ys news) :
    CompSrc prog w A h₀ L m env elt x scope cl Fin (.ref ax) s := by
  have sub0 : ∀ p ∈ allN h₀ s.heap [L], p ∈ allN h₀ s.heap [L] := fun _ h => h
  refine .inl ⟨ax, its, allN h₀ s.heap [L], rfl, hh, F, allN_news (by simp), comp_src F hl hax sub0, hsz, ?_⟩
  rintro _ ⟨g, rfl⟩
  refine comp_turns (CompG h₀ L s.heap ax its P) its.size ?_ (fun ys news G => fin g ys news G) _ 0 [] _ (by omega) ⟨rfl, sub0, fun h k N i v y _ e => by simp at e⟩
  intro j ys news v I oI C oC D m₂ h tk E' hj G hv hC hx F' N off ne
  obtain ⟨g1, g2, g3⟩ := G
  have N0 : News h₀ L h news := fun p hp => N p (.tail _ (.tail _ (.tail _ hp)))
  have off3 := off.mem
  have hvm : v ∈ its.toList := by
    have hv' : its.toList[j]? = some v := by rw [Array.getElem?_toList]; exact hv
    exact List.mem_of_getElem? hv'
  refine wpAny_mono (turn v h tk C oC m₂ E' hvm hC hx F' (comp_but F g2 F'.keep N0) (fun p hp => by rw [List.mem_singleton.mp hp]; exact N _ (.tail _ (.head _)))) (fun y s₂ hy => ?_) fun _ _ e => e
  obtain ⟨h', tk', rfl, kp, hP⟩ := hy
  have sub' : ∀ p ∈ news, p ∈ allN h₀ h' [L, I, C, D] := fun p hp => by
    obtain ⟨a, o⟩ := p
    have n := N0 _ hp
    have o3 := off3 _ hp
    refine mem_allN.mpr ⟨?_, n.2.2, kp _ _ n.1⟩
    simp only [List.mem_cons, List.not_mem_nil, or_false, not_or]
    exact ⟨n.2.1, o3.1, o3.2.1, o3.2.2⟩
  have hsub : ∀ p ∈ allN h₀ s.heap [L], p ∈ allN h₀ h' [L, I, C, D] := fun p hp => sub' p (g2 p hp)
  refine ⟨h', tk', allN h₀ h' [L, I, C, D], rfl, kp, allN_news (by simp), Off3.of (fun p hp => ?_), comp_src F hl hax hsub, by rw [List.length_append, List.length_singleton, g1], hsub, ?_⟩
  · obtain ⟨a, o⟩ := p
    have := (mem_allN.mp hp).1
    simp only [List.mem_cons, List.not_mem_nil, or_false, not_or] at this
    exact ⟨this.2.1, this.2.2.1, this.2.2.2⟩
  · intro h'' k'' N'' i v' y' hv' hy'
    by_cases hi : i < j
    · rw [List.getElem?_append_left (by omega)] at hy'
      exact g3 h'' k'' (fun p hp => N'' p (sub' p hp)) i v' y' hv' hy'
    · have hij : i = j := by
        have := (List.getElem?_eq_some_iff.mp hy').1
        rw [List.length_append, List.length_singleton] at this
        omega
      subst hij
      rw [← g1] at hy'
      simp only [List.getElem?_concat_length, Option.some.injEq] at hy'
      subst hy'
      rw [hv] at hv'
      cases hv'
      refine older h s.heap h'' v y (stable h h' h'' v y hP fun b o hb e => ?_) (fun a ha => ?_)
      · have nb : ∀ {q : Addr} {oq : Obj}, h.get? q = some oq → b ≠ q := fun e' q' => by rw [← q', hb] at e'; cases e'
        obtain ⟨oL, _, _, hoL, _⟩ := F'.ns
        refine (N'' (b, o) (mem_allN.mpr ⟨?_, ?_, e⟩)).1
        · simp only [List.mem_cons, List.not_mem_nil, or_false, not_or]
          exact ⟨nb hoL, nb (N _ (.head _)).1, nb (N _ (.tail _ (.head _))).1, nb (N _ (.tail _ (.tail _ (.head _)))).1⟩
        · cases q : h₀.get? b with
          | none => rfl
          | some o' => have := F'.keep _ _ q; rw [hb] at this; cases this
      · cases q : s.heap.get? a with
        | none => rfl
        | some o' =>
          exfalso
          obtain ⟨oL, _, _, hoL, _⟩ := F'.ns
          by_cases haL : a = L
          · rw [haL, show h.get? L = some oL from hoL] at ha; cases ha
          · have := comp_but F g2 F'.keep N0 a o' haL q
            rw [ha] at this; cases this
theorem comp_end {hs h : Heap} {ax D : Addr} {its : Array Value} {P : Heap → Heap → Value → Value → Prop} {ys : List Value} {news : List (Addr × Obj)} {m' : Str → Option Value} (F : Fr h₀ L hs m) (G : CompG h₀ L hs ax its P its.size ys news) (F' : Fr h₀ L h m') (N : News h₀ L h ((D, lst ys) :: news)) (o1 : Off1 D news) :
    But L hs h ∧ hs.get? D = none ∧ D ≠ L ∧ h.get? D = some (lst ys) ∧ ys.length = its.size ∧ ∀ (i : Nat) v y, its[i]? = some v → ys[i]? = some y → P hs h v y := by
  obtain ⟨g1, g2, g3⟩ := G
  have N0 : News h₀ L h news := fun p hp => N p (.tail _ hp)
  have nD := N _ (.head _)
  refine ⟨comp_but F g2 F'.keep N0, ?_, nD.2.1, nD.1, g1, fun i v y a b => g3 h F'.keep N0 i v y a b⟩
  cases q : hs.get? D with
  | none => rfl
  | some o => exact absurd rfl (off1_mem o1 _ (g2 _ (mem_allN.mpr ⟨by simpa using nD.2.1, nD.2.2, q⟩)))
end
end Mine

/-! N15 -/
namespace Mine
section
variable {w : World} {mean : ExcName → Option Value} {mg mb : Str → Option Value} {A : Around} {E : Value → Shared → Prop} {s : Shared} {h₀ : Heap} {L : Addr} {m : Str → Option Value} {env : Env}
/-- an element that calls a def of the top with the comprehension's own name -/
theorem elt_call {f C : Addr} {nm x : Str} {p1 p2 p3 : Pos} {scope : Scope} {cl : List (Str × Addr)} {oC : Obj} {m₂ : Str → Option Value} {v : Value} {Q : Value → Shared → Prop}
    (F : Fr h₀ L s.heap m) (b : Bs w mean mg mb h₀) (N : News h₀ L s.heap [(C, oC)]) (hC : NsObj oC m₂) (hx : m₂ x = some v)
    (e : nsIn (Mine.hd.heap_39 w.params) mainGlobals nm = some (some (.ref f))) (hk : keepIn (Mine.hd.heap_39 w.params) (.ref f) = true) (hg : env.globals = mainGlobals)
    (h1 : (compEnvC scope cl C env).scope.kind = .function) (h2 : (compEnvC scope cl C env).kindOf nm = some .globalImplicit) (h3 : (compEnvC scope cl C env).kindOf x = some .local)
    (d1 : (nm == ("__debug__" : Str)) = false) (d2 : (x == ("__debug__" : Str)) = false)
    (h : codeAny (model PR w) A (.call (.ref f) ⟨[v], []⟩) (fun r s' => match r with | .ok (.ret v) => Q v s' | .ok _ => False | .error e => E e s') s) :
    wpAny (model PR w) A (eval (.Call (.Name nm p1) [.Name x p2] [] p3) (compEnvC scope cl C env)) Q E s := by
  rw [arm_eval_Call_Name']
  refine wpAny_bind (LCgL.ld_global F b.K b.T e ?_ hg h1 h2 d1)
  refine callWith_K b.K hk ?_
  refine Calls.spliced_cons (LCgL.ld_own N (.head _) hC hx ?_ h1 h3 d2)
  exact Calls.spliced_nil ⟨b.K.keeps F.keep, wpAny_call h⟩
/-- what a call of f gives, told of every state -/
def Gives (w : World) (mean : ExcName → Option Value) (mg mb : Str → Option Value) (A : Around) (f : Addr) (P : Heap → Heap → Value → Value → Prop) (v : Value) : Prop :=
  ∀ (s' : Shared) (R : Result → Shared → Prop), Bs w mean mg mb s'.heap → (∀ h' tk u, Kp s'.heap h' → P s'.heap h' v u → R (.ok (.ret u)) { s' with heap := h', toks := tk }) → codeAny (model PR w) A (.call (.ref f) ⟨[v], []⟩) R s'
structure Lasts (P : Heap → Heap → Value → Value → Prop) : Prop where
  stable : ∀ hT h h' v y, P hT h v y → (∀ b o, hT.get? b = none → h.get? b = some o → h'.get? b = some o) → P hT h' v y
  older : ∀ hT h₁ h v y, P hT h v y → (∀ a, hT.get? a = none → h₁.get? a = none) → P h₁ h v y
section
variable {f ax : Addr} {nm x : Str} {p1 p2 p3 px : Pos} {scope : Scope} {cl : List (Str × Addr)} {iter : Expr} {pos : Pos} {its : Array Value} {P : Heap → Heap → Value → Value → Prop}
theorem call_src {Fin : Shared → List Value → List (Addr × Obj) → Prop} (lasts : Lasts P) (b : Bs w mean mg mb h₀) (hh : A.handled = none) (F : Fr h₀ L s.heap m) (hl : s.heap.IsList ax its) (hax : ax ≠ L) (hsz : its.size ≤ sizeLine)
    (gives : ∀ v ∈ its.toList, Gives w mean mg mb A f P v)
    (e : nsIn (Mine.hd.heap_39 w.params) mainGlobals nm = some (some (.ref f))) (hk : keepIn (Mine.hd.heap_39 w.params) (.ref f) = true) (hg : env.globals = mainGlobals)
    (h1 : ∀ C, (compEnvC scope cl C env).scope.kind = .function) (h2 : ∀ C, (compEnvC scope cl C env).kindOf nm = some .globalImplicit) (h3 : ∀ C, (compEnvC scope cl C env).kindOf x = some .local)
    (d1 : (nm == ("__debug__" : Str)) = false) (d2 : (x == ("__debug__" : Str)) = false)
    (fin : ∀ g ys news, CompG h₀ L s.heap ax its P its.size ys news → Fin { s with heap := g } ys news) :
    CompSrc PR w A h₀ L m env (.Call (.Name nm p1) [.Name x p2] [] p3) x scope cl Fin (.ref ax) s := by
  refine comp_heap P lasts.stable lasts.older hh F hl hax hsz (fun v h tk C oC m₂ E' hv hC hx F' hb N => ?_) fin
  exact elt_call F' b N hC hx e hk hg (h1 C) (h2 C) (h3 C) d1 d2 (gives v hv { s with heap := h, toks := tk } _ (b.keeps F'.keep) fun h' tk' u kp hP => ⟨h', tk', rfl, kp, hP⟩)
theorem call_comp {Q : Value → Shared → Prop} (lasts : Lasts P) (b : Bs w mean mg mb h₀) (hh : A.handled = none) (F : Fr h₀ L s.heap m) (hl : s.heap.IsList ax its) (hax : ax ≠ L) (hsz : its.size ≤ sizeLine)
    (gives : ∀ v ∈ its.toList, Gives w mean mg mb A f P v)
    (hiter : ∀ {Q : Value → Shared → Prop}, Q (.ref ax) s → wpAny (model PR w) A (eval iter env) Q E s)
    (hQ : ∀ D h' tk ys, Fr h₀ L h' m → But L s.heap h' → s.heap.get? D = none → D ≠ L → h'.get? D = some (lst ys) → ys.length = its.size → (∀ (i : Nat) v y, its[i]? = some v → ys[i]? = some y → P s.heap h' v y) → Q (.ref D) { s with heap := h', toks := tk })
    (e : nsIn (Mine.hd.heap_39 w.params) mainGlobals nm = some (some (.ref f))) (hk : keepIn (Mine.hd.heap_39 w.params) (.ref f) = true) (hg : env.globals = mainGlobals)
    (h1 : ∀ C, (compEnvC scope cl C env).scope.kind = .function) (h2 : ∀ C, (compEnvC scope cl C env).kindOf nm = some .globalImplicit) (h3 : ∀ C, (compEnvC scope cl C env).kindOf x = some .local)
    (hclos : closureFor scope env = pure cl) (hcell : ∀ y ∈ scope.names, y.2 ≠ .cell) (hkind : scope.kind = .function)
    (hnames : ∀ y ∈ scope.names, y.2 = .local → scope.names.lookup y.1 = some .local) (hx : scope.names.lookup x = some .local)
    (d1 : (nm == ("__debug__" : Str)) = false := by decide) (d2 : (x == ("__debug__" : Str)) = false := by decide)
    (hs : ∀ x, foldedSetIterable iter env x = pure x := by intro _; rfl) :
    wpAny (model PR w) A (eval (.ListComp (.Call (.Name nm p1) [.Name x p2] [] p3) [⟨.Name x px, iter, [], 0⟩] scope pos) env) Q E s := by
  refine LCg.ListComp_U F hclos hcell hkind hnames hx (hiter ?_) hs
  refine call_src lasts b hh F hl hax hsz gives e hk hg h1 h2 h3 d1 d2 fun g ys news G D h' tk F' N' o1 => ?_
  obtain ⟨c1, c2, c3, c4, c5, c6⟩ := comp_end F G F' N' o1
  exact hQ D h' tk ys F' c1 c2 c3 c4 c5 c6
theorem call_comp_assign {y : Str} {py spos : Pos} {Q : Flow → Shared → Prop} (lasts : Lasts P) (b : Bs w mean mg mb h₀) (hh : A.handled = none) (F : Fr h₀ L s.heap m) (hl : s.heap.IsList ax its) (hax : ax ≠ L) (hsz : its.size ≤ sizeLine)
    (gives : ∀ v ∈ its.toList, Gives w mean mg mb A f P v)
    (hiter : ∀ {Q : Value → Shared → Prop}, Q (.ref ax) s → wpAny (model PR w) A (eval iter env) Q E s)
    (hQ : ∀ D h' tk ys, Fr h₀ L h' (fun z => if z = y then some (.ref D) else m z) → But L s.heap h' → s.heap.get? D = none → D ≠ L → h'.get? D = some (lst ys) → ys.length = its.size → (∀ (i : Nat) v y, its[i]? = some v → ys[i]? = some y → P s.heap h' v y) → Q .next { s with heap := h', toks := tk })
    (e : nsIn (Mine.hd.heap_39 w.params) mainGlobals nm = some (some (.ref f))) (hk : keepIn (Mine.hd.heap_39 w.params) (.ref f) = true) (hg : env.globals = mainGlobals)
    (h1 : ∀ C, (compEnvC scope cl C env).scope.kind = .function) (h2 : ∀ C, (compEnvC scope cl C env).kindOf nm = some .globalImplicit) (h3 : ∀ C, (compEnvC scope cl C env).kindOf x = some .local)
    (hLe : env.locals = L) (hsw : swapsWith (.ListComp (.Call (.Name nm p1) [.Name x p2] [] p3) [⟨.Name x px, iter, [], 0⟩] scope pos) (some (.Name y py)) spos.line env = pure true)
    (hclos : closureFor scope env = pure cl) (hcell : ∀ y ∈ scope.names, y.2 ≠ .cell) (hkind : scope.kind = .function)
    (hnames : ∀ y ∈ scope.names, y.2 = .local → scope.names.lookup y.1 = some .local) (hx : scope.names.lookup x = some .local)
    (hy : env.kindOf y = some .local) (hp : (env.scope.kind == .class || (env.scope.kind == .module && env.locals != env.globals)) = false)
    (d1 : (nm == ("__debug__" : Str)) = false := by decide) (d2 : (x == ("__debug__" : Str)) = false := by decide)
    (hs : ∀ x, foldedSetIterable iter env x = pure x := by intro _; rfl) :
    wpAny (model PR w) A (exec (.Assign [.Name y py] (.ListComp (.Call (.Name nm p1) [.Name x p2] [] p3) [⟨.Name x px, iter, [], 0⟩] scope pos) spos) env) Q E s := by
  refine LCg.Assign_ListComp_U F hLe hsw hclos hcell hkind hnames hx hy hp (hiter ?_) hs
  refine call_src lasts b hh F hl hax hsz gives e hk hg h1 h2 h3 d1 d2 fun g ys news G D h' tk F' N' o1 => ?_
  obtain ⟨c1, c2, c3, c4, c5, c6⟩ := comp_end F G F' N' o1
  exact hQ D h' tk ys F' c1 c2 c3 c4 c5 c6
end
end
end Mine

/-! NB -/
namespace Mine
/-! evaluating names and calls in a frame -/
section
variable {w : World} {mean : ExcName → Option Value} {mg mb : Str → Option Value} {A : Around} {E : Value → Shared → Prop} {s : Shared} {env : Env}
theorem ld_glob {nm : Str} {p : Pos} {v : Value} {Q : Value → Shared → Prop} (b : Bs w mean mg mb s.heap) (e : nsIn (Mine.hd.heap_39 w.params) mainGlobals nm = some (some v)) (h : Q v s) (hg : env.globals = mainGlobals := by rfl)
    (hk : env.scope.kind = .function := by rfl) (hx : env.kindOf nm = some .globalImplicit := by rfl) (hd : (nm == ("__debug__" : Str)) = false := by decide) : wpAny (model PR w) A (eval (.Name nm p) env) Q E s :=
  Name_function_global hk hx (loadGlobal_global (show s.heap.Ns env.globals mg from hg ▸ b.T.g) (mg_of b.K b.T.g e) h) hd
theorem ld_blt {nm : Str} {p : Pos} {v : Value} {Q : Value → Shared → Prop} (b : Bs w mean mg mb s.heap) (e : nsIn (Mine.hd.heap_39 w.params) mainGlobals nm = some none) (hv : bootBuiltins nm = some v) (hn : nm ≠ "__name__") (h : Q v s) (hg : env.globals = mainGlobals := by rfl) (hb : env.builtins = builtinsNs := by rfl)
    (hk : env.scope.kind = .function := by rfl) (hx : env.kindOf nm = some .globalImplicit := by rfl) (hd : (nm == ("__debug__" : Str)) = false := by decide) : wpAny (model PR w) A (eval (.Name nm p) env) Q E s :=
  Name_function_global hk hx (loadGlobal_builtin (show s.heap.Ns env.globals mg from hg ▸ b.T.g) (mg_none_of b.K b.T.g e) (show s.heap.Ns env.builtins mb from hb ▸ b.T.b) ((b.T.builtins nm hn).trans hv) h) hd
theorem ld_loc {nm : Str} {p : Pos} {v : Value} {m : Str → Option Value} {Q : Value → Shared → Prop} (hn : s.heap.Ns env.locals m) (hv : m nm = some v) (h : Q v s) (hk : env.scope.kind = .function := by rfl) (hx : env.kindOf nm = some .local := by rfl) (hd : (nm == ("__debug__" : Str)) = false := by decide) :
    wpAny (model PR w) A (eval (.Name nm p) env) Q E s := wpAny_Name (wpAny_loadName_local hk hx hn hv h) hd
theorem ld_cel {nm : Str} {p : Pos} {v : Value} {c : Addr} {Q : Value → Shared → Prop} (hc : env.cells.lookup nm = some c) (hv : s.heap.IsCell c (some v)) (h : Q v s) (hk : env.scope.kind = .function := by rfl) (hx : env.kindOf nm = some .cell := by rfl) (hd : (nm == ("__debug__" : Str)) = false := by decide) :
    wpAny (model PR w) A (eval (.Name nm p) env) Q E s := wpAny_Name (wpAny_loadName_cell hk hx hc hv h) hd
theorem A_call1 {f : Addr} {nm : Str} {arg : Expr} {p pos : Pos} {Q : Value → Shared → Prop} (b : Bs w mean mg mb s.heap) (e : nsIn (Mine.hd.heap_39 w.params) mainGlobals nm = some (some (.ref f))) (hk : keepIn (Mine.hd.heap_39 w.params) (.ref f) = true)
    (h : wpAny (model PR w) A (eval arg env) (fun v s₁ => (Mine.hd.heap_39 w.params).In s₁.heap ∧ codeAny (model PR w) A (.call (.ref f) ⟨[v], []⟩) (fun r s' => match r with | .ok (.ret v) => Q v s' | .ok _ => False | .error e => E e s') s₁) E s)
    (hg : env.globals = mainGlobals := by rfl) (hk' : env.scope.kind = .function := by rfl) (hx : env.kindOf nm = some .globalImplicit := by rfl) (hd : (nm == ("__debug__" : Str)) = false := by decide) (hst : starEach [arg] env = [(false, eval arg env)] := by rfl) :
    wpAny (model PR w) A (eval (.Call (.Name nm p) [arg] [] pos) env) Q E s := by
  rw [arm_eval_Call_Name']
  refine wpAny_bind (ld_glob b e ?_ hg hk' hx hd)
  refine callWith_K (e := arg) (rest := []) b.K hk ?_ (by rw [hst]; rfl)
  rw [hst]
  refine Calls.spliced_cons (wpAny_mono h (fun v s₁ h₁ => ?_) fun _ _ x => x)
  exact Calls.spliced_nil ⟨h₁.1, wpAny_call h₁.2⟩
theorem A_blt1 {id : String} {nm : Str} {arg : Expr} {p pos : Pos} {Q : Value → Shared → Prop} (b : Bs w mean mg mb s.heap) (e : nsIn (Mine.hd.heap_39 w.params) mainGlobals nm = some none) (hv : bootBuiltins nm = some (.builtin id)) (hn : nm ≠ "__name__")
    (h : wpAny (model PR w) A (eval arg env) (fun v s₁ => wpAny (model PR w) A (call (.builtin id) [v]) Q E s₁) E s)
    (hg : env.globals = mainGlobals := by rfl) (hb : env.builtins = builtinsNs := by rfl) (hk' : env.scope.kind = .function := by rfl) (hx : env.kindOf nm = some .globalImplicit := by rfl) (hd : (nm == ("__debug__" : Str)) = false := by decide) (hst : starEach [arg] env = [(false, eval arg env)] := by rfl) :
    wpAny (model PR w) A (eval (.Call (.Name nm p) [arg] [] pos) env) Q E s := by
  rw [arm_eval_Call_Name']
  refine wpAny_bind (ld_blt b e hv hn ?_ hg hb hk' hx hd)
  rw [hst]
  refine Calls.callWith_builtin rfl (Calls.evalArgs_plain (Calls.spliced_cons (wpAny_mono h (fun v s₁ h₁ => ?_) fun _ _ x => x)))
  exact Calls.spliced_nil h₁
theorem A_type1 {T : String} {nm : Str} {arg : Expr} {p pos : Pos} {Q : Value → Shared → Prop} (b : Bs w mean mg mb s.heap) (e : nsIn (Mine.hd.heap_39 w.params) mainGlobals nm = some none) (hv : bootBuiltins nm = some (.type T)) (hn : nm ≠ "__name__")
    (h : wpAny (model PR w) A (eval arg env) (fun v s₁ => wpAny (model PR w) A (call (.type T) [v]) Q E s₁) E s)
    (hg : env.globals = mainGlobals := by rfl) (hb : env.builtins = builtinsNs := by rfl) (hk' : env.scope.kind = .function := by rfl) (hx : env.kindOf nm = some .globalImplicit := by rfl) (hd : (nm == ("__debug__" : Str)) = false := by decide) (hst : starEach [arg] env = [(false, eval arg env)] := by rfl) :
    wpAny (model PR w) A (eval (.Call (.Name nm p) [arg] [] pos) env) Q E s := by
  rw [arm_eval_Call_Name']
  refine wpAny_bind (ld_blt b e hv hn ?_ hg hb hk' hx hd)
  rw [hst]
  refine callWith_of (P := fun _ => True) rfl (fun _ _ => ⟨.machine, .inr (.inl rfl), Looks.of_pure rfl⟩) (Calls.evalArgs_plain (Calls.spliced_cons (wpAny_mono h (fun v s₁ h₁ => ?_) fun _ _ x => x)))
  exact Calls.spliced_nil ⟨trivial, h₁⟩
theorem new_list {vs : List Value} {Q : Value → Shared → Prop} (h : ∀ h', Kp s.heap h' → ∀ a, s.heap.get? a = none → h'.get? a = some (listO vs.toArray 0) → Q (.ref a) { s with heap := h' }) (hsz : vs.length ≤ 64 := by simp) : wpAny (model PR w) A (newList vs) Q E s :=
  wpAny_newList (h _ (fun b o e => Heap.get?_push_of_some _ e) _ (Heap.get?_none_of_le (Nat.le_refl _)) (Heap.get?_push_size _ rfl)) (by rw [sizeLine_eq]; omega)
theorem tuple_list {b : Addr} {its : Array Value} {Q : Value → Shared → Prop} (hl : s.heap.IsList b its) (hsz : its.size ≤ 64)
    (hQ : ∀ h' t, Kp s.heap h' → s.heap.get? t = none → h'.get? t = some (tupO its.toList) → Q (.ref t) { s with heap := h' }) : wpAny (model PR w) A (call (.type "tuple") [.ref b]) Q E s := by
  obtain ⟨o, ho, hc, k, hd⟩ := hl
  refine callType_new F.called_tuple (by decide) (F.typeCall_tuple_1 _) (F.newCall_tuple_1 _) (fun obj => F.args_object_init_2 obj _) F.entry_tuple_new
    (meets_tuple_new (v := .ref b) (T := "list") (fun vs s' => ∃ h', s' = { s with heap := h' } ∧ Kp s.heap h' ∧ vs = its.toList) (.inl rfl)) ⟨⟨o, ho, hc⟩, fun prog w Q E k => wpAny_collect_seq (hsz := by rw [sizeLine_eq]; omega) b (.inl rfl) ho hc hd fun h' kp => k _ _ ⟨h', rfl, kp, rfl⟩, fun vs s' q => ?_⟩
  obtain ⟨h', rfl, k1, rfl⟩ := q
  have hn : s.heap.get? h'.objs.size = none := by
    cases q : s.heap.get? h'.objs.size with
    | none => rfl
    | some o => exact absurd (Heap.lt_size (k1 _ _ q)) (Nat.lt_irrefl _)
  exact ⟨by rw [Array.length_toList, sizeLine_eq]; omega, ⟨_, Heap.get?_push_size _ rfl, rfl⟩, hQ _ _ (fun b o e => Heap.get?_push_of_some _ (k1 b o e)) hn (Heap.get?_push_size _ rfl)⟩
end
end Mine

/-! NC -/
namespace Mine
/-! the return of _law_due, once for all kinds of things -/
section
variable {w : World} {mean : ExcName → Option Value} {mg mb : Str → Option Value} {A : Around} {E : Value → Shared → Prop} {s : Shared} {env : Env}
theorem A_type2 {T : String} {nm : Str} {a1 a2 : Expr} {p pos : Pos} {Q : Value → Shared → Prop} (b : Bs w mean mg mb s.heap) (e : nsIn (Mine.hd.heap_39 w.params) mainGlobals nm = some none) (hv : bootBuiltins nm = some (.type T)) (hn : nm ≠ "__name__")
    (h : wpAny (model PR w) A (eval a1 env) (fun v s₁ => wpAny (model PR w) A (eval a2 env) (fun u s₂ => wpAny (model PR w) A (call (.type T) [v, u]) Q E s₂) E s₁) E s)
    (hg : env.globals = mainGlobals) (hb : env.builtins = builtinsNs) (hk' : env.scope.kind = .function) (hx : env.kindOf nm = some .globalImplicit) (hd : (nm == ("__debug__" : Str)) = false)
    (hst : backTo pos (starEach [a1, a2] env) = [(false, eval a1 env), (false, eval a2 env)]) :
    wpAny (model PR w) A (eval (.Call (.Name nm p) [a1, a2] [] pos) env) Q E s := by
  rw [arm_eval_Call_Name']
  refine wpAny_bind (ld_blt b e hv hn ?_ hg hb hk' hx hd)
  rw [hst]
  refine callWith_of (P := fun _ => True) rfl (fun _ _ => ⟨.machine, .inr (.inl rfl), Looks.of_pure rfl⟩) (Calls.evalArgs_plain (Calls.spliced_cons (wpAny_mono h (fun v s₁ h₁ => Calls.spliced_cons (wpAny_mono h₁ (fun u s₂ h₂ => ?_) fun _ _ x => x)) fun _ _ x => x)))
  exact Calls.spliced_nil ⟨trivial, h₂⟩
end
theorem allAtm_at : ∀ {vs : List Value} {ds : List PyData}, AllAtm vs ds → ∀ (i : Nat) v, vs[i]? = some v → ∃ d, ds[i]? = some d ∧ Atm v d
  | _ :: _, d :: _, h, 0, v, e => by
    simp only [List.getElem?_cons_zero, Option.some.injEq] at e
    subst e
    exact ⟨d, rfl, h.1⟩
  | _ :: _, _ :: _, h, i + 1, v, e => by
    obtain ⟨d, e1, e2⟩ := allAtm_at h.2 i v (by simpa using e)
    exact ⟨d, by simpa using e1, e2⟩
theorem take_more {α : Type} {l : List α} {j : Nat} {y : α} (h : l[j]? = some y) : l.take (j + 1) = l.take j ++ [y] := by
  rw [List.take_add_one, h]; rfl
section
variable {w : World} {mean : ExcName → Option Value} {mg mb : Str → Option Value} {A : Around} {E : Value → Shared → Prop} {s : Shared} {h₀ : Heap} {L : Addr} {m : Str → Option Value} {env : Env}
def TailG (h₀ : Heap) (L : Addr) (hs : Heap) (ys : List Value) (j : Nat) (zs : List Value) (news : List (Addr × Obj)) : Prop :=
  zs = (ys.drop 2).take j ∧ ∀ p ∈ allN h₀ hs [L], p ∈ news
/-- [things[t] for t in range(2, count)] -/
theorem tail_comp {ct D : Addr} {ys : List Value} {tc : Tok} {k5 : Nat} {r2 r3 r4 r5 r6 r7 r8 r9 r10 : Pos} {scope : Scope} {cl : List (Str × Addr)} {Q : Value → Shared → Prop}
    (b : Bs w mean mg mb h₀) (hh : A.handled = none) (F : Fr h₀ L s.heap m) (hD : s.heap.IsList D ys.toArray) (hDL : D ≠ L) (hc : s.heap.IsCell ct (some (.ref D))) (hcL : ct ≠ L) (h4 : ys.length ≤ 4) (hm : m (Str.ofString "count") = some (.int ys.length tc))
    (hQ : ∀ D₂ h' tk, Fr h₀ L h' m → But L s.heap h' → h'.get? D₂ = some (lst (ys.drop 2)) → Q (.ref D₂) { s with heap := h', toks := tk })
    (e : nsIn (Mine.hd.heap_39 w.params) mainGlobals (Str.ofString "range") = some none) (hv : bootBuiltins (Str.ofString "range") = some (.type "range")) (hLe : env.locals = L)
    (hg : env.globals = mainGlobals) (hb : env.builtins = builtinsNs) (hk' : env.scope.kind = .function) (hx1 : env.kindOf (Str.ofString "range") = some .globalImplicit) (hx2 : env.kindOf (Str.ofString "count") = some .local)
    (hst : backTo r9 (starEach [.Constant (.int 2) k5 r7, .Name (Str.ofString "count") r8] env) = [(false, eval (.Constant (.int 2) k5 r7) env), (false, eval (.Name (Str.ofString "count") r8) env)])
    (hcl : cl.lookup (Str.ofString "things") = some ct) (h1 : ∀ C, (compEnvC scope cl C env).scope.kind = .function) (h2 : ∀ C, (compEnvC scope cl C env).kindOf (Str.ofString "things") = some .cell) (h3 : ∀ C, (compEnvC scope cl C env).kindOf (Str.ofString "t") = some .local)
    (hclos : closureFor scope env = pure cl) (hcell : ∀ y ∈ scope.names, y.2 ≠ .cell) (hkind : scope.kind = .function)
    (hnames : ∀ y ∈ scope.names, y.2 = .local → scope.names.lookup y.1 = some .local) (hx : scope.names.lookup (Str.ofString "t") = some .local) :
    wpAny (model PR w) A (eval (.ListComp (.Subscript (.Name (Str.ofString "things") r2) (.Name (Str.ofString "t") r3) r4) [⟨.Name (Str.ofString "t") r5, .Call (.Name (Str.ofString "range") r6) [.Constant (.int 2) k5 r7, .Name (Str.ofString "count") r8] [] r9, [], 0⟩] scope r10) env) Q E s := by
  subst hLe
  refine LCg.ListComp_U F hclos hcell hkind hnames hx ?_ (by intro _; rfl)
  refine A_type2 (b.keeps F.keep) e hv (by decide) (wpAny_Constant_int (wpAny_Name (wpAny_loadName_local hk' hx2 F.ns hm ?_))) hg hb hk' hx1 (by decide) hst
  refine PySem.call_range_2 ?_
  generalize hH : Heap.push _ _ = H
  have kH : Kp s.heap H := fun b o e => hH ▸ Heap.get?_push_of_some _ e
  have hr : IsRange H s.heap.objs.size 2 ys.length 1 _ _ _ := hH ▸ Heap.get?_push_size _ rfl
  have FH := F.keeps kH
  have sub0 : ∀ p ∈ allN h₀ H [env.locals], p ∈ allN h₀ H [env.locals] := fun _ h => h
  refine .inr ⟨_, 2, ys.length, _, _, _, ys.length - 2, allN h₀ H [env.locals], rfl, hh, FH, allN_news (by simp), hr, small_one (by decide) (by decide) (by omega) (by omega), by rw [rangeSize_one]; split <;> omega, by rw [sizeLine_eq]; omega, ?_⟩
  rintro _ ⟨g, rfl⟩
  refine comp_turns (TailG h₀ env.locals H ys) (ys.length - 2) ?_ (fun zs news G => ?_) _ 0 [] _ (by omega) ⟨rfl, sub0⟩
  · intro j zs news v I oI C oC D₂ m₂ h tk E' hj G hv' hC hxv F' N off ne
    obtain ⟨tv, rfl⟩ := hv'
    obtain ⟨g1, g2⟩ := G
    have N0 : News h₀ env.locals h news := fun p hp => N p (.tail _ (.tail _ (.tail _ hp)))
    have off3 := off.mem
    have hb' : But env.locals H h := comp_but FH g2 F'.keep N0
    have hD' : h.IsList D ys.toArray := let ⟨o, e, r⟩ := hD; ⟨o, hb' _ _ hDL (kH _ _ e), r⟩
    have hc' : h.IsCell ct (some (.ref D)) := let ⟨o, e, r⟩ := hc; ⟨o, hb' _ _ hcL (kH _ _ e), r⟩
    have hjl : 2 + j < ys.length := by omega
    refine Subscript_ (ldCellK hcl hc' (LCgL.ld_own N (.tail _ (.head _)) hC hxv ?_ (h1 C) (h3 C)) (h1 C) (h2 C))
    refine list_place (x := ys[2 + j]) hD' (by omega) (by omega) ?_ ?_ (by with_unfolding_all rfl)
    · rw [show ((2 : Int) + (j : Nat)).toNat = 2 + j by omega]
      simp [hjl]
    · refine ⟨h, tk, allN h₀ h [env.locals, I, C, D₂], rfl, fun _ _ e => e, allN_news (by simp), Off3.of (fun p hp => ?_), trivial, ?_, fun p hp => ?_⟩
      · obtain ⟨a, o⟩ := p
        have := (mem_allN.mp hp).1
        simp only [List.mem_cons, List.not_mem_nil, or_false, not_or] at this
        exact ⟨this.2.1, this.2.2.1, this.2.2.2⟩
      · rw [g1]
        refine (take_more ?_).symm
        rw [List.getElem?_drop, List.getElem?_eq_getElem hjl]
      · have hp' := g2 p hp
        obtain ⟨a, o⟩ := p
        have n := N0 _ hp'
        have o3 := off3 _ hp'
        refine mem_allN.mpr ⟨?_, n.2.2, n.1⟩
        simp only [List.mem_cons, List.not_mem_nil, or_false, not_or]
        exact ⟨n.2.1, o3.1, o3.2.1, o3.2.2⟩
  · obtain ⟨g1, g2⟩ := G
    intro D₂ h' tk F' N' o1
    have N0 : News h₀ env.locals h' news := fun p hp => N' p (.tail _ hp)
    have hb' : But env.locals H h' := comp_but FH g2 F'.keep N0
    refine hQ D₂ h' tk F' (fun b o hb e => hb' b o hb (kH _ _ e)) ?_
    have := (N' _ (.head _)).1
    rw [g1, List.take_of_length_le (by rw [List.length_drop]; omega)] at this
    exact this
theorem due_ret {ct D : Addr} {ys : List Value} {ds : List PyData} {tc : Tok} {k1 k2 k3 k4 k5 kk : Nat} {p1 p2 p3 q1 q2 q3 q4 q5 q6 q7 q8 r1 r2 r3 r4 r5 r6 r7 r8 r9 r10 r11 pp pq : Pos} {scope : Scope} {cl : List (Str × Addr)} {Q : Flow → Shared → Prop}
    (b : Bs w mean mg mb h₀) (hh : A.handled = none) (F : Fr h₀ L s.heap m) (hD : s.heap.IsList D ys.toArray) (hDL : D ≠ L) (hc : s.heap.IsCell ct (some (.ref D))) (hcL : ct ≠ L) (h0 : ds ≠ []) (h4 : ds.length ≤ 4) (ha : AllAtm ys ds) (hm : m (Str.ofString "count") = some (.int ds.length tc))
    (hQ : ∀ h' tk r, Kp h₀ h' → DueF h₀ h' (.ref r) (some ds) → Q (.ret (.ref r)) { s with heap := h', toks := tk })
    (e : nsIn (Mine.hd.heap_39 w.params) mainGlobals (Str.ofString "range") = some none) (hv : bootBuiltins (Str.ofString "range") = some (.type "range")) (e' : nsIn (Mine.hd.heap_39 w.params) mainGlobals (Str.ofString "tuple") = some none) (hv' : bootBuiltins (Str.ofString "tuple") = some (.type "tuple")) (hLe : env.locals = L)
    (hg : env.globals = mainGlobals) (hb : env.builtins = builtinsNs) (hk' : env.scope.kind = .function) (hx1 : env.kindOf (Str.ofString "range") = some .globalImplicit) (hx2 : env.kindOf (Str.ofString "count") = some .local) (hx3 : env.kindOf (Str.ofString "tuple") = some .globalImplicit) (hx4 : env.kindOf (Str.ofString "things") = some .cell)
    (hct : env.cells.lookup (Str.ofString "things") = some ct)
    (hst : backTo r9 (starEach [.Constant (.int 2) k5 r7, .Name (Str.ofString "count") r8] env) = [(false, eval (.Constant (.int 2) k5 r7) env), (false, eval (.Name (Str.ofString "count") r8) env)])
    (hcl : cl.lookup (Str.ofString "things") = some ct) (h1 : ∀ C, (compEnvC scope cl C env).scope.kind = .function) (h2 : ∀ C, (compEnvC scope cl C env).kindOf (Str.ofString "things") = some .cell) (h3 : ∀ C, (compEnvC scope cl C env).kindOf (Str.ofString "t") = some .local)
    (hclos : closureFor scope env = pure cl) (hcell : ∀ y ∈ scope.names, y.2 ≠ .cell) (hkind : scope.kind = .function)
    (hnames : ∀ y ∈ scope.names, y.2 = .local → scope.names.lookup y.1 = some .local) (hx : scope.names.lookup (Str.ofString "t") = some .local) :
    wpAny (model PR w) A (exec (.Return (some (.Tuple [.Subscript (.Name (Str.ofString "things") p1) (.Constant (.int 0) k1 p2) p3,
      .IfExp (.Compare (.Name (Str.ofString "count") q1) [.Gt] [.Constant (.int 1) k2 q2] q3) (.Subscript (.Name (Str.ofString "things") q4) (.Constant (.int 1) k3 q5) q6) (.Constant (.int 7) k4 q7) q8,
      .Call (.Name (Str.ofString "tuple") r1) [.ListComp (.Subscript (.Name (Str.ofString "things") r2) (.Name (Str.ofString "t") r3) r4) [⟨.Name (Str.ofString "t") r5, .Call (.Name (Str.ofString "range") r6) [.Constant (.int 2) k5 r7, .Name (Str.ofString "count") r8] [] r9, [], 0⟩] scope r10] [] r11] kk pp)) pq) env) Q E s := by
  have hlen := ha.length
  have hne : 0 < ds.length := List.length_pos_iff.mpr h0
  refine wpAny_Return_some (Tuple_ ?_)
  simp only [starEach, backTo, List.map, Bool.false_eq_true, if_false]
  have h0y : 0 < ys.length := by omega
  refine Calls.spliced_cons (Subscript_ (ld_cel hct hc (wpAny_Constant_int (list_place (x := ys[0]) hD (by decide) (by decide) (by simp [h0y]) ?_ (by with_unfolding_all rfl))) hk' hx4))
  obtain ⟨d0, hd0, a0⟩ := allAtm_at ha 0 _ (List.getElem?_eq_getElem h0y)
  have fin : ∀ {y1 : Value} {tk : Nat}, Atm y1 (ds.tail.headD (.int 7)) → wpAny (model PR w) A (eval (.Call (.Name (Str.ofString "tuple") r1) [.ListComp (.Subscript (.Name (Str.ofString "things") r2) (.Name (Str.ofString "t") r3) r4) [⟨.Name (Str.ofString "t") r5, .Call (.Name (Str.ofString "range") r6) [.Constant (.int 2) k5 r7, .Name (Str.ofString "count") r8] [] r9, [], 0⟩] scope r10] [] r11) env)
      (fun v s₁ => wpAny (model PR w) A (spliced []) (fun vs s₂ => wpAny (model PR w) A (newTuple (ys[0] :: y1 :: v :: vs)) (fun v => Q (.ret v)) E s₂) E s₁) E { s with toks := tk } := by
    intro y1 tk a1
    refine A_type1 (b.keeps F.keep) e' hv' (by decide) ?_ hg hb hk' hx3 (by decide) rfl
    refine tail_comp (s := { s with toks := tk }) b hh F hD hDL hc hcL (by omega) (by rw [hlen]; exact hm) (fun D₂ h₂ tk₂ F₂ b₂ hD₂ => ?_) e hv hLe hg hb hk' hx1 hx2 hst hcl h1 h2 h3 hclos hcell hkind hnames hx
    refine tuple_list ⟨_, hD₂, rfl, _, rfl⟩ (by simp; omega) fun h₃ t k₃ tn gt => ?_
    refine Calls.spliced_nil (wpAny_newTuple ?_ (by rw [sizeLine_eq]; simp))
    dsimp only at k₃ tn gt
    have k3 : Kp h₀ h₃ := Kp.trans F₂.keep k₃
    have none₀ : ∀ {h : Heap} {y : Addr}, Kp h₀ h → h.get? y = none → h₀.get? y = none := fun k e => by
      cases q : h₀.get? _ with
      | none => rfl
      | some o => have := k _ _ q; rw [e] at this; cases this
    refine hQ _ _ _ (fun b o e => Heap.get?_push_of_some _ (k3 _ _ e)) ?_
    match ds, hd0, a1, ha with
    | d :: ds', hd0, a1, ha =>
      simp only [List.getElem?_cons_zero, Option.some.injEq] at hd0
      subst hd0
      refine ⟨_, t, ys[0], y1, ys.drop 2, d, ds', rfl, rfl, Heap.get?_push_size _ rfl, Heap.get?_push_of_some _ (by simpa using gt), a0, a1, ?_, none₀ k3 (Heap.get?_none_of_le (Nat.le_refl _)), none₀ F₂.keep tn⟩
      match ys, ds', ha with
      | [y0], [], ha => exact trivial
      | y0 :: y1' :: r, d1 :: ds'', ha => exact ha.2.2
  refine Calls.spliced_cons (wpAny_IfExp (wpAny_isTrue_Compare1 (wpAny_Name (wpAny_loadName_local hk' hx2 (hLe ▸ F.ns) hm (wpAny_Constant_int (PySem.P.gt_int (wpAny_truthy_bool ?_))))) (by with_unfolding_all rfl)))
  by_cases hc1 : (ds.length : Int) > 1
  · rw [decide_eq_true hc1, if_pos rfl]
    have h1y : 1 < ys.length := by omega
    obtain ⟨d1, hd1, a1⟩ := allAtm_at ha 1 _ (List.getElem?_eq_getElem h1y)
    refine Subscript_ (ld_cel hct hc (wpAny_Constant_int (list_place (x := ys[1]) hD (by decide) (by decide) (by simp [h1y]) ?_ (by with_unfolding_all rfl))) hk' hx4)
    refine Calls.spliced_cons (fin ?_)
    match ds, hd1 with
    | _ :: d :: _, hd1 =>
      simp only [List.getElem?_cons_succ, List.getElem?_cons_zero, Option.some.injEq] at hd1
      subst hd1; exact a1
  · rw [decide_eq_false hc1, if_neg Bool.false_ne_true]
    refine wpAny_Constant_int (Calls.spliced_cons (fin ?_))
    match ds, hne, hc1 with
    | [_], _, _ => exact .inl ⟨7, _, rfl, rfl⟩
    | _ :: _ :: _, _, hc1 => exact (hc1 (by simp only [List.length_cons]; omega)).elim
end
end Mine

/-! N8 -/
set_option maxHeartbeats 4000000
namespace Mine
theorem ints_eq2 (n : Int) : (List.map (fun k' => k') (rangeKs 0 (n - 0).toNat)).map PyData.int = (List.range n.toNat).map fun (i : Nat) => PyData.int (i : Int) := by
  unfold rangeKs
  rw [List.map_map, List.map_map, Int.sub_zero]
  apply List.map_congr_left
  intro i _
  simp
section
variable {w : World} {mean : ExcName → Option Value} {mg mb : Str → Option Value} {dp un : Nat} {fr : Option (List Env)} {gd : Option (List Code)} {s : Shared}
theorem due_int {R : Result → Shared → Prop} {t : Tok} {v : Int} (hb : v.natAbs.log2 < 2 ^ 24) (b : Bs w mean mg mb s.heap) (hroom : dp < recursionLimit) (hu : un + 100 < cLine) (hc0 : (v.fdiv 6).fmod 5 ≠ 0) (hnn : v.fmod 6 ≠ 5 ∨ (v.fdiv 30).fmod 3 ≠ 2) (h2 : v.fmod 6 ≠ 2) (h3 : v.fmod 6 ≠ 3)
    (hR : ∀ h' tk u, Kp s.heap h' → DueF s.heap h' u (rowD v) → R (.ok (.ret u)) { s with heap := h', toks := tk }) :
    codeAny (model PR w) { handled := none, depth := dp, frames := fr, guards := gd, units := un } (.call (.ref 90) ⟨[.int v t], []⟩) R s := by
  refine' enter_cells (binds := [(Str.ofString "x", .int v t)]) b hroom ?k6 ?k7 ?k9 ?h ?kB ?c5 ?c2 ?c3 ?c4
  case k6 => k_is
  case k7 => k_is
  case k9 => exact BindsTo.of_eq rfl
  case c5 => decide
  case kB => exact rfl
  case c2 => exact rfl
  case c3 => exact rfl
  case c4 => exact rfl
  case h =>
    intro L h₁ tk cells F N Y X T hL
    k_cells Y
    try dsimp only
    k_with_none
    k_with "exec If BoolOp cons nil" => refine stopHere ?_
    k_with "exec If Compare cons nil" => refine stopHere ?_
    k_steps
    unfold Stop
    refine If_known false ?_ fun tk => ?_
    · k_steps
      all_goals first | exact ⟨rfl, _, rfl⟩ | exact ⟨by simp_all, _, rfl⟩ | (exfalso; omega)
    · rw [if_neg Bool.false_ne_true]
      k_steps
      unfold Stop
      refine If_known false ?_ fun tk => ?_
      · k_steps
        all_goals first | exact ⟨rfl, _, rfl⟩ | exact ⟨by simp_all, _, rfl⟩ | (exfalso; omega)
      · rw [if_neg Bool.false_ne_true]
        k_steps
        unfold Stop
        refine If_known false ?_ fun tk => ?_
        · k_steps
          all_goals first | exact ⟨rfl, _, rfl⟩ | exact ⟨by simp_all, _, rfl⟩ | (exfalso; omega)
        · rw [if_neg Bool.false_ne_true]
          k_with_none
          k_with "exec Return some" => refine stopHere ?_
          k_steps
          unfold Stop
          rename News _ _ _ _ => N₉
          rename Fr _ _ _ _ => F₉
          rename IntsAre _ _ => hI
          rename _ = Data.cell (some (Value.ref _)) => hcd
          have hat := ints_atm hI
          rw [ints_eq] at hat
          have hrow : rowD v = some (inD v (cnt v).toNat) := by
            unfold rowD
            by_cases q0 : v.fmod 6 = 0
            · rw [if_pos q0]
            rw [if_neg q0]
            by_cases q1 : v.fmod 6 = 1
            · rw [if_pos q1]
            rw [if_neg q1, if_neg h2, if_neg h3, if_pos ?_]
            have := Int.fmod_lt_of_pos v (show (0 : Int) < 6 by decide)
            have := Int.fmod_nonneg_of_pos v (show (0 : Int) < 6 by decide)
            rcases hnn with h | h
            · left; omega
            · exact .inr h
          have hn : (v.fdiv 6).fmod 5 = ((inD v (cnt v).toNat).length : Int) := by
            have := cnt_lt v
            have hq : cnt v = (v.fdiv 6).fmod 5 := rfl
            unfold inD; rw [List.length_map, List.length_range]; omega
          have nD := N₉ _ (.head _)
          have nc := N₉ _ (.tail _ (.head _))
          refine due_ret (ct := L + 1 + 1) (ds := inD v (cnt v).toNat) b rfl F₉ ⟨_, nD.1, rfl, _, rfl⟩ nD.2.1 ⟨_, nc.1, hcd⟩ nc.2.1 (fun q => hc0 (by rw [hn, q]; rfl)) (by have := cnt_lt v; have hq : cnt v = (v.fdiv 6).fmod 5 := rfl; omega) hat (congrArg (fun z => some (Value.int z _)) hn) (fun h' tk r kp d => hR h' tk _ kp (by rw [hrow]; exact d))
            (by k_is) (by boot_by_name) (by k_is) (by boot_by_name) rfl rfl rfl rfl rfl rfl rfl rfl rfl rfl rfl (fun _ => rfl) (fun _ => rfl) (fun _ => rfl) rfl (by decide) rfl (by decide) rfl
theorem due_two {R : Result → Shared → Prop} {t : Tok} {v : Int} (hb : v.natAbs.log2 < 2 ^ 24) (b : Bs w mean mg mb s.heap) (hroom : dp < recursionLimit) (hu : un + 100 < cLine) (hc0 : (v.fdiv 6).fmod 5 ≠ 0) (h2 : v.fmod 6 = 2)
    (hR : ∀ h' tk u, Kp s.heap h' → DueF s.heap h' u (rowD v) → R (.ok (.ret u)) { s with heap := h', toks := tk }) :
    codeAny (model PR w) { handled := none, depth := dp, frames := fr, guards := gd, units := un } (.call (.ref 90) ⟨[.int v t], []⟩) R s := by
  refine' enter_cells (binds := [(Str.ofString "x", .int v t)]) b hroom ?k6 ?k7 ?k9 ?h ?kB ?c5 ?c2 ?c3 ?c4
  case k6 => k_is
  case k7 => k_is
  case k9 => exact BindsTo.of_eq rfl
  case c5 => decide
  case kB => exact rfl
  case c2 => exact rfl
  case c3 => exact rfl
  case c4 => exact rfl
  case h =>
    intro L h₁ tk cells F N Y X T hL
    k_cells Y
    try dsimp only
    k_with_none
    k_with "exec If BoolOp cons nil" => refine stopHere ?_
    k_with "exec If Compare cons nil" => refine stopHere ?_
    k_steps
    unfold Stop
    refine If_known false ?_ fun tk => ?_
    · k_steps
      all_goals first | exact ⟨rfl, _, rfl⟩ | exact ⟨by rw [h2]; rfl, _, rfl⟩ | (exfalso; omega)
    · rw [if_neg Bool.false_ne_true]
      k_steps
      unfold Stop
      refine If_known true ?_ fun tk => ?_
      · k_steps
        all_goals first | exact ⟨rfl, _, rfl⟩ | exact ⟨by rw [h2]; rfl, _, rfl⟩ | (exfalso; omega)
      · rw [if_pos rfl]
        k_steps
        unfold Stop
        refine If_known false ?_ fun tk => ?_
        · k_steps
          all_goals first | exact ⟨rfl, _, rfl⟩ | exact ⟨by rw [h2]; rfl, _, rfl⟩ | (exfalso; omega)
        · rw [if_neg Bool.false_ne_true]
          k_with_none
          k_with "exec Return some" => refine stopHere ?_
          k_steps
          unfold Stop
          rename News _ _ _ _ => N₉
          rename Fr _ _ _ _ => F₉
          rename IntsAre _ _ => hI
          rename _ = Data.cell (some (Value.ref _)) => hcd
          have hat := ints_atm hI
          rw [ints_eq2] at hat
          have hrow : rowD v = some ((List.range (cnt v).toNat).map fun (i : Nat) => PyData.int (i : Int)) := by
            unfold rowD
            rw [if_neg (by rw [h2]; decide), if_neg (by rw [h2]; decide), if_pos h2]
          have hn : (v.fdiv 6).fmod 5 = (((List.range (cnt v).toNat).map fun (i : Nat) => PyData.int (i : Int)).length : Int) := by
            have := cnt_lt v
            have hq : cnt v = (v.fdiv 6).fmod 5 := rfl
            rw [List.length_map, List.length_range]; omega
          have nD := N₉ _ (.head _)
          have nc := N₉ _ (.tail _ (.tail _ (.head _)))
          refine due_ret (ct := L + 1 + 1) (ds := (List.range (cnt v).toNat).map fun (i : Nat) => PyData.int (i : Int)) b rfl F₉ ⟨_, nD.1, rfl, _, rfl⟩ nD.2.1 ⟨_, nc.1, hcd⟩ nc.2.1 (fun q => hc0 (by rw [hn, q]; rfl)) (by have := cnt_lt v; have hq : cnt v = (v.fdiv 6).fmod 5 := rfl; omega) hat (congrArg (fun z => some (Value.int z _)) hn) (fun h' tk r kp d => hR h' tk _ kp (by rw [hrow]; exact d))
            (by k_is) (by boot_by_name) (by k_is) (by boot_by_name) rfl rfl rfl rfl rfl rfl rfl rfl rfl rfl rfl (fun _ => rfl) (fun _ => rfl) (fun _ => rfl) rfl (by decide) rfl (by decide) rfl
end
end Mine

/-! N9 -/
namespace Mine
section
variable {w : World} {mean : ExcName → Option Value} {mg mb : Str → Option Value} {dp un : Nat} {fr : Option (List Env)} {gd : Option (List Code)} {s : Shared}
theorem due_none {R : Result → Shared → Prop} {t : Tok} {v : Int} (hb : v.natAbs.log2 < 2 ^ 24) (b : Bs w mean mg mb s.heap) (hroom : dp < recursionLimit) (hu : un + 100 < cLine) (hc : (v.fdiv 6).fmod 5 = 0 ∨ ((v.fdiv 6).fmod 5 ≠ 0 ∧ v.fmod 6 = 5 ∧ (v.fdiv 30).fmod 3 = 2))
    (hR : ∀ h' tk, Kp s.heap h' → R (.ok (.ret .none)) { s with heap := h', toks := tk }) :
    codeAny (model PR w) { handled := none, depth := dp, frames := fr, guards := gd, units := un } (.call (.ref 90) ⟨[.int v t], []⟩) R s := by
  refine' enter_cells (binds := [(Str.ofString "x", .int v t)]) b hroom ?k6 ?k7 ?k9 ?h ?kB ?c5 ?c2 ?c3 ?c4
  case k6 => k_is
  case k7 => k_is
  case k9 => exact BindsTo.of_eq rfl
  case c5 => decide
  case kB => exact rfl
  case c2 => exact rfl
  case c3 => exact rfl
  case c4 => exact rfl
  case h =>
    intro L h₁ tk cells F N Y X T hL
    k_cells Y
    try dsimp only
    k_with_none
    k_with "exec If BoolOp cons nil" => refine stopHere ?_
    k_with "exec If Compare cons nil" => refine stopHere ?_
    k_steps
    unfold Stop
    rcases hc with hc | ⟨hc, h5, h3⟩
    · refine If_known true ?_ fun tk => ?_
      · k_steps
        all_goals first | exact ⟨rfl, _, rfl⟩ | (exfalso; omega)
      · rw [if_pos rfl]
        k_steps
        all_goals (rename Fr _ _ _ _ => F₉; exact hR _ _ F₉.keep)
    · refine If_known true ?_ fun tk => ?_
      · k_steps
        all_goals first | exact ⟨rfl, _, rfl⟩ | exact ⟨by rw [h3]; rfl, _, rfl⟩ | (exfalso; omega)
      · rw [if_pos rfl]
        k_steps
        all_goals (rename Fr _ _ _ _ => F₉; exact hR _ _ F₉.keep)
end
end Mine

/-! N12 -/
set_option maxHeartbeats 2500000
namespace Mine
local macro_rules | `(tactic| walk_at "CompSrc") => `(tactic| (k_dflt (refine LCg.CompSrc.range (by rfl) (by k_asm) (by k_asm) (by assumption) (by first | decide | rfl) (by first | rfl | decide) (by first | size_fits | exact Nat.le_of_ble_eq_true rfl) ?_; intro g'; lcg_lit)))
def RngLeaf (s : Shared) (a b : Int) (xv : Value) (s₁ : Shared) : Prop := ∃ r t u v h tk, xv = .ref r ∧ s₁ = { s with heap := h, toks := tk } ∧ Kp s.heap h ∧ IsRange h r a b 1 t u v
theorem range_via {M : Model} {A : Around} {E : Value → Shared → Prop} {s : Shared} {c : Sem Value} {Q : Value → Shared → Prop} (a b : Int) (h : wpAny M A c (RngLeaf s a b) E s) (k : ∀ r t u v h tk, Kp s.heap h → IsRange h r a b 1 t u v → Q (.ref r) { s with heap := h, toks := tk }) : wpAny M A c Q E s :=
  wpAny_mono h (fun _ _ ⟨r, t, u, v, h, tk, e1, e2, kp, hr⟩ => by subst e1; subst e2; exact k r t u v h tk kp hr) fun _ _ e => e
theorem AllAtm.snoc : ∀ {vs : List Value} {ds : List PyData} {v : Value} {d : PyData}, AllAtm vs ds → Atm v d → AllAtm (vs ++ [v]) (ds ++ [d])
  | [], [], _, _, _, h => ⟨h, trivial⟩
  | _ :: _, _ :: _, _, _, x, h => ⟨x.1, AllAtm.snoc x.2 h⟩
theorem letters_succ (j : Nat) (h : j < 4) : letters ((j + 1 : Nat) : Int) = letters (j : Int) ++ [.str ⟨#[97 + j]⟩] := by
  have : j = 0 ∨ j = 1 ∨ j = 2 ∨ j = 3 := by omega
  rcases this with rfl | rfl | rfl | rfl <;> with_unfolding_all rfl
theorem letters_len {c : Int} (h0 : 0 ≤ c) (h : c < 5) : ((letters c).length : Int) = c := by
  have : c = 0 ∨ c = 1 ∨ c = 2 ∨ c = 3 ∨ c = 4 := by omega
  rcases this with rfl | rfl | rfl | rfl | rfl <;> with_unfolding_all rfl
section
variable {w : World} {mean : ExcName → Option Value} {mg mb : Str → Option Value} {dp un : Nat} {fr : Option (List Env)} {gd : Option (List Code)} {s : Shared}
theorem due_t {R : Result → Shared → Prop} {t : Tok} {v : Int} (hb : v.natAbs.log2 < 2 ^ 24) (b : Bs w mean mg mb s.heap) (hroom : dp < recursionLimit) (hu : un + 100 < cLine) (hc0 : (v.fdiv 6).fmod 5 ≠ 0) (h6 : v.fmod 6 = 3)
    (hR : ∀ h' tk u, Kp s.heap h' → DueF s.heap h' u (rowD v) → R (.ok (.ret u)) { s with heap := h', toks := tk }) :
    codeAny (model PR w) { handled := none, depth := dp, frames := fr, guards := gd, units := un } (.call (.ref 90) ⟨[.int v t], []⟩) R s := by
  refine' enter_cells (binds := [(Str.ofString "x", .int v t)]) b hroom ?k6 ?k7 ?k9 ?h ?kB ?c5 ?c2 ?c3 ?c4
  case k6 => k_is
  case k7 => k_is
  case k9 => exact BindsTo.of_eq rfl
  case c5 => decide
  case kB => exact rfl
  case c2 => exact rfl
  case c3 => exact rfl
  case c4 => exact rfl
  case h =>
    intro L h₁ tk cells F N Y X T hL
    k_cells Y
    try dsimp only
    k_with_none
    k_with "exec If BoolOp cons nil" => refine stopHere ?_
    k_with "exec Assign cons ListComp" => refine stopHere ?_
    k_steps
    unfold Stop
    rename Fr _ _ _ _ => F'
    refine If_known false ?_ fun tk => ?_
    · k_steps
      all_goals first | exact ⟨rfl, _, rfl⟩ | exact ⟨by rw [h6]; rfl, _, rfl⟩ | (exfalso; omega)
    · rw [if_neg Bool.false_ne_true]
      k_with_none
      k_with "exec If Compare cons nil" => refine stopHere ?_
      k_steps
      unfold Stop
      refine If_known false ?_ fun tk => ?_
      · k_steps
        all_goals first | exact ⟨rfl, _, rfl⟩ | exact ⟨by rw [h6]; rfl, _, rfl⟩ | (exfalso; omega)
      · rw [if_neg Bool.false_ne_true]
        k_steps
        unfold Stop
        refine If_known true ?_ fun tk => ?_
        · k_steps
          all_goals first | exact ⟨rfl, _, rfl⟩ | exact ⟨by rw [h6]; rfl, _, rfl⟩ | (exfalso; omega)
        · rw [if_pos rfl]
          k_with_none
          k_with "exec Assign cons ListComp" => refine stopHere ?_
          k_steps
          unfold Stop
          refine wpAny_Assign_Name ?_
          refine LCg.ListComp_U (by assumption) (by rfl) (by decide) (by rfl) (by decide) (by rfl) ?_ (by intro _; rfl)
          refine range_via 0 (cnt v) ?_ fun r t' u' v' h tk' kp hr => ?_
          · k_with_none
            k_steps
            exact ⟨_, _, _, _, _, _, rfl, rfl, by assumption, by assumption⟩
          · rename News _ _ _ _ => N₉
            rename Fr _ _ _ _ => F₉
            refine LCg.CompSrc.range (n := (cnt v).toNat) (by rfl) (F₉.keeps kp) (N₉.grown kp) hr ?_ ?_ ?_ ?_
            · have := cnt_lt v
              exact small_one (by decide) (by decide) (by omega) (by omega)
            · rw [rangeSize_nat, Int.sub_zero]
            · have := cnt_lt v
              rw [PySem.sizeLine_eq]; omega
            · intro g'
              refine comp_turns (fun j ys news => AllAtm ys (letters j) ∧ news = _) (cnt v).toNat ?_ ?_ _ 0 [] _ (by omega) ⟨trivial, rfl⟩
              · intro j ys news v₁ I oI C oC D m₂ h₂ tk₂ E' hj ⟨ha, hn⟩ hP hC hx F N off ne
                obtain ⟨t₁, rfl⟩ := hP
                rw [Int.zero_add] at hx
                have hj4 : j < 4 := by have := cnt_lt v; omega
                refine letter_elt (i := j) (u := t₁) hj4 (fun {s' Q} kp q => ?_) fun h' tk tx kp => ?_
                · exact LCgL.ld_own (N.grown kp) (.tail _ (.head _)) hC hx q
                · refine ⟨h', tk, news, rfl, kp, fun p hp => (N.grown kp) p (.tail _ (.tail _ (.tail _ hp))), off, trivial, ?_, hn⟩
                  rw [letters_succ j hj4]
                  exact ha.snoc (.inr ⟨_, _, rfl, rfl⟩)
              · intro ys news ⟨ha, hn⟩ D h₂ tk₂ F N o1
                subst hn
                k_with "exec Return some" => refine stopHere ?_
                k_steps
                unfold Stop
                rename News _ _ _ _ => N₈
                rename Fr _ _ _ _ => F₈
                rename _ = Data.cell (some (Value.ref _)) => hcd
                have hc' := cnt_lt v
                have hq : cnt v = (v.fdiv 6).fmod 5 := rfl
                rw [show ((cnt v).toNat : Int) = cnt v by omega] at ha
                have hrow : rowD v = some (letters (cnt v)) := by
                  unfold rowD
                  rw [if_neg (by rw [h6]; decide), if_neg (by rw [h6]; decide), if_neg (by rw [h6]; decide), if_pos h6]
                have hn : (v.fdiv 6).fmod 5 = ((letters (cnt v)).length : Int) := by rw [letters_len hc'.1 hc'.2]
                have nD := N₈ _ (.head _)
                have nc := N₈ _ (.tail _ (.tail _ (.head _)))
                refine due_ret (ct := L + 1 + 1) (ds := letters (cnt v)) b rfl F₈ ⟨_, nD.1, rfl, _, rfl⟩ nD.2.1 ⟨_, nc.1, hcd⟩ nc.2.1 (fun q => hc0 (by rw [hn, q]; rfl)) (by omega) ha (congrArg (fun z => some (Value.int z _)) hn) (fun h' tk r kp d => hR h' tk _ kp (by rw [hrow]; exact d))
                  (by k_is) (by boot_by_name) (by k_is) (by boot_by_name) rfl rfl rfl rfl rfl rfl rfl rfl rfl rfl rfl (fun _ => rfl) (fun _ => rfl) (fun _ => rfl) rfl (by decide) rfl (by decide) rfl
end
end Mine

/-! N13 -/
set_option maxHeartbeats 1000000
namespace Mine
section
variable {w : World} {mean : ExcName → Option Value} {mg mb : Str → Option Value} {dp un : Nat} {fr : Option (List Env)} {gd : Option (List Code)} {s : Shared}
def noDue (v : Int) : Prop := cnt v = 0 ∨ (cnt v ≠ 0 ∧ v.fmod 6 = 5 ∧ (v.fdiv 30).fmod 3 = 2)
def DueOk (h₀ h : Heap) (u : Value) (v : Int) : Prop := (noDue v ∧ u = .none) ∨ (¬ noDue v ∧ DueF h₀ h u (rowD v))
theorem due_ok {R : Result → Shared → Prop} {t : Tok} {v : Int} (hb : v.natAbs.log2 < 2 ^ 24) (b : Bs w mean mg mb s.heap) (hroom : dp < recursionLimit) (hu : un + 100 < cLine)
    (hR : ∀ h' tk u, Kp s.heap h' → DueOk s.heap h' u v → R (.ok (.ret u)) { s with heap := h', toks := tk }) :
    codeAny (model PR w) { handled := none, depth := dp, frames := fr, guards := gd, units := un } (.call (.ref 90) ⟨[.int v t], []⟩) R s := by
  by_cases hn : noDue v
  · exact due_none hb b hroom hu hn fun h' tk kp => hR h' tk _ kp (.inl ⟨hn, rfl⟩)
  · have hc0 : (v.fdiv 6).fmod 5 ≠ 0 := fun q => hn (.inl q)
    have k : ∀ h' tk u, Kp s.heap h' → DueF s.heap h' u (rowD v) → R (.ok (.ret u)) { s with heap := h', toks := tk } := fun h' tk u kp d => hR h' tk u kp (.inr ⟨hn, d⟩)
    by_cases h2 : v.fmod 6 = 2
    · exact due_two hb b hroom hu hc0 h2 k
    · by_cases h3 : v.fmod 6 = 3
      · exact due_t hb b hroom hu hc0 h3 k
      · refine due_int hb b hroom hu hc0 ?_ h2 h3 k
        by_cases h5 : v.fmod 6 = 5
        · exact .inr fun q => hn (.inr ⟨hc0, h5, q⟩)
        · exact .inl h5
end
end Mine

/-! N16 -/
namespace Mine
/-! what the two element calls give, and that it lasts -/
theorem reads_ints {h h' : Heap} : ∀ {vs : List Value} {ds : List PyData} {as : List Addr}, (∀ d ∈ ds, ∃ i, d = .int i) → ReadsAll h vs ds as → ReadsAll h' vs ds as
  | [], _, _, _, r => by cases r; exact .nil
  | v :: vs, _, _, hd, r => by
    cases r with
    | cons r1 r2 =>
      rename_i d ds as bs
      obtain ⟨i, rfl⟩ := hd d (.head _)
      cases r1 with
      | int => exact .cons (.int _ _) (reads_ints (fun d m => hd d (.tail _ m)) r2)
theorem inD_ints (v : Int) (c : Nat) : ∀ d ∈ inD v c, ∃ i, d = .int i := fun d m => by
  unfold inD at m
  obtain ⟨i, _, rfl⟩ := List.mem_map.mp m
  exact ⟨_, rfl⟩
theorem Made.move {h h' : Heap} {u : Value} {v : Int} (M : Made h u v) (key : ∀ a o, u = .ref a → h.get? a = some o → h'.get? a = some o) : Made h' u v := by
  unfold Made at *
  by_cases q0 : v.fmod 6 = 0
  · simp only [if_pos q0] at M ⊢
    obtain ⟨as, r⟩ := M
    cases r with
    | list a b c d => exact ⟨_, .list (key _ _ rfl a) b c (reads_ints (inD_ints _ _) d)⟩
  by_cases q1 : v.fmod 6 = 1
  · simp only [if_neg q0, if_pos q1] at M ⊢
    obtain ⟨as, r⟩ := M
    cases r with
    | tuple a b c d => exact ⟨_, .tuple (key _ _ rfl a) b c (reads_ints (inD_ints _ _) d)⟩
  by_cases q2 : v.fmod 6 = 2
  · simp only [if_neg q0, if_neg q1, if_pos q2] at M ⊢
    obtain ⟨a, t1, t2, t3, rfl, r⟩ := M
    exact ⟨a, t1, t2, t3, rfl, key _ _ rfl r⟩
  by_cases q3 : v.fmod 6 = 3
  · simp only [if_neg q0, if_neg q1, if_neg q2, if_pos q3] at M ⊢
    exact M
  by_cases q4 : v.fmod 6 = 4 ∨ (v.fdiv 30).fmod 3 ≠ 2
  · simp only [if_neg q0, if_neg q1, if_neg q2, if_neg q3, if_pos q4] at M ⊢
    obtain ⟨as, r⟩ := M
    cases r with
    | dict a b c d e =>
      refine ⟨_, .dict (key _ _ rfl a) b c (reads_ints (fun d m => ?_) d) (reads_ints (fun d m => ?_) e)⟩
      · rw [List.map_map] at m
        obtain ⟨i, _, rfl⟩ := List.mem_map.mp m
        exact ⟨_, rfl⟩
      · rw [List.map_map] at m
        obtain ⟨i, _, rfl⟩ := List.mem_map.mp m
        exact ⟨_, rfl⟩
  · simp only [if_neg q0, if_neg q1, if_neg q2, if_neg q3, if_neg q4] at M ⊢
    exact M
def RowF (hT h : Heap) (v u : Value) : Prop := ∃ c t, v = .int c t ∧ RowAt h u (rowD c) ∧ Made h u c ∧ ∀ a, u = .ref a → hT.get? a = none
def DueV (hT h : Heap) (v u : Value) : Prop := ∃ c t, v = .int c t ∧ DueOk hT h u c
theorem lasts_row : Lasts RowF where
  stable := fun hT h h' v y ⟨c, t, e, r, m, n⟩ k => ⟨c, t, e, r.move fun a o q z => k a o (n a q) z, m.move fun a o q z => k a o (n a q) z, n⟩
  older := fun hT h₁ h v y ⟨c, t, e, r, m, n⟩ k => ⟨c, t, e, r, m, fun a q => k a (n a q)⟩
theorem lasts_due : Lasts DueV where
  stable := fun hT h h' v y ⟨c, t, e, d⟩ k => ⟨c, t, e, d.imp id fun ⟨n, r, t', y0, y1, ys, d, ds, e1, e2, e3, e4, e5, e6, e7, e8, e9⟩ => ⟨n, r, t', y0, y1, ys, d, ds, e1, e2, k _ _ e8 e3, k _ _ e9 e4, e5, e6, e7, e8, e9⟩⟩
  older := fun hT h₁ h v y ⟨c, t, e, d⟩ k => ⟨c, t, e, d.imp id fun ⟨n, r, t', y0, y1, ys, d, ds, e1, e2, e3, e4, e5, e6, e7, e8, e9⟩ => ⟨n, r, t', y0, y1, ys, d, ds, e1, e2, e3, e4, e5, e6, e7, k _ e8, k _ e9⟩⟩
def Ok24 (v : Value) : Prop := ∃ c t, v = .int c t ∧ c.natAbs.log2 < 2 ^ 24
section
variable {w : World} {mean : ExcName → Option Value} {mg mb : Str → Option Value} {dp un : Nat} {fr : Option (List Env)} {gd : Option (List Code)}
theorem gives_row {v : Value} (hv : Ok24 v) (hroom : dp < recursionLimit) (hu : un + 100 < cLine) : Gives w mean mg mb { handled := none, depth := dp, frames := fr, guards := gd, units := un } 85 RowF v := fun s' R b hR => by
  obtain ⟨c, t, rfl, hb⟩ := hv
  exact row_ok hb b hroom hu fun h' tk u kp r m n => hR h' tk u kp ⟨c, t, rfl, r, m, n⟩
theorem gives_due {v : Value} (hv : Ok24 v) (hroom : dp < recursionLimit) (hu : un + 100 < cLine) : Gives w mean mg mb { handled := none, depth := dp, frames := fr, guards := gd, units := un } 90 DueV v := fun s' R b hR => by
  obtain ⟨c, t, rfl, hb⟩ := hv
  exact due_ok hb b hroom hu fun h' tk u kp d => hR h' tk u kp ⟨c, t, rfl, d⟩
end
end Mine

/-! N17 -/
open PySem.SeqAt
namespace Mine
/-! _law_answer -/
def AnsOk (h₀ h : Heap) (u : Value) (cs : List Int) : Prop :=
  ((∃ c ∈ cs, noDue c) ∧ ∃ t, u = .str (Str.ofString "TypeError") t) ∨
  ((∀ c ∈ cs, ¬ noDue c) ∧ ∃ D acc n, u = .ref D ∧ h₀.get? D = none ∧ h.get? D = some (listO acc n) ∧ acc.size = cs.length ∧ ∀ (i : Nat) d c, acc[i]? = some d → cs[i]? = some c → DueF h₀ h d (rowD c))
theorem ints_at : ∀ {vs : List Value} {cs : List Int}, IntsAre vs cs → ∀ (i : Nat) c, cs[i]? = some c → ∃ t, vs[i]? = some (.int c t)
  | [], [], _, _, _, e => by simp at e
  | _ :: _, _ :: _, (.cons _ _ h), 0, c, e => by
    simp only [List.getElem?_cons_zero, Option.some.injEq] at e
    subst e
    exact ⟨_, rfl⟩
  | _ :: _, _ :: _, (.cons _ _ h), i + 1, c, e => by
    obtain ⟨t, z⟩ := ints_at h i c (by simpa using e)
    exact ⟨t, by simpa using z⟩
theorem AnsOk.older {h₀ h₁ h : Heap} {u : Value} {cs : List Int} (a : AnsOk h₀ h u cs) (k : ∀ a, h₀.get? a = none → h₁.get? a = none) : AnsOk h₁ h u cs := by
  refine a.imp id fun ⟨n, D, acc, c, e1, e2, e3, e4, e5⟩ => ⟨n, D, acc, c, e1, k _ e2, e3, e4, fun i d c a b => ?_⟩
  obtain ⟨r, t', y0, y1, ys, d, ds, e1, e2, e3, e4, e5, e6, e7, e8, e9⟩ := e5 i d c a b
  exact ⟨r, t', y0, y1, ys, d, ds, e1, e2, e3, e4, e5, e6, e7, k _ e8, k _ e9⟩
section
variable {w : World} {mean : ExcName → Option Value} {mg mb : Str → Option Value} {dp un : Nat} {fr : Option (List Env)} {gd : Option (List Code)} {s : Shared}
theorem answer {ax : Addr} {its : Array Value} {cs : List Int} {R : Result → Shared → Prop} (b : Bs w mean mg mb s.heap) (hroom : dp + 1 < recursionLimit) (hu : un + 110 < cLine)
    (hl : s.heap.IsList ax its) (hI : IntsAre its.toList cs) (hok : ∀ v ∈ its.toList, Ok24 v) (hsz : its.size ≤ 64)
    (hR : ∀ h' tk u, Kp s.heap h' → AnsOk s.heap h' u cs → R (.ok (.ret u)) { s with heap := h', toks := tk }) :
    codeAny (model PR w) { handled := none, depth := dp, frames := fr, guards := gd, units := un } (.call (.ref 116) ⟨[.ref ax], []⟩) R s := by
  refine' enter_plain (binds := [(Str.ofString "cells", .ref ax)]) b (by show dp < _; omega) ?k6 ?k7 ?k9 ?h ?kB ?c5 ?c2 ?c3 ?c4
  case k6 => k_is
  case k7 => k_is
  case k9 => exact BindsTo.of_eq rfl
  case c5 => decide
  case kB => intro y hy; rw [List.mem_singleton.mp hy]; exact rfl
  case c2 => exact rfl
  case c3 => exact rfl
  case c4 => exact rfl
  case h =>
    intro L h₁ F N X T hL
    have hl₁ : h₁.IsList ax its := let ⟨o, e, r⟩ := hl; ⟨o, F.keep _ _ e, r⟩
    have hax : ax ≠ L := fun q => by
      obtain ⟨o, e, _⟩ := hl
      rw [q, hL] at e
      exact absurd (Heap.lt_size e) (Nat.lt_irrefl _)
    have hlen : its.size = cs.length := by rw [← Array.length_toList]; exact IntsAre.length hI
    refine wpAny_execs_cons ?_
    refine call_comp_assign (f := 90) lasts_due b rfl F hl₁ hax (by rw [sizeLine_eq]; omega) (fun v hv => gives_due (dp := dp + 1) (un := un + 3) (hok v hv) (by omega) (by omega)) (fun q => ld F rfl q) (fun D h' tk ys F' hbut hDn hDL hD hys hP => ?_)
      (by k_is) (by k_is) rfl (fun _ => rfl) (fun _ => rfl) (fun _ => rfl) rfl (by with_unfolding_all rfl) rfl (by decide) rfl (by decide) rfl rfl rfl
    have kp : Kp s.heap h' := F'.keep
    have fr₁ : ∀ a, h₁.get? a = none → s.heap.get? a = none := fun a e => Step.fresh (S := []) (X := []) (.of_kp F.keep) e (by simp)
    have hDl : h'.IsList D ys.toArray := ⟨_, hD, rfl, _, rfl⟩
    have key : ∀ (i : Nat) y c, ys[i]? = some y → cs[i]? = some c → DueOk s.heap h' y c := fun i y c hy hc => by
      obtain ⟨t, hv⟩ := ints_at hI i c hc
      obtain ⟨c', t', e, d⟩ := lasts_due.older h₁ s.heap h' _ _ (hP i _ y (by rw [← Array.getElem?_toList]; exact hv) hy) fr₁
      cases e
      exact d
    have at1 : ∀ (i : Nat) y, ys[i]? = some y → ∃ c, cs[i]? = some c := fun i y hy => by
      have := (List.getElem?_eq_some_iff.mp hy).1
      exact ⟨_, List.getElem?_eq_getElem (by omega)⟩
    have at2 : ∀ (i : Nat) c, cs[i]? = some c → ∃ y, ys[i]? = some y := fun i c hc => by
      have := (List.getElem?_eq_some_iff.mp hc).1
      exact ⟨_, List.getElem?_eq_getElem (by omega)⟩
    dsimp only
    refine wpAny_execs_cons (wpAny_Return_some ?_)
    refine wpAny_IfExp (wpAny_isTrue_Compare1 (Constant_none (ld F' rfl ?_)) (by with_unfolding_all rfl))
    refine in_listAt (fun y => y == Value.none) hDl (fun y hy => ?_) (wpAny_truthy_bool ?_)
    · obtain ⟨i, hi, rfl⟩ := List.getElem_of_mem (show y ∈ ys by simpa using hy)
      have e1 := List.getElem?_eq_getElem hi
      obtain ⟨c, hc⟩ := at1 i _ e1
      rcases key i _ c e1 hc with ⟨_, e⟩ | ⟨_, r, t', y0, y1, zs, d, ds, e, _, e3, _⟩
      · rw [e]; exact EqAt.same _
      · rw [e]
        exact EqAt.tuple_none ⟨_, e3, rfl, _, rfl⟩ (by show un + 3 + 1 < _; omega)
    · by_cases hb : ∃ c ∈ cs, noDue c
      · obtain ⟨c, hc, hn⟩ := hb
        obtain ⟨i, hi, rfl⟩ := List.getElem_of_mem hc
        have e1 := List.getElem?_eq_getElem hi
        obtain ⟨y, hy⟩ := at2 i _ e1
        have hy0 : y = .none := by
          rcases key i y _ hy e1 with ⟨_, e⟩ | ⟨n, _⟩
          · exact e
          · exact absurd hn n
        have hany : (ys.toArray.any fun y => y == Value.none) = true := by
          rw [Array.any_eq_true']
          exact ⟨y, by simpa using List.mem_of_getElem? hy, by rw [hy0]; rfl⟩
        rw [hany, if_pos rfl]
        refine Calls.Constant_str ?_
        exact hR _ _ _ kp (.inl ⟨⟨_, hc, hn⟩, _, rfl⟩)
      · have hall : ∀ c ∈ cs, ¬ noDue c := fun c hc hn => hb ⟨c, hc, hn⟩
        have hany : (ys.toArray.any fun y => y == Value.none) = false := by
          rw [Array.any_eq_false]
          intro i hi hn
          have hi' : i < ys.length := by simpa using hi
          have e1 := List.getElem?_eq_getElem hi'
          obtain ⟨c, hc⟩ := at1 i _ e1
          rcases key i _ c e1 hc with ⟨n, _⟩ | ⟨_, r, _, _, _, _, _, _, e, _⟩
          · exact hall c (List.mem_of_getElem? hc) n
          · have : (ys.toArray[i] == Value.none) = true := hn
            rw [show ys.toArray[i] = ys[i] by simp, e] at this
            exact absurd this Bool.false_ne_true
        rw [hany, if_neg Bool.false_ne_true]
        refine ld F' rfl ?_
        refine hR _ _ _ kp (.inr ⟨hall, D, ys.toArray, _, rfl, fr₁ _ hDn, hD, by simp; omega, fun i d c hd hc => ?_⟩)
        rcases key i d c (by simpa using hd) hc with ⟨n, _⟩ | ⟨_, z⟩
        · exact absurd n (hall c (List.mem_of_getElem? hc))
        · exact z
end
end Mine

/-! N18 -/
namespace Mine
/-! a for over a list, under the caller, said over heaps -/
section
variable {w : World} {A : Around} {E : Value → Shared → Prop} {s : Shared} {env : Env} {R : Result → Shared → Prop}
theorem K_for_list {x : Str} {px : Pos} {body : List Stmt} {I ax : Addr} {its : Array Value} {m : Str → Option Value} (hh : A.handled = none) (hx : env.kindOf x = some .local)
    (hp : (env.scope.kind == .class || (env.scope.kind == .module && env.locals != env.globals)) = false)
    (hIL : I ≠ env.locals) (haL : ax ≠ env.locals) (haI : ax ≠ I) (hit : s.heap.IsListIter I ax 0) (hl : s.heap.IsList ax its) (hn : s.heap.Ns env.locals m)
    (J : Nat → (Str → Option Value) → Heap → Prop)
    (hJ : ∀ i m h h', J i m h → (∀ b o, b ≠ I → b ≠ env.locals → h.get? b = some o → h'.get? b = some o) → J i m h') (h0 : J 0 m s.heap)
    (step : ∀ i v m₁ h tk, its[i]? = some v → J i m₁ h → h.Ns env.locals (fun y => if y = x then some v else m₁ y) → h.IsListIter I ax (i + 1) → h.IsList ax its →
      wpC (model PR w) A (execs body env) (fun f s₂ => f = .next ∧ ∃ h' tk' m', s₂ = { s with heap := h', toks := tk' } ∧ h'.Ns env.locals m' ∧ h'.IsListIter I ax (i + 1) ∧ h'.IsList ax its ∧ J (i + 1) m' h')
        (notedBy (model PR w) A env fun e s' => R (.error e) s') { s with heap := h, toks := tk })
    (hR : ∀ h' tk m', h'.Ns env.locals m' → J its.size m' h' → R (.ok .next) { s with heap := h', toks := tk }) :
    codeC (model PR w) A (.forLoop (.Name x px) (.ref I) body [] env) R s := by
  refine K_forLoop (fun k s' => ∃ h' tk m' i, s' = { s with heap := h', toks := tk } ∧ i ≤ its.size ∧ k = its.size - i ∧ h'.Ns env.locals m' ∧ h'.IsListIter I ax i ∧ h'.IsList ax its ∧ J i m' h') ?_ its.size
    ⟨s.heap, s.toks, m, 0, rfl, Nat.zero_le _, rfl, hn, hit, hl, h0⟩
  rintro k s' ⟨h', tk, m', i, rfl, hi, rfl, hn', hit', hl', hj⟩
  by_cases hlt : i < its.size
  · refine C_any ((Walks.list hh I ax haI its).item i _ _ _ hlt ⟨hit', hl'⟩ fun v h₂ tk₂ hv st₂ hk₂ => ?_)
    have hnI : ∀ o, h'.get? env.locals = some o → h₂.get? env.locals = some o := fun o e => hk₂ _ o (by simpa using Ne.symm hIL) e
    refine C_any (wpAny_assign_Name (wpAny_storeName_local hx (hn'.at' hnI) (fun h₃ hn₃ hs₃ => ?_) hp))
    refine C_mono (step i v m' h₃ _ hv (hJ i m' h' h₃ hj fun b o hb hb' e => hs₃.extBut b o hb' (hk₂ b o (by simpa using hb) e)) hn₃ (st₂.1.extBut hs₃.extBut hIL) (st₂.2.extBut hs₃.extBut haL)) (fun f s₂ hf => ?_) fun _ _ e => e
    obtain ⟨rfl, h₄, tk₄, m₄, rfl, hn₄, hi₄, hl₄, hj₄⟩ := hf
    exact ⟨its.size - (i + 1), by omega, h₄, tk₄, m₄, i + 1, rfl, hlt, rfl, hn₄, hi₄, hl₄, hj₄⟩
  · obtain rfl : i = its.size := by omega
    refine C_any ((Walks.list hh I ax haI its).done _ _ _ ⟨hit', hl'⟩ fun h₂ tk₂ hk₂ => ?_)
    exact hR h₂ tk₂ m' (hn'.at' fun o e => hk₂ _ o (by simpa using Ne.symm hIL) e) (hJ _ m' h' h₂ hj fun b o hb _ e => hk₂ b o (by simpa using hb) e)
/-- x.append(e) as a statement -/
theorem append_stmt {o e : Expr} {ap pos spos : Pos} {D : Addr} {pl : Sem Bool} {Q : Flow → Shared → Prop}
    (h : wpAny (model PR w) A (eval o env) (fun ov s₁ => ∃ acc n, ov = .ref D ∧ s₁.heap.get? D = some (listO acc n) ∧
      wpAny (model PR w) A (eval e env) (fun v s₂ => ∃ acc n, acc.size ≤ sizeLine ∧ s₂.heap.get? D = some (listO acc n) ∧ ∀ h', (∀ b o, b ≠ D → s₂.heap.get? b = some o → h'.get? b = some o) → h'.get? D = some (listO (acc.push v) (n + 1)) → Q .next { s₂ with heap := h' }) E s₁) E s)
    (hi : interactive env = false := by rfl) (hs : swapsWith (.Call (.Attribute o (Str.ofString "append") ap) [e] [] pos) none spos.line env = pure false := by with_unfolding_all rfl)
    (he : eval (.Call (.Attribute o (Str.ofString "append") ap) [e] [] pos) env = (do
      let ov ← eval o env
      standAt ap.atName
      let (f, first) ← holding [ov] (getMethod ov (Str.ofString "append") pl)
      callWith pos f first (backTo pos (starEach [e] env)) []) := by rfl)
    (hst : starEach [e] env = [(false, eval e env)] := by rfl) :
    wpAny (model PR w) A (exec (.Expr (.Call (.Attribute o (Str.ofString "append") ap) [e] [] pos) spos) env) Q E s := by
  refine wpAny_Expr ?_ hi hs
  rw [he]
  refine wpAny_bind (wpAny_mono h (fun ov s₁ h₁ => ?_) fun _ _ x => x)
  obtain ⟨acc, n, rfl, hD, h₁⟩ := h₁
  refine wpAny_bind (wpAny_standAt (wpAny_bind (wpAny_holding ?_)))
  refine Calls.getMethod_list_append hD rfl rfl ?_
  dsimp only
  rw [hst]
  refine P.append_list (wpAny_mono h₁ (fun v s₂ h₂ => ?_) fun _ _ x => x)
  obtain ⟨acc, n, hz, hD₂, hQ⟩ := h₂
  refine ⟨acc, n, hz, hD₂, ?_⟩
  refine hQ _ (fun b o hb e => (Heap.get?_update_other _ _ (Ne.symm hb)).trans e) ?_
  rw [Heap.get?_update_self _ hD₂ (by rw [mapSeq_push]; rfl), mapSeq_push]
end
/-- the pieces, as they lie -/
def PcsAt (h₀ h : Heap) (ex : List Addr) (P : Addr) (n : Nat) (vs : List Value) : Prop :=
  ∃ acc c, h.get? P = some (listO acc c) ∧ acc.size ≠ 0 ∧ acc.size ≤ n + 1 ∧ h₀.get? P = none ∧ P ∉ ex ∧
    ∀ u ∈ acc.toList, ∃ q its k, u = .ref q ∧ q ≠ P ∧ h₀.get? q = none ∧ q ∉ ex ∧ h.get? q = some (listO its k) ∧ its.size ≤ n ∧ ∀ v ∈ its.toList, v ∈ vs
theorem PcsAt.keeps {h₀ h h' : Heap} {ex : List Addr} {P : Addr} {n : Nat} {vs : List Value} (x : PcsAt h₀ h ex P n vs) (k : ∀ b o, b ∉ ex → h.get? b = some o → h'.get? b = some o) : PcsAt h₀ h' ex P n vs := by
  obtain ⟨acc, c, e1, e2, e3, e4, e5, e6⟩ := x
  refine ⟨acc, c, k _ _ e5 e1, e2, e3, e4, e5, fun u hu => ?_⟩
  obtain ⟨q, its, k', f1, f2, f3, f4, f5, f6, f7⟩ := e6 u hu
  exact ⟨q, its, k', f1, f2, f3, f4, k _ _ f4 f5, f6, f7⟩
end Mine

/-! N19 -/
namespace Mine
section
variable {w : World} {mean : ExcName → Option Value} {mg mb : Str → Option Value} {dp un : Nat} {l : List Env} {gd : Option (List Code)} {s : Shared} {base : Heap} {R : Result → Shared → Prop}
theorem pieces {ax : Addr} {its : Array Value} (U : Und w mean mg mb (Ar dp un l gd) base l s.heap) (hroom : dp + 1 < recursionLimit) (hu : un + 100 < cLine)
    (hl : s.heap.IsList ax its) (hok : ∀ v ∈ its.toList, ∃ c t, v = .int c t) (hsz : its.size ≤ 64)
    (hR : ∀ h' tk P, Kp s.heap h' → PcsAt s.heap h' [] P its.size its.toList → R (.ok (.ret (.ref P))) { s with heap := h', toks := tk }) :
    codeC (model PR w) (Ar dp un l gd) (.call (.ref 111) ⟨[.ref ax], []⟩) R s := by
  refine' enter_C (binds := [(Str.ofString "cells", .ref ax)]) U (by show dp < _; omega) ?k6 ?k7 ?k9 ?h ?c1 ?c5 ?c2 ?c3 ?c4
  case k6 => k_is
  case k7 => k_is
  case k9 => exact BindsTo.of_eq rfl
  case c1 => exact rfl
  case c5 => decide
  case c2 => exact rfl
  case c3 => exact rfl
  case c4 => exact rfl
  case h =>
    intro L h₁ k1 hsz₁ hLn hns U₁ hL
    have hLlt : @LT.lt Nat _ L h₁.objs.size := hns.lt
    have new1 : ∀ {y : Addr}, h₁.objs.size ≤ y → s.heap.get? y = none := fun hy => Heap.get?_none_of_le (by omega)
    refine C_execs_cons (C_any (wpAny_Assign_Name (List_ ?_) (by with_unfolding_all rfl)))
    simp only [starEach, backTo, List.map, Bool.false_eq_true, if_false]
    refine Calls.spliced_cons (List_ ?_)
    simp only [starEach, backTo, List.map]
    refine Calls.spliced_nil (wpAny_newObj_type (Calls.spliced_nil (wpAny_newObj_type ?_)))
    dsimp only
    generalize hH2 : h₁.push _ = H2
    have eq0 : H2.get? h₁.objs.size = some (listO #[] 0) := hH2 ▸ Heap.get?_push_size _ rfl
    have es2 : H2.objs.size = h₁.objs.size + 1 := by rw [← hH2, Heap.size_push]
    generalize hH3 : H2.push _ = H3
    have eP0 : H3.get? H2.objs.size = some (listO #[.ref h₁.objs.size] _) := hH3 ▸ Heap.get?_push_size _ rfl
    have eq1 : H3.get? h₁.objs.size = some (listO #[] 0) := hH3 ▸ Heap.get?_push_of_some _ eq0
    have es3 : H3.objs.size = h₁.objs.size + 2 := by rw [← hH3, Heap.size_push, es2]
    have k3 : Kp h₁ H3 := fun b o e => hH3 ▸ Heap.get?_push_of_some _ (hH2 ▸ Heap.get?_push_of_some _ e)
    have hns3 : H3.Ns L _ := hns.at' fun o e => k3 _ _ e
    refine wpAny_storeName_local (by rfl) hns3 (fun h₄ hn₄ hs₄ => ?_) (by rfl)
    dsimp only
    generalize hq : h₁.objs.size = q at *
    generalize hP : H2.objs.size = P at *
    have hqL : @Ne Nat q L := by intro z; omega
    have hPL : @Ne Nat P L := by intro z; omega
    have hPq : @Ne Nat q P := by intro z; omega
    have k4 : Kp s.heap h₄ := fun b o e => hs₄.extBut b o (fun z => by have z' : b = L := z; rw [z', hLn] at e; cases e) (k3 _ _ (k1 _ _ e))
    have F₄ : Fr s.heap L h₄ _ := ⟨hn₄, k4, by rw [hL]; exact Nat.le_refl _⟩
    refine C_execs_cons (C_For (C_any (ld F₄ (by rfl) ?_)))
    have hl₄ : h₄.IsList ax its := let ⟨o, e, r⟩ := hl; ⟨o, k4 _ _ e, r⟩
    refine C_any (wpAny_pyIter_list hl₄ ?_)
    have sz4 : H3.objs.size ≤ h₄.objs.size := by
      refine Nat.not_lt.mp fun hlt => ?_
      have : @LT.lt Nat _ P h₄.objs.size := Heap.lt_size (hs₄.extBut _ _ hPL eP0)
      rw [es3] at hlt
      have hP' : P = q + 1 := by omega
      omega
    generalize hIe : h₄.objs.size = I
    generalize hH5 : h₄.push _ = H5
    have k5 : Kp h₄ H5 := fun b o e => hH5 ▸ Heap.get?_push_of_some _ e
    have hIt : H5.IsListIter I ax 0 := ⟨_, by rw [← hH5, ← hIe]; exact Heap.get?_push_size _ rfl, rfl, rfl⟩
    have hqI : @Ne Nat q I := by intro z; omega
    have hPI : @Ne Nat P I := by intro z; omega
    have hIL : @Ne Nat I L := by intro z; omega
    have hIn : s.heap.get? I = none := Heap.get?_none_of_le (by omega)
    have haL : ax ≠ L := fun z => by obtain ⟨o, e, _⟩ := hl; rw [z, hLn] at e; cases e
    have haI : ax ≠ I := fun z => by obtain ⟨o, e, _⟩ := hl; rw [z, hIn] at e; cases e
    refine K_for_list (m := fun x => if x = Str.ofString "pieces" then some (.ref P) else _) rfl (by rfl) (by rfl) hIL haL haI hIt (let ⟨o, e, r⟩ := hl₄; ⟨o, k5 _ _ e, r⟩) (hn₄.at' fun o e => k5 _ _ e)
      (fun i m h => m (Str.ofString "pieces") = some (.ref P) ∧ Kp s.heap h ∧ PcsAt s.heap h [L, I] P i its.toList) ?hJ ?h0 ?step ?hR
    case hJ =>
      rintro i m h h' ⟨j1, j2, j3⟩ k
      refine ⟨j1, fun b o e => k b o (fun z => by rw [z, hIn] at e; cases e) (fun z => by have z' : b = L := z; rw [z', hLn] at e; cases e) (j2 b o e), j3.keeps fun b o hb e => k b o (fun z => hb (by simp [z])) (fun z => hb (by have z' : b = L := z; simp [z'])) e⟩
    case h0 =>
      refine ⟨rfl, Kp.trans k4 k5, _, _, k5 _ _ (hs₄.extBut _ _ hPL eP0), by simp, by simp, Heap.get?_none_of_le (by omega), by simp [hPL, hPI], fun u hu => ?_⟩
      simp only [List.mem_singleton] at hu
      subst hu
      exact ⟨q, #[], 0, rfl, hPq, Heap.get?_none_of_le (by omega), by simp [hqL, hqI], k5 _ _ (hs₄.extBut _ _ hqL eq1), by simp, by simp⟩
    case hR =>
      rintro h' tk' m' hn' ⟨j1, j2, j3⟩
      dsimp only
      have F' : Fr s.heap L h' m' := ⟨hn', j2, by rw [hL]; exact Nat.le_refl _⟩
      refine C_execs_cons (C_Return (C_any (ld F' j1 ?_)))
      refine hR h' _ P j2 ?_
      obtain ⟨acc, c, e1, e2, e3, e4, e5, e6⟩ := j3
      refine ⟨acc, c, e1, e2, e3, e4, by simp, fun u hu => ?_⟩
      obtain ⟨q', its', k', f1, f2, f3, f4, f5, f6, f7⟩ := e6 u hu
      exact ⟨q', its', k', f1, f2, f3, by simp, f5, f6, f7⟩
    case step =>
      rintro i v m₁ h tk' hv ⟨j1, j2, j3⟩ hn hit hli
      obtain ⟨acc, c, e1, e2, e3, e4, e5, e6⟩ := j3
      have hi : i < its.size := by
        rcases Nat.lt_or_ge i its.size with z | z
        · exact z
        · rw [Array.getElem?_eq_none z] at hv; cases hv
      have hvm : v ∈ its.toList := by
        have hv' : its.toList[i]? = some v := by rw [Array.getElem?_toList]; exact hv
        exact List.mem_of_getElem? hv'
      obtain ⟨cv, tv, rfl⟩ := hok v hvm
      have F' : Fr s.heap L h _ := ⟨hn, j2, by rw [hL]; exact Nat.le_refl _⟩
      have hlast : acc.size - 1 < acc.size := by omega
      obtain ⟨q', its', k', f1, f2, f3, f4, f5, f6, f7⟩ := e6 acc[acc.size - 1] (by simp)
      simp only [List.mem_cons, List.not_mem_nil, or_false, not_or] at f4 e5
      refine C_execs_cons (C_any (append_stmt (D := q') (Subscript_ (ld F' (v := .ref P) ?_ (UnaryOp_ (wpAny_Constant_int (PySem.P.neg_int ?_)))))))
      · exact j1
      refine tail_any (T := "list") ⟨_, e1, rfl⟩ slot_list_getitem.lookup (wpAny_getItem_list_neg (x := .ref q') ⟨_, e1, rfl, _, rfl⟩ (by decide) (by omega) (by decide) ?_ ?_) (by with_unfolding_all rfl)
      · rw [← f1, show ((-1 : Int) + (acc.size : Int)).toNat = acc.size - 1 by omega]
        exact Array.getElem?_eq_getElem hlast
      refine ⟨its', k', rfl, f5, ld F' rfl ?_⟩
      refine ⟨its', k', by rw [sizeLine_eq]; omega, f5, fun h₂ hk₂ hq₂ => ?_⟩
      dsimp only
      have j2' : Kp s.heap h₂ := fun b o e => hk₂ b o (fun z => by rw [z, f3] at e; cases e) (j2 b o e)
      have hn₂ : h₂.Ns L _ := hn.at' fun o e => hk₂ _ o (Ne.symm f4.1) e
      have F₂ : Fr s.heap L h₂ _ := ⟨hn₂, j2', by rw [hL]; exact Nat.le_refl _⟩
      have e1₂ := hk₂ _ _ (Ne.symm f2) e1
      have hit₂ : h₂.IsListIter I ax (i + 1) := hit.at fun o e => hk₂ _ o (Ne.symm f4.2) e
      have hli₂ : h₂.IsList ax its := hli.at fun o e => hk₂ _ o (fun z => by obtain ⟨o, e, _⟩ := hl; rw [z, f3] at e; cases e) e
      have pcs₂ : ∀ u ∈ acc.toList, ∃ q its' k, u = .ref q ∧ q ≠ P ∧ s.heap.get? q = none ∧ q ∉ [L, I] ∧ h₂.get? q = some (listO its' k) ∧ its'.size ≤ i + 1 ∧ ∀ v ∈ its'.toList, v ∈ its.toList := fun u hu => by
        obtain ⟨q₂, its₂, k₂, g1, g2, g3, g4, g5, g6, g7⟩ := e6 u hu
        by_cases hqq : q₂ = q'
        · subst hqq
          refine ⟨q₂, its'.push _, _, g1, g2, g3, g4, hq₂, by rw [Array.size_push]; omega, fun v' hv' => ?_⟩
          rw [Array.toList_push, List.mem_append] at hv'
          rcases hv' with hv' | hv'
          · exact f7 v' hv'
          · rw [List.mem_singleton.mp hv']; exact hvm
        · exact ⟨q₂, its₂, k₂, g1, g2, g3, g4, hk₂ _ _ hqq g5, by omega, g7⟩
      refine C_execs_cons (C_any (wpAny_If (wpAny_isTrue_Compare1 (wpAny_BinOp (ld F₂ rfl (wpAny_Constant_int (mod_int' (by decide) (wpAny_Constant_int (PySem.P.eq_int (wpAny_truthy_bool ?_))))))) (by with_unfolding_all rfl))))
      cases cv.fmod 4 == 0 with
      | false =>
        rw [if_neg Bool.false_ne_true]
        refine wpAny_execs_nil ?_
        dsimp only
        refine C_execs_nil ⟨rfl, h₂, _, _, rfl, hn₂, hit₂, hli₂, j1, j2', acc, c, e1₂, e2, by omega, e4, by simp [e5.1, e5.2], pcs₂⟩
      | true =>
        rw [if_pos rfl]
        refine wpAny_execs_cons (append_stmt (D := P) (ld F₂ (v := .ref P) j1 ?_))
        refine ⟨acc, c, rfl, e1₂, List_ ?_⟩
        simp only [starEach, backTo, List.map]
        refine Calls.spliced_nil (wpAny_newObj_type ?_)
        dsimp only
        generalize hH6 : h₂.push _ = H6
        have k6 : Kp h₂ H6 := fun b o e => hH6 ▸ Heap.get?_push_of_some _ e
        have e6' : H6.get? h₂.objs.size = some (listO #[] 0) := hH6 ▸ Heap.get?_push_size _ rfl
        refine ⟨acc, c, by rw [sizeLine_eq]; omega, k6 _ _ e1₂, fun h₇ hk₇ hP₇ => ?_⟩
        try dsimp only
        have up : ∀ b o, b ≠ P → h₂.get? b = some o → h₇.get? b = some o := fun b o hb e => hk₇ b o hb (k6 _ _ e)
        have hnew : ∀ {b : Addr} {o : Obj}, h₂.get? b = some o → @Ne Nat h₂.objs.size b := fun e z => Nat.lt_irrefl _ (z ▸ Heap.lt_size e)
        refine wpAny_execs_nil ?_
        dsimp only
        refine C_execs_nil ⟨rfl, h₇, _, _, rfl, hn₂.at' fun o e => up _ o (Ne.symm hPL) e, hit₂.at fun o e => up _ o (Ne.symm hPI) e, hli₂.at fun o e => up _ o (fun z => by obtain ⟨o, e, _⟩ := hl; rw [z, e4] at e; cases e) e, j1,
          fun b o e => up b o (fun z => by rw [z, e4] at e; cases e) (j2' b o e), acc.push (.ref h₂.objs.size), c + 1, hP₇, by simp, by rw [Array.size_push]; omega, e4, by simp [e5.1, e5.2], fun u hu => ?_⟩
        rw [Array.toList_push, List.mem_append] at hu
        rcases hu with hu | hu
        · obtain ⟨q₂, its₂, k₂, g1, g2, g3, g4, g5, g6, g7⟩ := pcs₂ u hu
          exact ⟨q₂, its₂, k₂, g1, g2, g3, g4, up _ _ g2 g5, g6, g7⟩
        · rw [List.mem_singleton.mp hu]
          obtain ⟨oL, _, _, hoL, _⟩ := hn₂
          obtain ⟨oI, hoI, _⟩ := hit₂
          refine ⟨h₂.objs.size, #[], 0, rfl, hnew e1₂, ?_, ?_, hk₇ _ _ (hnew e1₂) e6', by simp, by simp⟩
          · cases z : s.heap.get? h₂.objs.size with
            | none => rfl
            | some o => exact absurd rfl (hnew (j2' _ _ z))
          · simp only [List.mem_cons, List.not_mem_nil, or_false, not_or]
            exact ⟨hnew hoL, hnew hoI⟩
end
end Mine

/-! N20 -/
namespace Mine
/-! comparisons -/
theorem all_true (n : Nat) : (List.range n).all (fun _ => true) = true := by simp
section
variable {A : Around} {s : Shared}
theorem atm_eq {v v' : Value} {d : PyData} (a : Atm v d) (a' : Atm v' d) : EqAt A s v v' true := by
  rcases a with ⟨n, t, rfl, rfl⟩ | ⟨x, t, rfl, rfl⟩
  · rcases a' with ⟨n', t', rfl, e⟩ | ⟨x', t', rfl, e⟩
    · cases e
      have := EqAt.int_int (A := A) (s := s) n t n t'
      rwa [beq_self_eq_true] at this
    · cases e
  · rcases a' with ⟨n', t', rfl, e⟩ | ⟨x', t', rfl, e⟩
    · cases e
    · cases e
      have := EqAt.str_str (A := A) (s := s) x t x t'
      rwa [beq_self_eq_true] at this
theorem allAtm_eq {vs vs' : List Value} {ds : List PyData} (a : AllAtm vs ds) (a' : AllAtm vs' ds) (j : Nat) (h1 : j < vs.length) (h2 : j < vs'.length) : EqAt A s vs[j] vs'[j] true := by
  obtain ⟨d, e1, e2⟩ := allAtm_at a j _ (List.getElem?_eq_getElem h1)
  obtain ⟨d', e1', e2'⟩ := allAtm_at a' j _ (List.getElem?_eq_getElem h2)
  rw [e1] at e1'
  cases e1'
  exact atm_eq e2 e2'
theorem tup_eq {l b : Addr} {vs vs' : List Value} (hl : s.heap.get? l = some (tupO vs)) (hb : s.heap.get? b = some (tupO vs')) (hu : A.units < cLine) (hlen : vs.length = vs'.length)
    (he : ∀ (j : Nat) (h1 : j < vs.length) (h2 : j < vs'.length), EqAt A.in1 s vs[j] vs'[j] true) : EqAt A s (.ref l) (.ref b) true := by
  by_cases q : l = b
  · rw [q]; exact EqAt.same _
  · have := RcAt.tuples (A := A) (s := s) (e := fun _ => true) (items := vs.toArray) (items2 := vs'.toArray) ⟨_, hl, rfl, _, rfl⟩ ⟨_, hb, rfl, _, rfl⟩ hu (fun j h1 h2 => by simpa using he j (by simpa using h1) (by simpa using h2))
    rw [all_true, Bool.true_and, show (vs.toArray.size == vs'.toArray.size) = true by simp [hlen]] at this
    exact EqAt.of_refs q this
theorem due_eq {h₀ h₁ : Heap} {u u' : Value} {row : Option (List PyData)} (x : DueF h₀ s.heap u row) (y : DueF h₁ s.heap u' row) (hu : A.units + 2 < cLine) : EqAt A s u u' true := by
  obtain ⟨r, t, y0, y1, ys, d, ds, rfl, e2, e3, e4, e5, e6, e7, e8, e9⟩ := x
  obtain ⟨r', t', y0', y1', ys', d', ds', rfl, f2, f3, f4, f5, f6, f7, f8, f9⟩ := y
  rw [e2] at f2
  cases f2
  refine tup_eq e3 f3 (by omega) rfl fun j h1 h2 => ?_
  have hj : j = 0 ∨ j = 1 ∨ j = 2 := by simp at h1; omega
  rcases hj with rfl | rfl | rfl
  · exact atm_eq e5 f5
  · exact atm_eq e6 f6
  · exact tup_eq e4 f4 (by show A.units + 1 < _; omega) (by rw [e7.length, f7.length]) fun j h1 h2 => allAtm_eq e7 f7 j h1 h2
end
section
variable {prog : Program} {w : World} {A : Around} {E : Value → Shared → Prop} {s : Shared}
theorem ne_lists {l b : Addr} {its its' : Array Value} {Q : Value → Shared → Prop} (hl : s.heap.IsList l its) (hb : s.heap.IsList b its') (hsz : its.size = its'.size) (hu : A.units < cLine)
    (he : ∀ (j : Nat) (h1 : j < its.size) (h2 : j < its'.size), EqAt A.in1 s its[j] its'[j] true) (h : Q (.bool false) s) : wpAny (model prog w) A (compareOp .NotEq (.ref l) (.ref b)) Q E s := by
  refine RcNeAt.lists (e := fun _ => true) hl hb hsz hu he prog w E Q ?_
  rw [all_true]; exact h
theorem eq_lists {l b : Addr} {its its' : Array Value} {Q : Value → Shared → Prop} (hl : s.heap.IsList l its) (hb : s.heap.IsList b its') (hsz : its.size = its'.size) (hu : A.units < cLine)
    (he : ∀ (j : Nat) (h1 : j < its.size) (h2 : j < its'.size), EqAt A.in1 s its[j] its'[j] true) (h : Q (.bool true) s) : wpAny (model prog w) A (compareOp .Eq (.ref l) (.ref b)) Q E s := by
  refine RcAt.lists (e := fun _ => true) hl hb hsz hu he prog w E Q ?_
  rw [all_true]; exact h
end
theorem meets_range_eq (a b : Addr) (n : Int) (t u v t' u' v' : Tok) :
    Meets (Builtin.«range.__eq__» ⟨[.ref a, .ref b], []⟩) (fun _ R s => IsRange s.heap a 0 n 1 t u v ∧ IsRange s.heap b 0 n 1 t' u' v' ∧ R (.ok (.ret (.bool true))) s) :=
  .of_wp fun prog w A R s h => by
    obtain ⟨hp, g, d, tk, os⟩ := s
    obtain ⟨ha, hb, h⟩ := h
    wp_walk using AutoSeq1.wpAny_loadPart' ha, AutoSeq1.wpAny_loadPart' hb
    exact ⟨_, rfl, by simpa using h⟩
end Mine

/-! N21 -/
namespace Mine
/-! two rows of one number are equal -/
theorem reads_ints_atm {h : Heap} : ∀ {vs : List Value} {ds : List PyData} {as : List Addr}, (∀ d ∈ ds, ∃ i, d = .int i) → ReadsAll h vs ds as → AllAtm vs ds
  | [], _, _, _, r => by cases r; exact trivial
  | v :: vs, _, _, hd, r => by
    cases r with
    | cons r1 r2 =>
      rename_i d ds as bs
      obtain ⟨i, rfl⟩ := hd d (.head _)
      cases r1 with
      | int => exact ⟨.inl ⟨_, _, rfl, rfl⟩, reads_ints_atm (fun d m => hd d (.tail _ m)) r2⟩
theorem hits_of {prog : Program} {w : World} {A : Around} {s : Shared} {kb : List (Int × Value)} : ∀ {ka : List (Int × Value)}, (∀ q ∈ ka, ∃ y, valueAt kb q.1 = some y ∧ EqAt A s q.2 y true) → KeqHits A s kb ka true
  | [], _ => .nil
  | (k, v) :: r, h => by
    obtain ⟨y, e1, e2⟩ := h (k, v) (.head _)
    exact KeqHits.hit (e := true) (b := true) e1 e2 (hits_of (prog := prog) (w := w) fun q m => h q (.tail _ m))
theorem valueAt_mem : ∀ {kb : List (Int × Value)} {k : Int}, k ∈ kb.map (·.1) → ∃ y, valueAt kb k = some y ∧ ∃ k', (k', y) ∈ kb
  | (k₀, y₀) :: r, k, h => by
    by_cases q : k₀ = k
    · refine ⟨y₀, ?_, k₀, .head _⟩
      unfold valueAt
      simp [q]
    · have hr : k ∈ r.map (·.1) := by
        rw [List.map_cons] at h
        rcases List.mem_cons.mp h with z | z
        · exact absurd z.symm q
        · exact z
      obtain ⟨y, e1, k', e2⟩ := valueAt_mem hr
      refine ⟨y, ?_, k', .tail _ e2⟩
      unfold valueAt at e1 ⊢
      rw [List.find?_cons_of_neg (by simpa using q)]
      exact e1
theorem pairs_vals {prog : Program} {w : World} : ∀ {es : List DictEntry} {kvs : List (Int × Value)}, Pairs (intKind prog w) es kvs → kvs.map (·.2) = es.map (·.val)
  | _, _, .nil => rfl
  | _, _, .cons _ b c => by rw [List.map_cons, List.map_cons, pairs_vals c, b]
/-- a dict row: its keys and values -/
theorem dict_at {h : Heap} {d : Addr} {c : Nat} {v x : Int} {as : List Addr} (R : RowAt h (.ref d) (some (inD v c))) (M : Reads h (.ref d) (.dict ((List.range c).map fun (i : Nat) => (PyData.int (v + i), PyData.int x))) as) :
    (d == sysModules) = false ∧ ∀ (prog : Program) (w : World), ∃ kvs, h.DictOf (intKind prog w) d kvs ∧ kvs.map (fun q => PyData.int q.1) = inD v c ∧ ∀ q ∈ kvs, ∃ t, q.2 = .int x t := by
  cases M with
  | dict a b cc d' e =>
    generalize hrow : some (inD v c) = row at R
    cases R with
    | list a' b' => rw [a] at a'; cases a'; rw [b] at b'; simp at b'
    | tup a' b' => rw [a] at a'; cases a'; rw [b] at b'; simp at b'
    | rng a' =>
      have a'' : h.get? d = some _ := a'
      rw [a] at a''; cases a''; simp at b
    | dict a' lo hn =>
      rename_i ep kvs
      refine ⟨lo, fun prog w => ⟨kvs, (a' prog w).dictOf, (Option.some.inj hrow).symm, fun q hq => ?_⟩⟩
      obtain ⟨o, es, ep', g1, _, g3, _, g5, _⟩ := (a' prog w).dictOf
      rw [a] at g1
      cases g1
      rw [cc] at g3
      cases g3
      have hv := reads_ints_atm (fun d m => by rw [List.map_map] at m; obtain ⟨i, _, rfl⟩ := List.mem_map.mp m; exact ⟨_, rfl⟩) e
      rw [← pairs_vals g5] at hv
      obtain ⟨i, hi, rfl⟩ := List.getElem_of_mem hq
      obtain ⟨dd, z1, z2⟩ := allAtm_at hv i kvs[i].2 (by rw [List.getElem?_map, List.getElem?_eq_getElem hi]; rfl)
      rw [List.map_map] at z1
      obtain ⟨j, _, z1⟩ := List.mem_map.mp (List.mem_of_getElem? z1)
      subst z1
      rcases z2 with ⟨n, t, z3, z4⟩ | ⟨_, _, _, z4⟩
      · cases z4; exact ⟨t, z3⟩
      · cases z4
section
variable {A : Around} {s : Shared}
theorem dict_eq {d d' : Addr} {c : Nat} {v x : Int} {as as' : List Addr} (R : RowAt s.heap (.ref d) (some (inD v c))) (M : Reads s.heap (.ref d) (.dict ((List.range c).map fun (i : Nat) => (PyData.int (v + i), PyData.int x))) as)
    (R' : RowAt s.heap (.ref d') (some (inD v c))) (M' : Reads s.heap (.ref d') (.dict ((List.range c).map fun (i : Nat) => (PyData.int (v + i), PyData.int x))) as') (hu : A.units < cLine) : EqAt A s (.ref d) (.ref d') true := by
  by_cases q : d = d'
  · rw [q]; exact EqAt.same _
  · obtain ⟨l1, k1⟩ := dict_at R M
    obtain ⟨l2, k2⟩ := dict_at R' M'
    refine EqAt.of_refs q fun prog w E Q h => ?_
    obtain ⟨ka, a1, a2, a3⟩ := k1 prog w
    obtain ⟨kb, b1, b2, b3⟩ := k2 prog w
    show wpAny _ _ (compareOp .Eq (.ref d) (.ref d')) _ _ _
    have hlen : ka.length = kb.length := by
      have := congrArg List.length (a2.trans b2.symm)
      simpa using this
    refine keq_eq (r := true) l1 l2 a1 b1 hu (fun _ => hits_of (prog := prog) (w := w) fun p hp => ?_) ?_
    · have hm : p.1 ∈ kb.map (·.1) := by
        have : PyData.int p.1 ∈ kb.map fun q => PyData.int q.1 := by
          rw [b2, ← a2]; exact List.mem_map.mpr ⟨p, hp, rfl⟩
        obtain ⟨z, z1, z2⟩ := List.mem_map.mp this
        exact List.mem_map.mpr ⟨z, z1, by injection z2⟩
      obtain ⟨y, e1, k', e2⟩ := valueAt_mem hm
      obtain ⟨t, e3⟩ := a3 p hp
      obtain ⟨t', e4⟩ := b3 _ e2
      refine ⟨y, e1, ?_⟩
      rw [e3, show y = _ from e4]
      exact atm_eq (d := .int x) (.inl ⟨_, _, rfl, rfl⟩) (.inl ⟨_, _, rfl, rfl⟩)
    · rw [hlen]; simpa using h
theorem seq_eq {h : Heap} {vs vs' : Array Value} {v : Int} {c : Nat} {as as' : List Addr} (a : ReadsAll h vs.toList (inD v c) as) (b : ReadsAll h vs'.toList (inD v c) as') : vs.size = vs'.size ∧ ∀ (A : Around) (s : Shared) (j : Nat) (h1 : j < vs.size) (h2 : j < vs'.size), EqAt A s vs[j] vs'[j] true := by
  have x := reads_ints_atm (inD_ints v c) a
  have y := reads_ints_atm (inD_ints v c) b
  refine ⟨by rw [← Array.length_toList, ← Array.length_toList, x.length, y.length], fun A s j h1 h2 => ?_⟩
  have := allAtm_eq (A := A) (s := s) x y j (by simpa using h1) (by simpa using h2)
  simpa using this
theorem row_eq {u u' : Value} {c : Int} (r : RowAt s.heap u (rowD c)) (m : Made s.heap u c) (r' : RowAt s.heap u' (rowD c)) (m' : Made s.heap u' c) (hu : A.units + 2 < cLine) : EqAt A s u u' true := by
  unfold Made at m m'
  unfold rowD at r r'
  by_cases q0 : c.fmod 6 = 0
  · simp only [if_pos q0] at m m'
    obtain ⟨as, m⟩ := m
    obtain ⟨as', m'⟩ := m'
    cases m with
    | list a b d e =>
    cases m' with
    | list a' b' d' e' =>
      rename_i x _ _ _ _ y _ _ _ _
      by_cases q : x = y
      · rw [q]; exact EqAt.same _
      · obtain ⟨z1, z2⟩ := seq_eq e e'
        have := RcAt.lists (A := A) (s := s) (e := fun _ => true) ⟨_, a, b, _, d⟩ ⟨_, a', b', _, d'⟩ z1 (by omega) (fun j h1 h2 => z2 _ _ j h1 h2)
        rw [all_true] at this
        exact EqAt.of_refs q this
  by_cases q1 : c.fmod 6 = 1
  · simp only [if_neg q0, if_pos q1] at m m'
    obtain ⟨as, m⟩ := m
    obtain ⟨as', m'⟩ := m'
    cases m with
    | tuple a b d e =>
    cases m' with
    | tuple a' b' d' e' =>
      rename_i x _ _ _ y _ _ _
      by_cases q : x = y
      · rw [q]; exact EqAt.same _
      · obtain ⟨z1, z2⟩ := seq_eq e e'
        have := RcAt.tuples (A := A) (s := s) (e := fun _ => true) ⟨_, a, b, _, d⟩ ⟨_, a', b', _, d'⟩ (by omega) (fun j h1 h2 => z2 _ _ j h1 h2)
        rw [all_true, Bool.true_and, z1, beq_self_eq_true] at this
        exact EqAt.of_refs q this
  by_cases q2 : c.fmod 6 = 2
  · simp only [if_neg q0, if_neg q1, if_pos q2] at m m'
    obtain ⟨a, t1, t2, t3, rfl, m⟩ := m
    obtain ⟨a', t1', t2', t3', rfl, m'⟩ := m'
    by_cases q : a = a'
    · rw [q]; exact EqAt.same _
    · refine EqAt.of_refs q fun prog w E Q h => ?_
      exact richCompare_meets_room (op := .Eq) ⟨_, m, rfl⟩ ⟨_, m', rfl⟩ PySem.F.slot_range_eq PySem.F.entry_range_eq (PySem.F.args_range_eq_2 _ _) (meets_range_eq a a' (cnt c) t1 t2 t3 t1' t2' t3')
        ⟨m, m', show Value.bool true ≠ Value.notImplemented ∧ Q (.bool true) s from ⟨(fun x => nomatch x), h⟩⟩ (by omega)
  by_cases q3 : c.fmod 6 = 3
  · simp only [if_neg q0, if_neg q1, if_neg q2, if_pos q3] at m m'
    obtain ⟨t, rfl⟩ := m
    obtain ⟨t', rfl⟩ := m'
    exact atm_eq (d := .str _) (.inr ⟨_, _, rfl, rfl⟩) (.inr ⟨_, _, rfl, rfl⟩)
  by_cases q4 : c.fmod 6 = 4 ∨ (c.fdiv 30).fmod 3 ≠ 2
  · simp only [if_neg q0, if_neg q1, if_neg q2, if_neg q3, if_pos q4] at m m' r r'
    obtain ⟨as, m⟩ := m
    obtain ⟨as', m'⟩ := m'
    obtain ⟨d, rfl⟩ : ∃ d, u = .ref d := by cases m; exact ⟨_, rfl⟩
    obtain ⟨d', rfl⟩ : ∃ d, u' = .ref d := by cases m'; exact ⟨_, rfl⟩
    exact dict_eq r m r' m' (by omega)
  · simp only [if_neg q0, if_neg q1, if_neg q2, if_neg q3, if_neg q4] at m m'
    obtain ⟨t, rfl⟩ := m
    obtain ⟨t', rfl⟩ := m'
    exact atm_eq (d := .int _) (.inl ⟨_, _, rfl, rfl⟩) (.inl ⟨_, _, rfl, rfl⟩)
end
/-! bad rows -/
theorem inD_nil {v : Int} {c : Nat} : inD v c = [] ↔ c = 0 := by
  unfold inD
  simp [List.map_eq_nil_iff, List.range_eq_nil]
theorem letters_nil {c : Int} (h0 : 0 ≤ c) (h : c < 5) : letters c = [] ↔ c = 0 := by
  have : c = 0 ∨ c = 1 ∨ c = 2 ∨ c = 3 ∨ c = 4 := by omega
  rcases this with rfl | rfl | rfl | rfl | rfl <;> decide +kernel
theorem bad_iff (c : Int) : noDue c ↔ (rowD c = none ∨ rowD c = some []) := by
  have h6 := Int.fmod_lt_of_pos c (show (0 : Int) < 6 by decide)
  have h6' := Int.fmod_nonneg_of_pos c (show (0 : Int) < 6 by decide)
  have hc := cnt_lt c
  have hz : (cnt c).toNat = 0 ↔ cnt c = 0 := by omega
  unfold noDue rowD
  by_cases q0 : c.fmod 6 = 0
  · simp only [if_pos q0, reduceCtorEq, false_or, Option.some.injEq, inD_nil, hz]
    exact ⟨fun h => h.elim id fun ⟨_, h, _⟩ => by omega, .inl⟩
  by_cases q1 : c.fmod 6 = 1
  · simp only [if_neg q0, if_pos q1, reduceCtorEq, false_or, Option.some.injEq, inD_nil, hz]
    exact ⟨fun h => h.elim id fun ⟨_, h, _⟩ => by omega, .inl⟩
  by_cases q2 : c.fmod 6 = 2
  · simp only [if_neg q0, if_neg q1, if_pos q2, reduceCtorEq, false_or, Option.some.injEq, List.map_eq_nil_iff, List.range_eq_nil, hz]
    exact ⟨fun h => h.elim id fun ⟨_, h, _⟩ => by omega, .inl⟩
  by_cases q3 : c.fmod 6 = 3
  · simp only [if_neg q0, if_neg q1, if_neg q2, if_pos q3, reduceCtorEq, false_or, Option.some.injEq, letters_nil hc.1 hc.2]
    exact ⟨fun h => h.elim id fun ⟨_, h, _⟩ => by omega, .inl⟩
  by_cases q4 : c.fmod 6 = 4 ∨ (c.fdiv 30).fmod 3 ≠ 2
  · simp only [if_neg q0, if_neg q1, if_neg q2, if_neg q3, if_pos q4, reduceCtorEq, false_or, Option.some.injEq, inD_nil, hz]
    refine ⟨fun h => h.elim id fun ⟨_, h, h'⟩ => ?_, .inl⟩
    rcases q4 with q | q
    · omega
    · exact absurd h' q
  · simp only [if_neg q0, if_neg q1, if_neg q2, if_neg q3, if_neg q4, true_or, iff_true]
    have q4' : c.fmod 6 ≠ 4 ∧ (c.fdiv 30).fmod 3 = 2 := ⟨fun h => q4 (.inl h), Classical.not_not.mp fun h => q4 (.inr h)⟩
    by_cases z : cnt c = 0
    · exact .inl z
    · exact .inr ⟨z, by omega, q4'.2⟩
end Mine

/-! N22 -/
namespace Mine
/-! answers: they last, and two of them are equal -/
theorem DueF.move {h₀ h h' : Heap} {u : Value} {row : Option (List PyData)} (x : DueF h₀ h u row) (k : ∀ b o, h₀.get? b = none → h.get? b = some o → h'.get? b = some o) : DueF h₀ h' u row := by
  obtain ⟨r, t', y0, y1, ys, d, ds, e1, e2, e3, e4, e5, e6, e7, e8, e9⟩ := x
  exact ⟨r, t', y0, y1, ys, d, ds, e1, e2, k _ _ e8 e3, k _ _ e9 e4, e5, e6, e7, e8, e9⟩
theorem AnsOk.move {h₀ h h' : Heap} {u : Value} {cs : List Int} (x : AnsOk h₀ h u cs) (k : ∀ b o, h₀.get? b = none → h.get? b = some o → h'.get? b = some o) : AnsOk h₀ h' u cs :=
  x.imp id fun ⟨n, D, acc, c, e1, e2, e3, e4, e5⟩ => ⟨n, D, acc, c, e1, e2, k _ _ e2 e3, e4, fun i d c a b => (e5 i d c a b).move k⟩
theorem told_ans {h₀ h : Heap} {S : Addr} {acc : Array Value} {n : Nat} {cs : List Int} (hS : h₀.get? S = none) (hS' : h.get? S = some (listO acc n)) (hz : acc.size = (cs.map rowD).length) (ht : Told h₀ h acc (cs.map rowD)) : AnsOk h₀ h (.ref S) cs := by
  rw [List.length_map] at hz
  have key : ∀ (i : Nat) c, cs[i]? = some c → ∃ d, acc[i]? = some d ∧ ThreeF h₀ h d (rowD c) := fun i c hc => by
    have hi : i < acc.size := by have := (List.getElem?_eq_some_iff.mp hc).1; omega
    obtain ⟨row, e1, e2⟩ := ht i _ (Array.getElem?_eq_getElem hi)
    rw [List.getElem?_map, hc] at e1
    cases e1
    exact ⟨_, Array.getElem?_eq_getElem hi, e2⟩
  refine .inr ⟨fun c hc hn => ?_, S, acc, n, rfl, hS, hS', hz, fun i d c hd hc => ?_⟩
  · obtain ⟨i, hi, rfl⟩ := List.getElem_of_mem hc
    obtain ⟨d, _, r, t, vs, d', ds, _, e, _⟩ := key i _ (List.getElem?_eq_getElem hi)
    rcases (bad_iff _).mp hn with z | z <;> rw [z] at e <;> cases e
  · obtain ⟨d', e1, e2⟩ := key i c hc
    rw [hd] at e1
    cases e1
    exact e2.due
theorem err_ans {h₀ h : Heap} {t : Tok} {cs : List Int} {k : Nat} (e : (cs.map rowD)[k]? = some none ∨ (cs.map rowD)[k]? = some (some [])) : AnsOk h₀ h (.str (Str.ofString "TypeError") t) cs := by
  refine .inl ⟨?_, t, rfl⟩
  have : ∃ c ∈ cs, rowD c = none ∨ rowD c = some [] := by
    rcases e with e | e <;> rw [List.getElem?_map] at e <;> obtain ⟨c, e1, e2⟩ := Option.map_eq_some_iff.mp e
    · exact ⟨c, List.mem_of_getElem? e1, .inl e2⟩
    · exact ⟨c, List.mem_of_getElem? e1, .inr e2⟩
  obtain ⟨c, hc, e⟩ := this
  exact ⟨c, hc, (bad_iff c).mpr e⟩
section
variable {prog : Program} {w : World} {A : Around} {E : Value → Shared → Prop} {s : Shared}
theorem ne_ans {h₀ h₁ : Heap} {u u' : Value} {cs : List Int} {Q : Value → Shared → Prop} (x : AnsOk h₀ s.heap u cs) (y : AnsOk h₁ s.heap u' cs) (hu : A.units + 4 < cLine) (hQ : Q (.bool false) s) : wpAny (model prog w) A (compareOp .NotEq u u') Q E s := by
  rcases x with ⟨⟨c, hc, hn⟩, t, rfl⟩ | ⟨n, D, acc, k, rfl, _, e3, e4, e5⟩
  · rcases y with ⟨_, t', rfl⟩ | ⟨n', _⟩
    · refine PySem.P.ne_str ?_
      rw [bne_self_eq_false]; exact hQ
    · exact absurd hn (n' c hc)
  · rcases y with ⟨⟨c, hc, hn⟩, _⟩ | ⟨_, D', acc', k', rfl, _, f3, f4, f5⟩
    · exact absurd hn (n c hc)
    · refine ne_lists ⟨_, e3, rfl, _, rfl⟩ ⟨_, f3, rfl, _, rfl⟩ (by rw [e4, f4]) (by omega) (fun j h1 h2 => ?_) hQ
      have hj : j < cs.length := by omega
      exact due_eq (e5 j _ cs[j] (Array.getElem?_eq_getElem h1) (List.getElem?_eq_getElem hj)) (f5 j _ cs[j] (Array.getElem?_eq_getElem h2) (List.getElem?_eq_getElem hj)) (by show A.units + 1 + 2 < _; omega)
end
/-! entering a def with cells, under the caller -/
section
variable {w : World} {mean : ExcName → Option Value} {mg mb : Str → Option Value} {A : Around} {s : Shared} {base : Heap} {l : List Env}
theorem enter_cells_C {f : Addr} {oc : Value} {od : Option Addr} {osl : Array (Option Value)} {name qual : Str} {params : Arguments} {body : List Stmt} {scope : Scope} {dV kV doc pm cdv ct : Value} {an : Option Addr}
    {args : Args} {binds : List (Str × Value)} {R : Result → Shared → Prop} (b : Und w mean mg mb A base l s.heap) (hroom : A.depth < recursionLimit)
    (ho : (Mine.hd.heap_39 w.params).lookup f = some ⟨oc, od, .func (fnOf name qual params body scope dV kV doc pm an cdv ct), osl⟩) (hcd : codeIn (Mine.hd.heap_39 w.params) cdv qual = true)
    (hbind : BindsTo s (fnOf name qual params body scope dV kV doc pm an cdv ct) args binds)
    (h : ∀ L h₁ tk cells, Fr s.heap L h₁ (bindL (envOfC qual scope L f cdv).kindOf binds fun _ => none) → News s.heap L h₁ cells →
      CellsAre (bindC (envOfC qual scope L f cdv).kindOf binds fun _ => none) (cellsFrom (L + 1) scope.names []) cells → L = s.heap.objs.size → Und w mean mg mb (A.deeper (envOfC qual scope L f cdv)) base (envOfC qual scope L f cdv :: l) h₁ →
      wpC (model PR w) (A.deeper (envOfC qual scope L f cdv)) (execs body (envOfC qual scope L f cdv))
        (fun fl s' => R (.ok (.ret (match fl with | .ret v => v | _ => .none))) s')
        (fun e s' => wpAny (model PR w) (A.deeper (envOfC qual scope L f cdv)) (leaving (envOfC qual scope L f cdv) e) (fun _ s'' => R (.error e) s'') (fun e' s'' => R (.error e') s'') s')
        { s with heap := h₁, toks := tk })
    (hkind : (binds.all fun y => scope.names.lookup y.1 == some .local || scope.names.lookup y.1 == some .cell) = true)
    (hnd : ((cellsFrom 0 scope.names []).map (·.1)).Nodup)
    (hco : scope.isCoroutine = false) (hgen : scope.isGenerator = false) (hk : scope.kind = .function) : codeC (model PR w) A (.call (.ref f) args) R s := by
  have T := b.in.T
  refine K_call_function (fd := fnOf name qual params body scope dV kV doc pm an cdv ct) hroom (b.in.K _ _ ho) rfl hco hgen rfl (codeRec_of b.in.K hcd) (C_any (hbind _ _ _ _ ?_))
  refine C_any (wpAny_newFunctionEnv_cells hk (kindsX hkind _) fun env' he s' x => ?_)
  subst he
  refine ⟨T.nolimit.keeps x.toInCall.keep, K_func ?_⟩
  obtain ⟨h₁, tk, rfl, _⟩ := x.done
  obtain ⟨cells, NC, Y⟩ := Cl.news (h₀ := s.heap) (Nat.le_refl _) fun n c hm => ⟨x.cell n c (lookup_of_mem_nodup (cellsFrom_names scope.names 0 (s.heap.objs.size + 1) [] [] rfl ▸ hnd) hm), x.above n c hm⟩
  have F : Fr s.heap s.heap.objs.size h₁ _ := ⟨x.toInCall.ns, x.toInCall.keep, Nat.le_refl _⟩
  have u₁ := b.kp F.keep
  refine h s.heap.objs.size h₁ tk cells F NC Y rfl ⟨b.bs, Around.frames_deeper b.stack, u₁.stays, ?_⟩
  refine .cons (by show scope.kind ≠ .module; rw [hk]; decide) rfl F.ns ?_ u₁.frames
  cases q : base.get? s.heap.objs.size with
  | none => rfl
  | some o => exact absurd (Heap.lt_size (b.stays _ _ q)) (Nat.lt_irrefl _)
end
end Mine

/-! N23 -/
namespace Mine
/-! list() of a list's iterator, spent or not; tuple() of a list -/
section
variable {w : World} {A : Around} {E : Value → Shared → Prop} {s : Shared} {I : Addr} {fp : List Addr} {n : Nat} {P : Nat → Value → Prop} {St : Nat → Heap → Prop}
theorem next_spent {Q : Option Value → Shared → Prop} (hh : A.handled = none) (hs : Spent s.heap I "list_iterator") (hQ : ∀ h' tk, Kp s.heap h' → Q none { s with heap := h', toks := tk }) : wpAny (model PR w) A (pyNext (.ref I)) Q E s := by
  obtain ⟨o, j, ho, hc, hd⟩ := hs
  have hT : s.TypeIs (.ref I) "list_iterator" := ⟨o, ho, hc⟩
  unfold pyNext
  refine wpAny_bind (wpAny_attempt (wpAny_callSpecial?_slot (name := Str.ofString "__next__") hT slot_listiter_next (wpAny_call_entry slot_listiter_next hT entry_listiter_next ?_ (args_listiter_next _))))
  show wpAny _ _ (field (.ref I) 0 >>= _) _ _ s
  refine wpAny_bind (wpAny_field ho hd (x := .none) rfl ?_)
  show wpAny _ _ (if (Value.none == Value.none) = true then _ else _) _ _ s
  rw [if_pos (by rfl)]
  refine wpAny_bind (wpAny_rule (wpAny_bind (stop_raised (A := A.in1) hh fun h' e ne => ?_)))
  obtain ⟨oe, _, hoe, hce, _⟩ := ne.there
  refine wpAny_bind (wpAny_isInstance (T := "StopIteration") (b := true) (⟨oe, hoe, hce⟩ : Shared.TypeIs _ (.ref e) "StopIteration") stop_yes ?_)
  exact wpAny_pure (hQ h' s.toks ne.keeps)
theorem walks_spent (hh : A.handled = none) (I : Addr) : Walks PR w A I [I] [I] 0 (fun _ _ => True) (fun _ h => Spent h I "list_iterator") where
  sub := fun b hb => hb
  frame := fun _ _ _ st hk => let ⟨o, j, e, r⟩ := st; ⟨o, j, hk I (by simp) o e, r⟩
  item := fun i s Q E hi => absurd hi (Nat.not_lt_zero _)
  done := fun s Q E st hQ => next_spent hh st fun h' tk k => hQ h' tk fun b o _ e => k b o e
  self := fun i s Q E st hQ => by
    obtain ⟨o, j, e, c, d⟩ := st
    have hT : s.TypeIs (.ref I) "list_iterator" := ⟨o, e, c⟩
    refine wpAny_pyIter_slot hT slot_listiter_iter (wpAny_call_entry slot_listiter_iter hT entry_listiter_iter ?_ (args_listiter_iter _))
    show wpAny _ _ (do ret (.ref I)) _ _ s
    exact wpAny_pure ⟨_, rfl, "list_iterator", _, hT, slot_listiter_next.lookup, hQ⟩
theorem walks_from (hh : A.handled = none) (I ax : Addr) (hne : ax ≠ I) (its : Array Value) (k : Nat) (hk : k ≤ its.size) :
    Walks PR w A I [I, ax] [I] (its.size - k) (fun i v => its[k + i]? = some v) (fun i h => h.IsListIter I ax (k + i) ∧ h.IsList ax its) :=
  let W := Walks.list (prog := PR) (w := w) hh I ax hne its
  { sub := W.sub
    frame := fun i h h' st x => W.frame (k + i) h h' st x
    item := fun i s Q E hi st hQ => W.item (k + i) s Q E (by omega) st hQ
    done := fun s Q E st hQ => W.done s Q E (by rw [show k + (its.size - k) = its.size by omega] at st; exact st) hQ
    self := fun i s Q E st hQ => W.self (k + i) s Q E st hQ }
theorem list_iter {Q : Value → Shared → Prop} (W : Walks PR w A.in1.in1 I fp [I] n P St) (hT : ∀ i h, St i h → ∃ o, h.get? I = some o ∧ o.cls = .type "list_iterator") (hst : St 0 s.heap) (hfp : ∀ b ∈ fp, b < s.heap.objs.size) (hn : n ≤ sizeLine)
    (hQ : ∀ D h' tk acc c, But I s.heap h' → s.heap.get? D = none → h'.get? D = some (listO acc c) → ItemsOf P acc n → Q (.ref D) { s with heap := h', toks := tk }) :
    wpAny (model PR w) A (call (.type "list") [.ref I]) Q E s := by
  have hI : I ∈ fp := W.sub I (by simp)
  have hSf : s.heap.objs.size ∉ fp := fun hm => Nat.lt_irrefl _ (hfp _ hm)
  have hSI : s.heap.objs.size ≠ I := fun e => hSf (e ▸ hI)
  have hTy : ∀ i (s' : Shared), St i s'.heap → s'.TypeIs (.ref I) "list_iterator" := fun i s' st => hT i _ st
  refine callType_codes (Q₁ := fun obj s₁ => obj = .ref s.heap.objs.size ∧ s₁ = { s with heap := s.heap.push { cls := .type "list", data := .seq #[] } }) F.called_list (F.typeCall_list_1 _) F.entry_list_init
    (code_list_new _ ⟨rfl, rfl⟩) fun obj s₁ h₁ => ?_
  obtain ⟨rfl, rfl⟩ := h₁
  have hS : (s.heap.push { cls := .type "list", data := .seq #[] }).get? s.heap.objs.size = some (listO #[] 0) := Heap.get?_push_size _ rfl
  refine ⟨⟨_, hS, rfl⟩, F.args_list_init_2 _ _, ?_⟩
  show wpAny _ A.in1.in1 (do let old ← Builtin.List.listItems (.ref s.heap.objs.size); Builtin.List.listUpdate (.ref s.heap.objs.size) (fun _ => #[]); letGo old.toList.reverse; Builtin.List.listExtendWith (.ref s.heap.objs.size) (.ref I) .none) _ _ _
  refine wpAny_bind ?_
  unfold Builtin.List.listItems
  refine wpAny_bind (wpAny_seqItems hS rfl (wpAny_pure ?_))
  show wpAny _ A.in1.in1 (updateSeq s.heap.objs.size (fun _ => #[]) >>= fun _ => letGo (#[] : Array Value).toList.reverse >>= fun _ => Builtin.List.listExtendWith (.ref s.heap.objs.size) (.ref I) .none) _ _ _
  refine wpAny_bind (wpAny_updateSeq hS rfl ?_)
  have hS₂ := Heap.get?_update_self (Obj.mapSeq (fun _ => (#[] : Array Value))) hS rfl
  have k0 : ∀ b o, s.heap.get? b = some o → ((s.heap.push { cls := .type "list", data := .seq #[] }).update s.heap.objs.size (Obj.mapSeq (fun _ => (#[] : Array Value)))).get? b = some o := fun b o e =>
    (Heap.get?_update_other _ _ (fun q => by rw [← q] at e; exact absurd (Heap.lt_size e) (Nat.lt_irrefl _))).trans (Heap.get?_push_of_some _ e)
  refine wpAny_bind (wpAny_letGo ?_)
  have hst₂ := W.frame 0 _ _ hst fun b _ o e => k0 b o e
  generalize hHt : (s.heap.push { cls := .type "list", data := .seq #[] }).update s.heap.objs.size (Obj.mapSeq (fun _ => (#[] : Array Value))) = Ht at *
  have h1 : Builtin.List.listSameRef (.ref s.heap.objs.size) (.ref I) = false := by simp [Builtin.List.listSameRef, hSI]
  unfold Builtin.List.listExtendWith
  refine wpAny_bind (wpAny_typeOf (hTy 0 { s with heap := Ht } hst₂) ?_)
  rw [if_neg (by rw [h1]; decide)]
  refine wpAny_bind (W.self 0 _ _ _ hst₂ ?_)
  refine wpAny_bind (wpAny_holding ?_)
  unfold Builtin.List.listLengthHint
  refine wpAny_bind (wpAny_specialOf (hTy 0 { s with heap := Ht } hst₂) F.nolen_li ?_)
  show wpAny _ _ (specialOf (Value.ref I) (Str.ofString "__length_hint__") >>= _) _ _ _
  refine wpAny_bind (wpAny_specialOf (hTy 0 { s with heap := Ht } hst₂) F.hint_li ?_)
  (generalize hid : ("list_iterator.__length_hint__" : String) = id0; (fail_if_success (clear hid id0)); wp_delta; rw [show splitId id0 = some ("list_iterator", "__length_hint__") from by subst hid; decide +kernel]; subst hid)
  refine wpAny_bind (wpAny_isInstance (b := true) (hTy 0 { s with heap := Ht } hst₂) (by rw [isSubtype_type]; kernel_rfl) ?_)
  refine wpAny_pure ?_
  rw [if_neg (by decide)]
  refine wpAny_pure ⟨plainId_quiet F.plain_extend_loop _, codeAny_extend_loopS W.toS hn _ hSf _ n 0 _ _ _ rfl (Nat.zero_le _) hst₂ hS₂ (ItemsOf.nil P) fun s' acc' c' hm hS' hacc => ?_⟩
  refine ⟨rfl, ?_⟩
  have e : s' = { s with heap := s'.heap, toks := s'.toks } := by
    have h1 := hm.gens
    have h2 := hm.drawn
    have h3 := hm.os
    obtain ⟨a1, a2, a3, a4, a5⟩ := s'
    simp only at h1 h2 h3
    subst h1 h2 h3
    rfl
  rw [e]
  refine hQ _ s'.heap s'.toks acc' c' (fun b o hb e => hm.heap b o ?_ (k0 b o e)) (Heap.get?_none_of_le (Nat.le_refl _)) hS' hacc
  simp only [List.mem_cons, List.not_mem_nil, or_false, not_or]
  exact ⟨fun q => by rw [q] at e; exact absurd (Heap.lt_size e) (Nat.lt_irrefl _), hb⟩
theorem list_rest {ax : Addr} {its : Array Value} {k : Nat} {Q : Value → Shared → Prop} (hh : A.handled = none) (hit : s.heap.IsListIter I ax k) (hl : s.heap.IsList ax its) (hne : ax ≠ I) (hk : k ≤ its.size) (hsz : its.size ≤ 64)
    (hQ : ∀ D h' tk acc c, But I s.heap h' → s.heap.get? D = none → h'.get? D = some (listO acc c) → acc.toList = its.toList.drop k → Q (.ref D) { s with heap := h', toks := tk }) :
    wpAny (model PR w) A (call (.type "list") [.ref I]) Q E s := by
  refine list_iter (walks_from (A := A.in1.in1) hh I ax hne its k hk) (fun i h st => let ⟨o, e, c, _⟩ := st.1; ⟨o, e, c⟩) ⟨hit, hl⟩ (fun b hb => ?_) (by rw [sizeLine_eq]; omega) fun D h' tk acc c h1 h2 h3 h4 => hQ D h' tk acc c h1 h2 h3 ?_
  · rcases List.mem_cons.mp hb with rfl | hb
    · obtain ⟨o, e, _⟩ := hit; exact Heap.lt_size e
    · rw [List.mem_singleton.mp hb]; obtain ⟨o, e, _⟩ := hl; exact Heap.lt_size e
  · obtain ⟨z1, z2⟩ := h4
    refine List.ext_getElem? fun j => ?_
    rw [List.getElem?_drop, Array.getElem?_toList, Array.getElem?_toList]
    by_cases hj : j < acc.size
    · rw [Array.getElem?_eq_getElem hj, z2 j _ (Array.getElem?_eq_getElem hj)]
    · rw [Array.getElem?_eq_none (by omega), Array.getElem?_eq_none (by omega)]
theorem list_spent {Q : Value → Shared → Prop} (hh : A.handled = none) (hit : Spent s.heap I "list_iterator")
    (hQ : ∀ D h' tk acc c, But I s.heap h' → s.heap.get? D = none → h'.get? D = some (listO acc c) → acc.toList = [] → Q (.ref D) { s with heap := h', toks := tk }) :
    wpAny (model PR w) A (call (.type "list") [.ref I]) Q E s := by
  refine list_iter (walks_spent (A := A.in1.in1) hh I) (fun i h st => let ⟨o, j, e, c, _⟩ := st; ⟨o, e, c⟩) hit (fun b hb => ?_) (by rw [sizeLine_eq]; omega) fun D h' tk acc c h1 h2 h3 h4 => hQ D h' tk acc c h1 h2 h3 ?_
  · rw [List.mem_singleton.mp hb]; obtain ⟨o, j, e, _⟩ := hit; exact Heap.lt_size e
  · exact List.length_eq_zero_iff.mp (by rw [Array.length_toList]; exact h4.1)
end
end Mine

/-! N24 -/
namespace Mine
/-! [k for k in range(n) if _law_due(cells[k]) is None] -/
def decDue (v : Int) : Decidable (noDue v) := by unfold noDue; infer_instance
def badB (c : Int) : Bool := @decide (noDue c) (decDue c)
theorem badB_true {c : Int} (h : noDue c) : badB c = true := by unfold badB; exact @decide_eq_true _ (decDue c) h
theorem badB_false {c : Int} (h : ¬ noDue c) : badB c = false := by unfold badB; exact @decide_eq_false _ (decDue c) h
def badIdx (cs : List Int) (n : Nat) : List Int := ((List.range n).filter fun i => (cs[i]?).any badB).map fun (i : Nat) => (i : Int)
theorem badIdx_succ (cs : List Int) (n : Nat) : badIdx cs (n + 1) = badIdx cs n ++ (if (cs[n]?).any badB then [(n : Int)] else []) := by
  unfold badIdx
  rw [List.range_succ, List.filter_append, List.map_append]
  by_cases h : (cs[n]?).any badB <;> simp [h]
theorem badIdx_none {cs : List Int} (h : ∀ c ∈ cs, ¬ noDue c) (n : Nat) : badIdx cs n = [] := by
  induction n with
  | zero => rfl
  | succ n ih =>
    rw [badIdx_succ, ih]
    cases e : cs[n]? with
    | none => rfl
    | some c => simp [badB_false (h c (List.mem_of_getElem? e))]
theorem badIdx_first {cs : List Int} {k : Nat} {c : Int} (hk : cs[k]? = some c) (hb : noDue c) (hf : ∀ j, j < k → ∀ c', cs[j]? = some c' → ¬ noDue c') (n : Nat) (hn : k < n) : ∃ rest, badIdx cs n = (k : Int) :: rest := by
  have h0 : ∀ j, j ≤ k → badIdx cs j = [] := fun j => by
    induction j with
    | zero => exact fun _ => rfl
    | succ j ih =>
      intro hj
      rw [badIdx_succ, ih (by omega)]
      cases e : cs[j]? with
      | none => rfl
      | some c' => simp [badB_false (hf j (by omega) c' e)]
  induction n with
  | zero => omega
  | succ n ih =>
    by_cases q : k < n
    · obtain ⟨r, e⟩ := ih q
      rw [badIdx_succ, e]
      exact ⟨_, rfl⟩
    · obtain rfl : k = n := by omega
      rw [badIdx_succ, h0 k (Nat.le_refl _), hk]
      simp [badB_true hb]
theorem intsAre_snoc : ∀ {ys : List Value} {ns : List Int} {n : Int} {t : Tok}, IntsAre ys ns → IntsAre (ys ++ [.int n t]) (ns ++ [n])
  | _, _, _, _, .nil => .cons _ _ .nil
  | _, _, _, _, .cons _ _ h => .cons _ _ (intsAre_snoc h)
section
variable {prog : Program} {w : World} {A : Around} {s : Shared} {h₀ : Heap} {L : Addr} {m : Str → Option Value} {env : Env}
/-- the turns of a comprehension with a test, by an invariant -/
theorem comp_turnsT {ct elt : Expr} {x : Str} {scope : Scope} {cl : List (Str × Addr)} {S : List (Addr × Obj) → Prop} {P : Nat → Value → Prop} {Fin : List Value → List (Addr × Obj) → Prop}
    (G : Nat → List Value → List (Addr × Obj) → Prop) (n : Nat)
    (step : ∀ j ys news v I oI C oC D m₂ h tk (E' : Value → Shared → Prop), j < n → G j ys news → P j v → NsObj oC m₂ → m₂ x = some v → Fr h₀ L h m → News h₀ L h ((I, oI) :: (C, oC) :: (D, lst ys) :: news) → Off3 I C D news → ((@Ne Nat I C) ∧ (@Ne Nat I D) ∧ (@Ne Nat C D)) →
      wpAny (model prog w) A (isTrue ct (compEnvC scope cl C env) (eval ct (compEnvC scope cl C env))) (fun ok s' => if ok = true then
          wpAny (model prog w) A (eval elt (compEnvC scope cl C env)) (fun y s₂ => TurnEnd h₀ L h I C D S (fun add => G (j + 1) (ys ++ [y]) add) s s₂) E' s'
        else TurnEnd h₀ L h I C D S (fun add => G (j + 1) ys add) s s') E' { s with heap := h, toks := tk })
    (fin : ∀ ys news, G n ys news → Fin ys news) :
    ∀ k i ys news, i + k = n → G i ys news → LCt.CompRestT prog w A h₀ L m env ct elt x scope cl s S P Fin k i ys news
  | 0, i, ys, news, hi, g => LCt.CompRestT.zero (fin _ _ (by have : i = n := by omega
                                                             subst this; exact g))
  | k + 1, i, ys, news, hi, g => LCt.CompRestT.succ fun v I oI C oC D m₂ h tk E' hP hC hx F N off ne => by
      have one : ∀ {y : Value} {ys' : List Value} {s₂ : Shared}, TurnEnd h₀ L h I C D S (fun add => G (i + 1) ys' add) s s₂ →
          CompEnd h₀ L m { s with heap := h, toks := tk } I oI C oC D (lst ys) S (fun _ news' => LCt.CompRestT prog w A h₀ L m env ct elt x scope cl s S P Fin k (i + 1) ys' news') y s₂ := by
        rintro y ys' s₂ ⟨h', tk', add, rfl, kp, N', off', hS, g'⟩
        refine ⟨h', tk', add, rfl, F.keeps kp, ?_, off', hS, comp_turnsT G n step fin k (i + 1) _ _ (by omega) g'⟩
        have N₁ := N.grown kp
        intro p hp
        rcases List.mem_cons.mp hp with rfl | hp
        · exact N₁ _ (.head _)
        rcases List.mem_cons.mp hp with rfl | hp
        · exact N₁ _ (.tail _ (.head _))
        rcases List.mem_cons.mp hp with rfl | hp
        · exact N₁ _ (.tail _ (.tail _ (.head _)))
        · exact N' p hp
      refine wpAny_mono (step i ys news v I oI C oC D m₂ h tk E' (by omega) g hP hC hx F N off ne) (fun ok s' hok => ?_) fun _ _ e => e
      cases ok with
      | true =>
        rw [if_pos rfl] at hok ⊢
        exact wpAny_mono hok (fun y s₂ hy => by
          obtain ⟨h', tk', news', e1, e2, e3, e4, e5, e6⟩ := one (y := y) hy
          exact ⟨h', tk', news', e1, e2, e3, e4, e5, e6⟩) fun _ _ e => e
      | false =>
        rw [if_neg Bool.false_ne_true] at hok ⊢
        exact one hok
end
section
variable {w : World} {mean : ExcName → Option Value} {mg mb : Str → Option Value} {A : Around} {E : Value → Shared → Prop} {s : Shared} {h₀ : Heap} {L : Addr} {m : Str → Option Value} {env : Env}
/-- a call of a def of the top, with one argument -/
theorem call_arg {f C : Addr} {nm : Str} {p1 p3 : Pos} {arg : Expr} {scope : Scope} {cl : List (Str × Addr)} {v : Value} {Q : Value → Shared → Prop}
    (F : Fr h₀ L s.heap m) (b : Bs w mean mg mb h₀) (harg : ∀ {Q : Value → Shared → Prop} {tk}, (∀ tk, Q v { s with toks := tk }) → wpAny (model PR w) A (eval arg (compEnvC scope cl C env)) Q E { s with toks := tk })
    (e : nsIn (Mine.hd.heap_39 w.params) mainGlobals nm = some (some (.ref f))) (hk : keepIn (Mine.hd.heap_39 w.params) (.ref f) = true) (hg : env.globals = mainGlobals)
    (h1 : (compEnvC scope cl C env).scope.kind = .function) (h2 : (compEnvC scope cl C env).kindOf nm = some .globalImplicit) (d1 : (nm == ("__debug__" : Str)) = false)
    (hst : starEach [arg] (compEnvC scope cl C env) = [(false, eval arg (compEnvC scope cl C env))])
    (h : ∀ tk, codeAny (model PR w) A (.call (.ref f) ⟨[v], []⟩) (fun r s' => match r with | .ok (.ret v) => Q v s' | .ok _ => False | .error e => E e s') { s with toks := tk }) :
    wpAny (model PR w) A (eval (.Call (.Name nm p1) [arg] [] p3) (compEnvC scope cl C env)) Q E s := by
  rw [arm_eval_Call_Name']
  refine wpAny_bind (LCgL.ld_global F b.K b.T e ?_ hg h1 h2 d1)
  refine callWith_K (e := arg) (rest := []) b.K hk ?_ (by rw [hst]; rfl)
  rw [hst]
  refine Calls.spliced_cons (harg (tk := s.toks) fun tk => ?_)
  exact Calls.spliced_nil ⟨b.K.keeps F.keep, wpAny_call (h tk)⟩
def BadG (h₀ : Heap) (L : Addr) (hs : Heap) (cs : List Int) (j : Nat) (ys : List Value) (news : List (Addr × Obj)) : Prop :=
  IntsAre ys (badIdx cs j) ∧ ∀ p ∈ allN h₀ hs [L], p ∈ news
theorem bad_src {ax c r : Addr} {its : Array Value} {cs : List Int} {tu : Tok × Tok × Tok} {k : Nat} {p1 p2 p3 p4 p5 p6 p7 p8 : Pos} {scope : Scope} {cl : List (Str × Addr)} {Fin : Shared → List Value → List (Addr × Obj) → Prop}
    (b : Bs w mean mg mb h₀) (hh : A.handled = none) (F : Fr h₀ L s.heap m) (hl : s.heap.IsList ax its) (hax : ax ≠ L) (hc : s.heap.IsCell c (some (.ref ax))) (hcL : c ≠ L) (hI : IntsAre its.toList cs) (hsz : its.size ≤ 64)
    (hr : IsRange s.heap r 0 its.size 1 tu.1 tu.2.1 tu.2.2)
    (gives : ∀ v ∈ its.toList, Gives w mean mg mb A 90 DueV v) (hg : env.globals = mainGlobals) (hcl : cl.lookup (Str.ofString "cells") = some c)
    (e : nsIn (Mine.hd.heap_39 w.params) mainGlobals (Str.ofString "_law_due") = some (some (.ref 90))) (hk : keepIn (Mine.hd.heap_39 w.params) (.ref 90) = true)
    (h1 : ∀ C, (compEnvC scope cl C env).scope.kind = .function) (h2 : ∀ C, (compEnvC scope cl C env).kindOf (Str.ofString "_law_due") = some .globalImplicit) (h3 : ∀ C, (compEnvC scope cl C env).kindOf (Str.ofString "k") = some .local)
    (h4 : ∀ C, (compEnvC scope cl C env).kindOf (Str.ofString "cells") = some .cell)
    (fin : ∀ g ys news, BadG h₀ L s.heap cs its.size ys news → Fin { s with heap := g } ys news) :
    LCt.CompSrcT PR w A h₀ L m env (.Compare (.Call (.Name (Str.ofString "_law_due") p1) [.Subscript (.Name (Str.ofString "cells") p2) (.Name (Str.ofString "k") p3) p4] [] p5) [.Is] [.Constant .none k p6] p7) (.Name (Str.ofString "k") p8) (Str.ofString "k") scope cl Fin (.ref r) s := by
  have sub0 : ∀ p ∈ allN h₀ s.heap [L], p ∈ allN h₀ s.heap [L] := fun _ h => h
  have hlen : its.size = cs.length := by rw [← Array.length_toList]; exact IntsAre.length hI
  refine .inr ⟨r, 0, its.size, tu.1, tu.2.1, tu.2.2, its.size, allN h₀ s.heap [L], rfl, hh, F, allN_news (by simp), hr, small_one (by decide) (by decide) (by omega) (by omega), by rw [rangeSize_nat, Int.sub_zero]; omega, by rw [sizeLine_eq]; omega, ?_⟩
  rintro _ ⟨g, rfl⟩
  refine comp_turnsT (BadG h₀ L s.heap cs) its.size ?_ (fun ys news G => fin g ys news G) _ 0 [] _ (by omega) ⟨.nil, sub0⟩
  intro j ys news v I oI C oC D m₂ h tk E' hj G hv hC hx F' N off ne
  obtain ⟨tv, rfl⟩ := hv
  rw [Int.zero_add] at hx
  obtain ⟨g1, g2⟩ := G
  have N0 : News h₀ L h news := fun p hp => N p (.tail _ (.tail _ (.tail _ hp)))
  have off3 := off.mem
  have hb : But L s.heap h := comp_but F g2 F'.keep N0
  have hl' : h.IsList ax its := let ⟨o, e, r⟩ := hl; ⟨o, hb _ _ hax e, r⟩
  have hc' : h.IsCell c (some (.ref ax)) := let ⟨o, e, r⟩ := hc; ⟨o, hb _ _ hcL e, r⟩
  have hjc : j < cs.length := by omega
  have hcj : cs[j]? = some cs[j] := List.getElem?_eq_getElem hjc
  obtain ⟨tc, hitj⟩ := ints_at hI j _ hcj
  rw [Array.getElem?_toList] at hitj
  have hvm : Value.int cs[j] tc ∈ its.toList := by
    have : its.toList[j]? = some (.int cs[j] tc) := by rw [Array.getElem?_toList]; exact hitj
    exact List.mem_of_getElem? this
  have sub' : ∀ {h'}, Kp h h' → ∀ p ∈ news, p ∈ allN h₀ h' [L, I, C, D] := fun kp p hp => by
    obtain ⟨a, o⟩ := p
    have n := N0 _ hp
    have o3 := off3 _ hp
    refine mem_allN.mpr ⟨?_, n.2.2, kp _ _ n.1⟩
    simp only [List.mem_cons, List.not_mem_nil, or_false, not_or]
    exact ⟨n.2.1, o3.1, o3.2.1, o3.2.2⟩
  have hend : ∀ {h'} {tk'} {ys'}, Kp h h' → IntsAre ys' (badIdx cs (j + 1)) → TurnEnd h₀ L h I C D (fun _ => True) (fun add => BadG h₀ L s.heap cs (j + 1) ys' add) { s with heap := g } { s with heap := h', toks := tk' } := fun {h' tk' ys'} kp hi =>
    ⟨h', tk', allN h₀ h' [L, I, C, D], rfl, kp, allN_news (by simp), Off3.of (fun p hp => by
      obtain ⟨a, o⟩ := p
      have := (mem_allN.mp hp).1
      simp only [List.mem_cons, List.not_mem_nil, or_false, not_or] at this
      exact ⟨this.2.1, this.2.2.1, this.2.2.2⟩), trivial, hi, fun p hp => sub' kp p (g2 p hp)⟩
  refine wpAny_isTrue_Compare1 (call_arg (s := { s with heap := h, toks := tk }) (v := .int cs[j] tc) F' b (fun {Q tk'} hq => ?_) e hk hg (h1 C) (h2 C) (by decide) rfl fun tk' => ?_) (by with_unfolding_all rfl)
  · refine Subscript_ (ldCellK hcl hc' ?_ (h1 C) (h4 C))
    refine LCgL.ld_own N (.tail _ (.head _)) hC hx ?_ (h1 C) (h3 C)
    exact list_place hl' (by omega) (by omega) (by rw [Int.toNat_natCast]; exact hitj) (hq _) (by with_unfolding_all rfl)
  · refine gives _ hvm _ _ (b.keeps F'.keep) fun h' tk'' u kp hP => ?_
    obtain ⟨c', t', e', hd⟩ := hP
    cases e'
    dsimp only
    refine Constant_none ?_
    rcases hd with ⟨hn, rfl⟩ | ⟨hn, r', _, _, _, _, _, _, e', _⟩
    · refine wpAny_is_self rfl (wpAny_truthy_bool ?_)
      rw [if_pos rfl]
      refine LCgL.ld_own (N.grown kp) (.tail _ (.head _)) hC hx ?_ (h1 C) (h3 C)
      refine hend kp ?_
      rw [badIdx_succ, hcj]
      simp only [Option.any_some, badB_true hn, if_true]
      exact intsAre_snoc g1
    · subst e'
      refine wpAny_is_other rfl (fun z => by cases z) (wpAny_truthy_bool ?_)
      rw [if_neg Bool.false_ne_true]
      refine hend kp ?_
      rw [badIdx_succ, hcj]
      simpa [badB_false hn] using g1
end
end Mine

/-! N25 -/
namespace Mine
/-! rows in a snapshot; the told ones as answers -/
def RowsB (B : Heap) (R : Addr) (us : List Value) (cs : List Int) : Prop :=
  B.get? R = some (lst us) ∧ us.length = cs.length ∧ ∀ (i : Nat) u c, us[i]? = some u → cs[i]? = some c → RowAt B u (rowD c) ∧ Made B u c
theorem RowsB.kp {B B' : Heap} {R : Addr} {us : List Value} {cs : List Int} (x : RowsB B R us cs) (k : Kp B B') : RowsB B' R us cs :=
  ⟨k _ _ x.1, x.2.1, fun i u c a b => ⟨(x.2.2 i u c a b).1.keeps k, (x.2.2 i u c a b).2.move fun a o _ e => k _ _ e⟩⟩
theorem kp_hide {h : Heap} {L : Addr} : Kp (hideAll h [L]) h := fun b o e => of_hideAll _ e
theorem hide_kp {B h : Heap} {L : Addr} (k : Kp B h) (hL : B.get? L = none) : Kp B (hideAll h [L]) := fun b o e => hideAll_get _ (k b o e) (by
  intro m; rw [List.mem_singleton.mp m, hL] at e; cases e)
theorem rows_snap {hs h : Heap} {L D : Addr} {its : Array Value} {ys : List Value} {cs : List Int} (hsL : hs.get? L ≠ none) (hI : IntsAre its.toList cs) (hDn : hs.get? D = none) (hD : h.get? D = some (lst ys)) (hlen : ys.length = its.size)
    (hP : ∀ (i : Nat) v y, its[i]? = some v → ys[i]? = some y → RowF hs h v y) : RowsB (hideAll h [L]) D ys cs := by
  have hz : its.size = cs.length := by rw [← Array.length_toList]; exact IntsAre.length hI
  have ne : ∀ {a : Addr}, hs.get? a = none → a ∉ [L] := fun e m => hsL (by rw [← List.mem_singleton.mp m]; exact e)
  refine ⟨hideAll_get _ hD (ne hDn), by omega, fun i u c hu hc => ?_⟩
  obtain ⟨t, hv⟩ := ints_at hI i c hc
  obtain ⟨c', t', e, r, m, f⟩ := hP i _ u (by rw [← Array.getElem?_toList]; exact hv) hu
  cases e
  exact ⟨r.move fun a o q e => hideAll_get _ e (ne (f a q)), m.move fun a o q e => hideAll_get _ e (ne (f a q))⟩
theorem RowsB.all {B h : Heap} {R : Addr} {us : List Value} {cs : List Int} (x : RowsB B R us cs) (k : Kp B h) : AllRow h us (cs.map rowD) := by
  refine ⟨by rw [List.length_map]; exact x.2.1, fun i v row e1 e2 => ?_⟩
  rw [List.getElem?_map] at e2
  obtain ⟨c, e3, rfl⟩ := Option.map_eq_some_iff.mp e2
  exact (x.2.2 i v c e1 e3).1.keeps k
theorem RowsB.notL (w : World) {B : Heap} {R L : Addr} {us : List Value} {cs : List Int} (x : RowsB B R us cs) (hL : B.get? L = none) : ∀ v ∈ us, v ≠ .ref L := fun v hv q => by
  obtain ⟨i, hi, rfl⟩ := List.getElem_of_mem hv
  have hi2 : i < cs.length := by rw [← x.2.1]; exact hi
  have := (x.2.2 i _ _ (List.getElem?_eq_getElem hi) (List.getElem?_eq_getElem hi2)).1
  rw [q] at this
  obtain ⟨o, ho, _⟩ := this.there w
  rw [hL] at ho; cases ho
def FirstBad (cs : List Int) (k : Nat) : Prop := ∃ c, cs[k]? = some c ∧ noDue c ∧ ∀ j, j < k → ∀ c', cs[j]? = some c' → ¬ noDue c'
theorem first_bad {cs : List Int} {k : Nat} (h1 : ∀ j, j < k → ∃ d ds, (cs.map rowD)[j]? = some (some (d :: ds))) (h2 : (cs.map rowD)[k]? = some none ∨ (cs.map rowD)[k]? = some (some [])) : FirstBad cs k := by
  have : ∃ c, cs[k]? = some c ∧ (rowD c = none ∨ rowD c = some []) := by
    rcases h2 with e | e <;> rw [List.getElem?_map] at e <;> obtain ⟨c, e1, e2⟩ := Option.map_eq_some_iff.mp e
    · exact ⟨c, e1, .inl e2⟩
    · exact ⟨c, e1, .inr e2⟩
  obtain ⟨c, hc, hb⟩ := this
  refine ⟨c, hc, (bad_iff c).mpr hb, fun j hj c' hc' hn => ?_⟩
  obtain ⟨d, ds, e⟩ := h1 j hj
  rw [List.getElem?_map, hc'] at e
  simp only [Option.map_some, Option.some.injEq] at e
  rcases (bad_iff c').mp hn with z | z <;> rw [z] at e <;> cases e
theorem ans_good {h₀ h : Heap} {S : Addr} {cs : List Int} (a : AnsOk h₀ h (.ref S) cs) : ∀ c ∈ cs, ¬ noDue c := by
  rcases a with ⟨_, t, e⟩ | ⟨n, _⟩
  · cases e
  · exact n
section
variable {w : World} {mean : ExcName → Option Value} {mg mb : Str → Option Value} {dp un : Nat} {env : Env} {L : Addr} {gd : Option (List Code)} {s : Shared} {base B : Heap} {R : Result → Shared → Prop}
theorem told_gives {a b lst : Addr} {oa : Obj} {T : String} {Xs : List Addr} {cs : List Int} (hf : env.frame = some L)
    (U : Und w mean mg mb (Ar dp un [env] gd) base [env] s.heap) (hroom : dp + 10 < recursionLimit) (hu : un + 250 < cLine)
    (ha : s.heap.get? a = some oa) (hoa : oa = tupO [.ref 73, .ref b] ∨ ∃ c i t, oa = listO #[.ref 73, .ref b, .int i t] c) (hba : base.get? a = none)
    (hr : Rows w s.heap [env] base b lst T Xs (cs.map rowD))
    (hR : ∀ h' tk u, Step [L] Xs s.heap h' → AnsOk s.heap h' u cs → (((∀ c ∈ cs, ¬ noDue c) ∧ (Xs = [b] → Spent h' b T)) ∨ ∃ k, FirstBad cs k ∧ (Xs = [b] → ItAt h' b lst T (k + 1))) → R (.ok (.ret u)) { s with heap := h', toks := tk }) :
    codeC (model PR w) (Ar dp un [env] gd) (.call (.ref 97) ⟨[.ref a], []⟩) R s := by
  have hfr : frs [env] = [L] := by rw [frs_cons hf]; rfl
  refine told (mean := mean) (mg := mg) (mb := mb) (base := base) U hroom hu ha hoa hba hr ?_ ?_
  · intro h' tk S acc c st sp hS hS' hz ht
    have an := told_ans hS hS' hz ht
    exact hR h' tk _ (hfr ▸ st) an (.inl ⟨ans_good an, sp⟩)
  · intro h' tk t k e1 e2 st it
    exact hR h' tk _ (hfr ▸ st) (err_ans e2) (.inr ⟨k, first_bad e1 e2, it⟩)
theorem rows_list {Rl : Addr} {us : List Value} {cs : List Int} (hf : env.frame = some L) (x : RowsB B Rl us cs) (k : Kp B s.heap) (hL : B.get? L = none) (h64 : cs.length ≤ 64) (hb : base.get? Rl = none) : Rows w s.heap [env] base Rl Rl "list_iterator" [] (cs.map rowD) := by
  have hfr : frs [env] = [L] := by rw [frs_cons hf]; rfl
  have hg := k _ _ x.1
  have hRL : Rl ≠ L := fun q => by have := x.1; rw [q, hL] at this; cases this
  refine ⟨.inl rfl, iters_list ⟨_, hg, rfl, _, rfl⟩, ⟨_, us.toArray, _, hg, rfl, .inl rfl, ?_, ?_, ?_⟩, hb, ?_, by rw [hg]; simp, .inl rfl⟩
  · exact x.all k
  · rw [List.size_toArray, x.2.1]; exact h64
  · intro v hv a ha
    rw [hfr] at ha
    rw [List.mem_singleton.mp ha]
    exact x.notL w hL v (by simpa using hv)
  · rw [hfr]; simp [hRL]
theorem rows_tup {Rl t : Addr} {us : List Value} {cs : List Int} (hf : env.frame = some L) (x : RowsB B Rl us cs) (k : Kp B s.heap) (hL : B.get? L = none) (h64 : cs.length ≤ 64) (ht : s.heap.get? t = some (tupO us)) (htL : t ≠ L) (hb : base.get? t = none) : Rows w s.heap [env] base t t "tuple_iterator" [] (cs.map rowD) := by
  have hfr : frs [env] = [L] := by rw [frs_cons hf]; rfl
  refine ⟨.inr rfl, iters_tup ht, ⟨_, us.toArray, _, ht, rfl, .inr rfl, ?_, ?_, ?_⟩, hb, ?_, by rw [ht]; simp, .inl rfl⟩
  · exact x.all k
  · rw [List.size_toArray, x.2.1]; exact h64
  · intro v hv a ha
    rw [hfr] at ha
    rw [List.mem_singleton.mp ha]
    exact x.notL w hL v (by simpa using hv)
  · rw [hfr]; simp [htL]
theorem rows_it {Rl g : Addr} {us : List Value} {cs : List Int} (hf : env.frame = some L) (x : RowsB B Rl us cs) (k : Kp B s.heap) (hL : B.get? L = none) (h64 : cs.length ≤ 64) (hg : ItAt s.heap g Rl "list_iterator" 0) (hgL : g ≠ L) (hb : base.get? g = none) : Rows w s.heap [env] base g Rl "list_iterator" [g] (cs.map rowD) := by
  have hfr : frs [env] = [L] := by rw [frs_cons hf]; rfl
  have hgR := k _ _ x.1
  have hRL : Rl ≠ L := fun q => by have := x.1; rw [q, hL] at this; cases this
  refine ⟨.inl rfl, iters_it hg, ⟨_, us.toArray, _, hgR, rfl, .inl rfl, ?_, ?_, ?_⟩, hb, ?_, ?_, .inr rfl⟩
  · exact x.all k
  · rw [List.size_toArray, x.2.1]; exact h64
  · intro v hv a ha
    rw [hfr] at ha
    rw [List.mem_singleton.mp ha]
    exact x.notL w hL v (by simpa using hv)
  · rw [hfr]; simp [hRL, hgL]
  · obtain ⟨o, e, _⟩ := hg; rw [e]; simp
theorem whole_gives {Rl : Addr} {us : List Value} {cs : List Int} (hf : env.frame = some L) (U : Und w mean mg mb (Ar dp un [env] gd) base [env] s.heap) (hroom : dp + 10 < recursionLimit) (hu : un + 250 < cLine)
    (x : RowsB B Rl us cs) (k : Kp B s.heap) (hL : B.get? L = none) (h64 : cs.length ≤ 64) (hb : base.get? Rl = none)
    (hR : ∀ h' tk u, Step [L] [] s.heap h' → AnsOk s.heap h' u cs → R (.ok (.ret u)) { s with heap := h', toks := tk }) :
    codeC (model PR w) (Ar dp un [env] gd) (.call (.ref 104) ⟨[.ref Rl], []⟩) R s := by
  have hfr : frs [env] = [L] := by rw [frs_cons hf]; rfl
  refine told_whole (mean := mean) (mg := mg) (mb := mb) (base := base) U hroom hu (rows_list hf x k hL h64 hb) ⟨us.toArray, _, k _ _ x.1, rfl, _, rfl⟩ ?_ ?_
  · intro h' tk S acc c st hS hS' hz ht
    exact hR h' tk _ (hfr ▸ st) (told_ans hS hS' hz ht)
  · intro h' tk t k e1 e2 st
    exact hR h' tk _ (hfr ▸ st) (err_ans e2)
end
/-! a call with one argument, under the caller -/
section
variable {w : World} {mean : ExcName → Option Value} {mg mb : Str → Option Value} {A : Around} {E : Value → Shared → Prop} {s : Shared} {env : Env}
theorem C_call1 {f : Addr} {nm : Str} {arg : Expr} {p pos : Pos} {Q : Value → Shared → Prop} (b : Bs w mean mg mb s.heap) (e : nsIn (Mine.hd.heap_39 w.params) mainGlobals nm = some (some (.ref f))) (hk : keepIn (Mine.hd.heap_39 w.params) (.ref f) = true)
    (h : wpC (model PR w) A (eval arg env) (fun v s₁ => (Mine.hd.heap_39 w.params).In s₁.heap ∧ codeC (model PR w) A (.call (.ref f) ⟨[v], []⟩) (fun r s' => match r with | .ok (.ret v) => Q v s' | .ok _ => False | .error e => E e s') s₁) E s)
    (hg : env.globals = mainGlobals := by rfl) (hk' : env.scope.kind = .function := by rfl) (hx : env.kindOf nm = some .globalImplicit := by rfl) (hd : (nm == ("__debug__" : Str)) = false := by decide) (hst : starEach [arg] env = [(false, eval arg env)] := by rfl) :
    wpC (model PR w) A (eval (.Call (.Name nm p) [arg] [] pos) env) Q E s := by
  refine C_Call_Name (C_any (ld_glob b e ?_ hg hk' hx hd))
  rw [hst]
  refine C_callWith (P := fun h => (Mine.hd.heap_39 w.params).In h) (fun h X => looks_keep hk X) (C_evalArgs_plain (C_spliced_cons ?_))
  exact C_mono h (fun v s₁ h₁ => C_spliced_nil ⟨h₁.1, C_call h₁.2⟩) fun _ _ x => x
theorem C_type1 {T : String} {nm : Str} {arg : Expr} {p pos : Pos} {Q : Value → Shared → Prop} (b : Bs w mean mg mb s.heap) (e : nsIn (Mine.hd.heap_39 w.params) mainGlobals nm = some none) (hv : bootBuiltins nm = some (.type T)) (hn : nm ≠ "__name__")
    (h : wpC (model PR w) A (eval arg env) (fun v s₁ => wpC (model PR w) A (call (.type T) [v]) Q E s₁) E s)
    (hg : env.globals = mainGlobals := by rfl) (hb : env.builtins = builtinsNs := by rfl) (hk' : env.scope.kind = .function := by rfl) (hx : env.kindOf nm = some .globalImplicit := by rfl) (hd : (nm == ("__debug__" : Str)) = false := by decide) (hst : starEach [arg] env = [(false, eval arg env)] := by rfl) :
    wpC (model PR w) A (eval (.Call (.Name nm p) [arg] [] pos) env) Q E s := by
  refine C_Call_Name (C_any (ld_blt b e hv hn ?_ hg hb hk' hx hd))
  rw [hst]
  refine C_callWith (P := fun _ => True) (fun _ _ => ⟨.machine, .inr rfl, Looks.of_pure rfl⟩) (C_evalArgs_plain (C_spliced_cons ?_))
  exact C_mono h (fun v s₁ h₁ => C_spliced_nil ⟨trivial, h₁⟩) fun _ _ x => x
end
end Mine

/-! N26 -/
namespace Mine
/-! small steps for law's body -/
theorem fr_step {base h h' : Heap} {L : Addr} {X : List Addr} {m : Str → Option Value} (F : Fr base L h m) (st : Step [L] X h h') (hX : ∀ b ∈ X, base.get? b = none) (hL : L ∉ X) : Fr base L h' m :=
  ⟨st.ns F.ns hL, fun b o e => st.get (F.keep b o e) (fun q => by rw [List.mem_singleton.mp q, Heap.get?_none_of_le F.above] at e; cases e) (fun q => by rw [hX b q] at e; cases e), F.above⟩
theorem kp_step {B h h' : Heap} {L : Addr} {X : List Addr} (k : Kp B h) (st : Step [L] X h h') (hL : B.get? L = none) (hX : ∀ b ∈ X, B.get? b = none) : Kp B h' := fun b o e =>
  st.get (k b o e) (fun q => by rw [List.mem_singleton.mp q, hL] at e; cases e) (fun q => by rw [hX b q] at e; cases e)
theorem AnsOk.kp {h₀ h h' : Heap} {u : Value} {cs : List Int} (x : AnsOk h₀ h u cs) (k : Kp h h') : AnsOk h₀ h' u cs := x.move fun b o _ e => k b o e
theorem AnsOk.but {h₀ h h' : Heap} {L : Addr} {u : Value} {cs : List Int} (x : AnsOk h₀ h u cs) (hL : h₀.get? L ≠ none) (k : But L h h') : AnsOk h₀ h' u cs := x.move fun b o n e => k b o (fun q => hL (q ▸ n)) e
theorem AnsOk.hide {h₀ h : Heap} {L : Addr} {u : Value} {cs : List Int} (x : AnsOk h₀ h u cs) (hL : h₀.get? L ≠ none) : AnsOk h₀ (hideAll h [L]) u cs := x.move fun b o n e => hideAll_get _ e fun q => hL (by rw [← List.mem_singleton.mp q]; exact n)
theorem step_but {h h' : Heap} {L : Addr} (st : Step [L] [] h h') : But L h h' := fun b o hb e => st.get e (fun q => hb (List.mem_singleton.mp q)) (by simp)
def Nxt (B : Heap) (L Rl : Addr) (s : Shared) (f : Flow) (s' : Shared) : Prop := f = .next ∧ ∃ h tk m, s' = { s with heap := h, toks := tk } ∧ h.Ns L m ∧ m (Str.ofString "rows") = some (.ref Rl) ∧ Kp B h
theorem ints_of : ∀ {vs : List Value}, (∀ v ∈ vs, ∃ c t, v = .int c t) → ∃ cs, IntsAre vs cs
  | [], _ => ⟨[], .nil⟩
  | v :: vs, h => by
    obtain ⟨c, t, rfl⟩ := h v (.head _)
    obtain ⟨cs, i⟩ := ints_of fun v m => h v (.tail _ m)
    exact ⟨c :: cs, .cons _ _ i⟩
theorem kp_none {B h : Heap} {y : Addr} (k : Kp B h) (e : h.get? y = none) : B.get? y = none := by
  cases q : B.get? y with
  | none => rfl
  | some o => have := k _ _ q; rw [e] at this; cases this
theorem ns_some {h : Heap} {L : Addr} {m : Str → Option Value} (n : h.Ns L m) : h.get? L ≠ none := by obtain ⟨o, _, _, e, _⟩ := n; rw [show h.get? L = some o from e]; simp
section
variable {w : World} {mean : ExcName → Option Value} {mg mb : Str → Option Value} {A : Around} {E : Value → Shared → Prop} {s : Shared} {env : Env}
theorem iter_new {l : Addr} {its : Array Value} {Q : Value → Shared → Prop} (hl : s.heap.IsList l its) (h : ∀ h', Kp s.heap h' → ∀ I, s.heap.get? I = none → h'.IsListIter I l 0 → Q (.ref I) { s with heap := h' }) : wpAny (model PR w) A (pyIter (.ref l)) Q E s :=
  wpAny_pyIter_list hl (h _ (fun b o e => Heap.get?_push_of_some _ e) _ (Heap.get?_none_of_le (Nat.le_refl _)) ⟨_, Heap.get?_push_size _ rfl, rfl, rfl⟩)
theorem C_Compare1 {l r : Expr} {op : CmpOp} {pos : Pos} {Q : Value → Shared → Prop}
    (h : wpC (model PR w) A (eval l env) (fun a s₁ => wpC (model PR w) A (eval r env) (fun b s₂ => wpC (model PR w) A (compareOp op a b) Q E s₂) E s₁) E s)
    (hm : behindInMarks op r = false := by with_unfolding_all rfl) : wpC (model PR w) A (eval (.Compare l [op] [r] pos) env) Q E s := fun Γ p hΓ hc => by
  simp only [eval_Compare1, markedBehindIn_of_false hm, Sem.wp_bind', Sem.wp_holding, Sem.wp_cmd_standAt, Sem.wp_operate]
  exact Sem.wp_mono _ Γ _ (fun a p₁ s₁ h₁ => Sem.wp_mono _ Γ _ (fun b _ s₂ h₂ => h₂ Γ _ hΓ hc) (fun _ _ _ h' => h') _ _ (h₁ Γ p₁ hΓ hc))
    (fun _ _ _ h' => h') _ _ (h Γ p hΓ hc)
theorem C_BoolOp_and {e₁ e₂ : Expr} {pos : Pos} {Q : Value → Shared → Prop}
    (h : wpC (model PR w) A (eval e₁ env) (fun v s₁ => wpC (model PR w) A (truthy v) (fun c s₂ => if c then wpC (model PR w) A (eval e₂ env) Q E s₂ else Q v s₂) E s₁) E s) :
    wpC (model PR w) A (eval (.BoolOp .And [e₁, e₂] pos) env) Q E s := by
  show wpC _ A (do
    let v ← eval e₁ env
    standAt pos
    let c ← holding [v] (truthy v)
    match BoolOp.And, c with
    | .And, false | .Or, true => pure v
    | _, _ => boolOp pos .And (eval e₂ env :: evalEach [] env)) Q E s
  refine C_bind (C_mono h (fun v s₁ h₁ => C_step (wpAny_standAt (C_bind (C_holding (C_mono h₁ (fun c s₂ h₂ => ?_) fun _ _ x => x))))) fun _ _ x => x)
  cases c with
  | false => exact C_pure h₂
  | true => exact h₂
/-- (_law_three,) -/
theorem tup1 {p1 pos : Pos} {k : Nat} {Q : Value → Shared → Prop} (b : Bs w mean mg mb s.heap) (hK : nsIn (Mine.hd.heap_39 w.params) mainGlobals (Str.ofString "_law_three") = some (some (.ref 73)))
    (h : ∀ h', Kp s.heap h' → ∀ a, s.heap.get? a = none → h'.get? a = some (tupO [.ref 73]) → Q (.ref a) { s with heap := h' })
    (hg : env.globals = mainGlobals := by rfl) (hk' : env.scope.kind = .function := by rfl) (hx : env.kindOf (Str.ofString "_law_three") = some .globalImplicit := by rfl)
    (hst : backTo pos (starEach [.Name (Str.ofString "_law_three") p1] env) = [(false, eval (.Name (Str.ofString "_law_three") p1) env)] := by rfl) :
    wpAny (model PR w) A (eval (.Tuple [.Name (Str.ofString "_law_three") p1] k pos) env) Q E s := by
  refine Tuple_ ?_
  rw [hst]
  refine Calls.spliced_cons (ld_glob b hK ?_ hg hk' hx)
  refine Calls.spliced_nil (wpAny_newTuple ?_)
  exact h _ (fun b o e => Heap.get?_push_of_some _ e) _ (Heap.get?_none_of_le (Nat.le_refl _)) (Heap.get?_push_size _ rfl)
/-- (_law_three, e) -/
theorem tup2 {e : Expr} {p1 pos : Pos} {k : Nat} {Q : Value → Shared → Prop} (b : Bs w mean mg mb s.heap) (hK : nsIn (Mine.hd.heap_39 w.params) mainGlobals (Str.ofString "_law_three") = some (some (.ref 73)))
    (h : wpAny (model PR w) A (eval e env) (fun v s₁ => ∀ h', Kp s₁.heap h' → ∀ a, s₁.heap.get? a = none → h'.get? a = some (tupO [.ref 73, v]) → Q (.ref a) { s₁ with heap := h' }) E s)
    (hg : env.globals = mainGlobals := by rfl) (hk' : env.scope.kind = .function := by rfl) (hx : env.kindOf (Str.ofString "_law_three") = some .globalImplicit := by rfl)
    (hst : backTo pos (starEach [.Name (Str.ofString "_law_three") p1, e] env) = [(false, eval (.Name (Str.ofString "_law_three") p1) env), (false, eval e env)] := by rfl) :
    wpAny (model PR w) A (eval (.Tuple [.Name (Str.ofString "_law_three") p1, e] k pos) env) Q E s := by
  refine Tuple_ ?_
  rw [hst]
  refine Calls.spliced_cons (ld_glob b hK ?_ hg hk' hx)
  refine Calls.spliced_cons (wpAny_mono h (fun v s₁ h₁ => Calls.spliced_nil (wpAny_newTuple ?_)) fun _ _ x => x)
  exact h₁ _ (fun b o e => Heap.get?_push_of_some _ e) _ (Heap.get?_none_of_le (Nat.le_refl _)) (Heap.get?_push_size _ rfl)
end
end Mine

/-! N27 -/
set_option maxHeartbeats 4000000
namespace Mine
section
variable {w : World} {mean : ExcName → Option Value} {mg mb : Str → Option Value} {dp un : Nat} {gd : Option (List Code)} {s : Shared} {R : Result → Shared → Prop}
theorem law_ok {a : Addr} {vs : List Value} {ns : List Int} (U : Und w mean mg mb (Ar dp un [] gd) s.heap [] s.heap) (hroom : dp + 20 < recursionLimit) (hu : un + 400 < cLine)
    (hl : s.heap.IsList a vs.toArray) (hI : IntsAre vs ns) (h63 : ns.length ≤ 63) (hbits : ∀ n ∈ ns, n.natAbs.log2 < 2 ^ 24)
    (hR : ∀ h' tk, Kp s.heap h' → R (.ok (.ret (.bool true))) { s with heap := h', toks := tk }) :
    codeC (model PR w) (Ar dp un [] gd) (.call (.ref 121) ⟨[.ref a], []⟩) R s := by
  refine' enter_cells_C (binds := [(Str.ofString "script", .ref a)]) U (by show dp < _; omega) ?k6 ?k7 ?k9 ?h ?kB ?c5 ?c2 ?c3 ?c4
  case k6 => k_is
  case k7 => k_is
  case k9 => exact BindsTo.of_eq rfl
  case c5 => decide
  case kB => exact rfl
  case c2 => exact rfl
  case c3 => exact rfl
  case c4 => exact rfl
  case h =>
    intro L h₁ tk cells F N Y hL U₁
    have X := U.in.K
    have T := U.in.T
    have hLn : s.heap.get? L = none := by rw [hL]; exact Heap.get?_none_of_le (Nat.le_refl _)
    have mkU := fun {h : Heap} {m : Str → Option Value} (F : Fr s.heap L h m) (env : Env) (hf : env.frame = some L) (hk : env.scope.kind = .function) => (show Und w mean mg mb (Ar (dp + 1) (un + 3) [env] gd) s.heap [env] h from ⟨U.bs, rfl, F.keep, (.cons (by rw [hk]; decide) hf F.ns hLn trivial)⟩)
    k_cells Y
    refine C_execs_cons (C_any ?_)
    try dsimp only
    k_with_none
    k_steps
    rename News _ _ _ _ => N₂
    rename Fr _ _ _ _ => F₂
    rename IntsAre _ (List.take 30 ns ++ _) => hI₂
    rename _ = Data.cell (some (Value.ref _)) => hcd
    rename_i C cvs _ _ h₂ oc
    have nC := N₂ _ (.head _)
    have nc := N₂ (L + 1, oc) (by simp)
    clear U₁ N₂
    generalize hcs : List.take 30 ns ++ [6, 19, 15, 28] = cs at hI₂
    have hlen : cs.length ≤ 34 := by rw [← hcs]; simp; omega
    have hcl : cvs.length = cs.length := IntsAre.length hI₂
    have hcells : h₂.IsList C cvs.toArray := ⟨_, nC.1, rfl, _, rfl⟩
    have hcell : h₂.IsCell (L + 1) (some (.ref C)) := ⟨_, nc.1, hcd⟩
    have hok : ∀ v ∈ cvs, Ok24 v := fun v hv => by
      obtain ⟨i, hi, rfl⟩ := List.getElem_of_mem hv
      have hi2 : i < cs.length := by omega
      obtain ⟨t, e⟩ := ints_at hI₂ i _ (List.getElem?_eq_getElem hi2)
      rw [List.getElem?_eq_getElem hi] at e
      refine ⟨cs[i], t, Option.some.inj e, ?_⟩
      have hm : cs[i] ∈ List.take 30 ns ++ [6, 19, 15, 28] := by rw [hcs]; exact List.getElem_mem hi2
      rcases List.mem_append.mp hm with q | q
      · exact hbits _ (List.mem_of_mem_take q)
      · simp only [List.mem_cons, List.not_mem_nil, or_false] at q
        rcases q with q | q | q | q <;> rw [q] <;> decide +kernel
    -- rows
    refine C_execs_cons (C_any ?_)
    refine call_comp_assign (f := 85) lasts_row U.bs rfl F₂ hcells nC.2.1 (by rw [sizeLine_eq]; simp; omega) (fun v hv => gives_row (dp := dp + 1) (un := un + 3) (hok v (by simpa using hv)) (by omega) (by omega)) (fun q => ld_cel (c := L + 1) rfl hcell q) (fun Rl h₃ tk₃ us F₃ hb₃ hRn hRL hR₃ hlen₃ hP₃ => ?_)
      (by k_is) (by k_is) rfl (fun _ => rfl) (fun _ => rfl) (fun _ => rfl) rfl (by with_unfolding_all rfl) rfl (by decide) rfl (by decide) rfl rfl rfl
    dsimp only
    have hL₂ : h₂.get? L ≠ none := ns_some F₂.ns
    have rows₃ := rows_snap hL₂ (by simpa using hI₂) hRn hR₃ hlen₃ hP₃
    have hL₃ : h₃.get? L ≠ none := ns_some F₃.ns
    -- due
    refine C_execs_cons (C_any (wpAny_Assign_Name (A_call1 (f := 116) (U.bs.keeps F₃.keep) (by k_is) (by k_is) (ld_cel (c := L + 1) rfl (let ⟨o, e, r⟩ := hcell; ⟨o, hb₃ _ _ nc.2.1 e, r⟩) ⟨X.keeps F₃.keep, ?_⟩)) (by with_unfolding_all rfl)))
    refine answer (dp := dp + 1) (un := un + 3) (cs := cs) (U.bs.keeps F₃.keep) (by omega) (by omega) (let ⟨o, e, r⟩ := hcells; ⟨o, hb₃ _ _ nC.2.1 e, r⟩) (by simpa using hI₂) (fun v hv => hok v (by simpa using hv)) (by simp; omega) fun h₄ tk₄ dv k₄ an₄ => ?_
    dsimp only
    have F₄ := F₃.keeps k₄
    refine wpAny_storeName_local (by rfl) F₄.ns (fun h₅ hn₅ hs₅ => ?_) (by rfl)
    have b₅ : But L h₄ h₅ := fun b o hb e => hs₅.extBut b o hb e
    have hRb : s.heap.get? Rl = none := by
      cases q : s.heap.get? Rl with
      | none => rfl
      | some o => have := F₂.keep _ _ q; rw [hRn] at this; cases this
    generalize hB : hideAll h₅ [L] = B
    have hBL : B.get? L = none := hB ▸ hideAll_none _ (by simp)
    have kB₅ : Kp B h₅ := hB ▸ kp_hide
    have k35 : ∀ b o, b ≠ L → h₃.get? b = some o → B.get? b = some o := fun b o hb e => hB ▸ hideAll_get _ (b₅ b o hb (k₄ _ _ e)) (by simpa using hb)
    have anB : AnsOk h₃ B dv cs := hB ▸ (an₄.but hL₃ b₅).hide hL₃
    have rowsB : RowsB B Rl us cs := rows₃.kp fun b o e => k35 b o (fun q => by rw [q, hideAll_none _ (by simp)] at e; cases e) (of_hideAll _ e)
    have cellsB : B.IsList C cvs.toArray := let ⟨o, e, r⟩ := hcells; ⟨o, k35 _ _ nC.2.1 (hb₃ _ _ nC.2.1 e), r⟩
    have cellB : B.IsCell (L + 1) (some (.ref C)) := let ⟨o, e, r⟩ := hcell; ⟨o, k35 _ _ nc.2.1 (hb₃ _ _ nc.2.1 e), r⟩
    have baseB : Kp s.heap B := fun b o e => k35 b o (fun q => by rw [q, hLn] at e; cases e) (F₃.keep _ _ e)
    have mkF : ∀ {h : Heap} {m : Str → Option Value}, h.Ns L m → Kp B h → Fr s.heap L h m := fun hn k => ⟨hn, Kp.trans baseB k, F₃.above⟩
    clear hB
    dsimp only
    -- the three told
    refine C_execs_cons (C_For (C_List ?_))
    simp only [starEach, backTo, List.map, Bool.false_eq_true, if_false]
    refine C_spliced_cons (C_call1 (f := 97) (U.bs.keeps (Kp.trans baseB kB₅)) (by k_is) (by k_is) (C_any (tup2 (U.bs.keeps (Kp.trans baseB kB₅)) (by k_is) (ld_loc (v := .ref Rl) hn₅ rfl ?_))))
    intro h₆ k₆ a₆ an₆ ga₆
    dsimp only at k₆ an₆
    have F₆ := mkF (hn₅.at' fun o e => k₆ _ _ e) (Kp.trans kB₅ k₆)
    refine ⟨X.keeps F₆.keep, ?_⟩
    refine told_gives (dp := dp + 1) (un := un + 3) (base := s.heap) (L := L) rfl (mkU F₆ _ rfl rfl) (by omega) (by omega) ga₆ (.inl rfl) (kp_none (Kp.trans baseB kB₅) an₆) (rows_list rfl rowsB (Kp.trans kB₅ k₆) hBL (by omega) hRb) ?_
    intro h₇ tk₇ t₁ st₇ ans₁ _
    dsimp only
    have kB₇ := kp_step (Kp.trans kB₅ k₆) st₇ hBL (by simp)
    have F₇ := fr_step F₆ st₇ (by simp) (by simp)
    clear F₆
    -- the second
    refine C_spliced_cons (C_call1 (f := 97) (U.bs.keeps F₇.keep) (by k_is) (by k_is) (C_List ?_))
    simp only [starEach, backTo, List.map, Bool.false_eq_true, if_false]
    refine C_spliced_cons (C_any (ld_glob (U.bs.keeps F₇.keep) (by k_is) ?_))
    refine C_spliced_cons (C_any (A_type1 (T := "tuple") (U.bs.keeps F₇.keep) (by k_is) (by boot_by_name) (by decide) (ld_loc (v := .ref Rl) F₇.ns rfl (tuple_list ⟨_, kB₇ _ _ rowsB.1, rfl, _, rfl⟩ (by simp; rw [rowsB.2.1]; omega) fun h₈ t₈ k₈ tn₈ gt₈ => ?_))))
    refine C_spliced_cons (C_any (wpAny_Constant_int (C_spliced_nil (C_any (new_list ?_)))))
    intro h₉ k₉ a₉ an₉ ga₉
    dsimp only at k₈ tn₈ k₉ an₉
    have k79 := Kp.trans k₈ k₉
    have F₉ := F₇.keeps k79
    have ht₉ := k₉ _ _ gt₈
    have htL : t₈ ≠ L := fun q => ns_some F₇.ns (q ▸ tn₈)
    refine ⟨X.keeps F₉.keep, ?_⟩
    refine told_gives (dp := dp + 1) (un := un + 3) (base := s.heap) (L := L) rfl (mkU F₉ _ rfl rfl) (by omega) (by omega) ga₉ (.inr ⟨_, _, _, rfl⟩) (kp_none (F₇.keeps k₈).keep an₉) (rows_tup rfl rowsB (Kp.trans kB₇ k79) hBL (by omega) ht₉ htL (kp_none F₇.keep tn₈)) ?_
    intro h₁₀ tk₁₀ t₂ st₁₀ ans₂ _
    dsimp only
    have kB₁₀ := kp_step (Kp.trans kB₇ k79) st₁₀ hBL (by simp)
    have F₁₀ := fr_step F₉ st₁₀ (by simp) (by simp)
    -- the third
    refine C_spliced_cons (C_call1 (f := 104) (U.bs.keeps F₁₀.keep) (by k_is) (by k_is) (C_any (ld_loc (v := .ref Rl) F₁₀.ns rfl ⟨X.keeps F₁₀.keep, ?_⟩)))
    refine whole_gives (dp := dp + 1) (un := un + 3) (base := s.heap) (L := L) rfl (mkU F₁₀ _ rfl rfl) (by omega) (by omega) rowsB kB₁₀ hBL (by omega) hRb ?_
    intro h₁₁ tk₁₁ t₃ st₁₁ ans₃
    dsimp only
    refine C_spliced_nil (C_any (new_list ?_))
    intro h₁₂ k₁₂ TL tn₁₂ gt₁₂
    dsimp only at k₁₂ tn₁₂
    have kB₁₂ := Kp.trans (kp_step kB₁₀ st₁₁ hBL (by simp)) k₁₂
    have F₁₂ := (fr_step F₁₀ st₁₁ (by simp) (by simp)).keeps k₁₂
    have hL₆ : h₆.get? L ≠ none := fun q => ns_some hn₅ (kp_none k₆ q)
    have ans₁' : AnsOk h₆ h₁₂ t₁ cs := (((ans₁.kp k79).but hL₆ (step_but st₁₀)).but hL₆ (step_but st₁₁)).kp k₁₂
    have ans₂' : AnsOk h₉ h₁₂ t₂ cs := (ans₂.but (ns_some F₉.ns) (step_but st₁₁)).kp k₁₂
    have ans₃' : AnsOk h₁₀ h₁₂ t₃ cs := ans₃.kp k₁₂
    generalize hB' : hideAll h₁₂ [L] = B₃
    have hBL₃ : B₃.get? L = none := hB' ▸ hideAll_none _ (by simp)
    have kB₃₁₂ : Kp B₃ h₁₂ := hB' ▸ kp_hide
    have kBB₃ : Kp B B₃ := hB' ▸ hide_kp kB₁₂ hBL
    have a₁B : AnsOk h₆ B₃ t₁ cs := hB' ▸ ans₁'.hide hL₆
    have a₂B : AnsOk h₉ B₃ t₂ cs := hB' ▸ ans₂'.hide (ns_some F₉.ns)
    have a₃B : AnsOk h₁₀ B₃ t₃ cs := hB' ▸ ans₃'.hide (ns_some F₁₀.ns)
    have hTL : TL ≠ L := fun q => by
      subst q
      have z := ns_some (fr_step F₁₀ st₁₁ (by simp) (by simp)).ns
      exact z tn₁₂
    clear hB'
    refine C_any (iter_new ⟨_, gt₁₂, rfl, _, rfl⟩ fun h₁₃ k₁₃ I In₁₃ hit₁₃ => ?_)
    dsimp only at k₁₃ In₁₃
    have hIL : I ≠ L := fun q => ns_some F₁₂.ns (q ▸ In₁₃)
    have hTI : TL ≠ I := fun q => by rw [q, In₁₃] at gt₁₂; cases gt₁₂
    have nI : B₃.get? I = none := kp_none kB₃₁₂ In₁₃
    refine K_for_list rfl (by rfl) (by rfl) hIL hTL hTI hit₁₃ ⟨_, k₁₃ _ _ gt₁₂, rfl, _, rfl⟩ (F₁₂.keeps k₁₃).ns
      (fun i m h => m (Str.ofString "rows") = some (.ref Rl) ∧ m (Str.ofString "due") = some dv ∧ Kp B₃ h) ?hJ ⟨rfl, rfl, Kp.trans kB₃₁₂ k₁₃⟩ ?step ?hR
    case hJ =>
      rintro i m h h' ⟨j1, j2, j3⟩ k
      exact ⟨j1, j2, fun b o e => k b o (fun q => by rw [q, nI] at e; cases e) (fun q => by have q' : b = L := q; rw [q', hBL₃] at e; cases e) (j3 b o e)⟩
    case step =>
      rintro i v m₁ h tk' hv ⟨j1, j2, j3⟩ hn hit hli
      have hvb : ∃ h₀, AnsOk h₀ B₃ v cs := by
        have hi : i = 0 ∨ i = 1 ∨ i = 2 := by
          have := (Array.getElem?_eq_some_iff.mp hv).1
          simp at this; omega
        rcases hi with rfl | rfl | rfl <;> simp at hv <;> subst hv
        · exact ⟨_, a₁B⟩
        · exact ⟨_, a₂B⟩
        · exact ⟨_, a₃B⟩
      obtain ⟨hz, hvb⟩ := hvb
      refine C_execs_cons (C_any (wpAny_If (wpAny_isTrue_Compare1 (ld_loc hn rfl (ld_loc (v := dv) hn j2 (ne_ans (hvb.kp j3) (anB.kp (Kp.trans kBB₃ j3)) (by show un + 3 + 4 < _; omega) (wpAny_truthy_bool ?_)))) (by with_unfolding_all rfl))))
      rw [if_neg Bool.false_ne_true]
      refine wpAny_execs_nil ?_
      dsimp only
      exact C_execs_nil ⟨rfl, h, _, _, rfl, hn, hit, hli, j1, j2, j3⟩
    case hR =>
      rintro h₁₄ tk₁₄ m₁₄ hn₁₄ ⟨j1, j2, j3⟩
      dsimp only
      have kB₁₄ : Kp B h₁₄ := Kp.trans kBB₃ j3
      clear j3
      -- going
      refine C_execs_cons (C_any (wpAny_Assign_Name (A_blt1 (id := "iter") (U.bs.keeps (Kp.trans baseB kB₁₄)) (by k_is) (by boot_by_name) (by decide) (ld_loc (v := .ref Rl) hn₁₄ j1 ?_)) (by with_unfolding_all rfl)))
      refine iters_list (w := w) (h := h₁₄) ⟨_, kB₁₄ _ _ rowsB.1, rfl, _, rfl⟩ _ _ _ _ (fun _ _ e => e) fun h₁₅ g k₁₅ hit₁₅ alt => ?_
      have gn : h₁₄.get? g = none := by
        rcases alt with ⟨_, e, _⟩ | ⟨_, e⟩
        · cases e
        · exact e
      clear alt
      refine wpAny_storeName_local (by rfl) (hn₁₄.at' fun o e => k₁₅ _ _ e) (fun h₁₆ hn₁₆ hs₁₆ => ?_) (by rfl)
      dsimp only
      have hgL : g ≠ L := fun q => ns_some hn₁₄ (q ▸ gn)
      have hit₁₆ : ItAt h₁₆ g Rl "list_iterator" 0 := let ⟨o, e, r⟩ := hit₁₅; ⟨o, hs₁₆.extBut _ _ hgL e, r⟩
      have kB₁₆ : Kp B h₁₆ := fun b o e => hs₁₆.extBut b o (fun q => by have q' : b = L := q; rw [q', hBL] at e; cases e) (k₁₅ _ _ (kB₁₄ _ _ e))
      have nBg : B.get? g = none := kp_none kB₁₄ gn
      have nbg : s.heap.get? g = none := kp_none baseB nBg
      -- told of going
      refine C_execs_cons (C_If (C_isTrue_Compare1 (C_call1 (f := 97) (U.bs.keeps (Kp.trans baseB kB₁₆)) (by k_is) (by k_is) (C_any (tup2 (U.bs.keeps (Kp.trans baseB kB₁₆)) (by k_is) (ld_loc (v := .ref g) hn₁₆ rfl ?_)))) (by with_unfolding_all rfl)))
      intro h₁₇ k₁₇ a₁₇ an₁₇ ga₁₇
      dsimp only at k₁₇ an₁₇
      have kB₁₇ := Kp.trans kB₁₆ k₁₇
      have F₁₇ := mkF (hn₁₆.at' fun o e => k₁₇ _ _ e) kB₁₇
      refine ⟨X.keeps F₁₇.keep, ?_⟩
      refine told_gives (dp := dp + 1) (un := un + 3) (base := s.heap) (L := L) rfl (mkU F₁₇ _ rfl rfl) (by omega) (by omega) ga₁₇ (.inl rfl) (kp_none (Kp.trans baseB kB₁₆) an₁₇) (rows_it rfl rowsB kB₁₇ hBL (by omega) (let ⟨o, e, r⟩ := hit₁₆; ⟨o, k₁₇ _ _ e, r⟩) hgL nbg) ?_
      intro h₁₈ tk₁₈ t₄ st₁₈ ans₄ alt
      dsimp only
      have kB₁₈ := kp_step kB₁₇ st₁₈ hBL (by simpa using nBg)
      have F₁₈ := fr_step F₁₇ st₁₈ (by simpa using nbg) (by simpa using Ne.symm hgL)
      refine C_any (ld_loc (v := dv) F₁₈.ns j2 (C_any (ne_ans ans₄ (anB.kp kB₁₈) (by show un + 3 + 4 < _; omega) (C_any (wpAny_truthy_bool ?_)))))
      rw [if_neg Bool.false_ne_true]
      refine C_execs_nil ?_
      dsimp only
      replace alt : ((∀ c ∈ cs, ¬ noDue c) ∧ Spent h₁₈ g "list_iterator") ∨ ∃ k, FirstBad cs k ∧ ItAt h₁₈ g Rl "list_iterator" (k + 1) := alt.imp (fun z => ⟨z.1, z.2 rfl⟩) fun ⟨k, z1, z2⟩ => ⟨k, z1, z2 rfl⟩
      clear st₁₈ ans₄ F₁₇ kB₁₇ ga₁₇ an₁₇ k₁₇ hit₁₆ hit₁₅
      -- bad
      have hcells₁₈ : h₁₈.IsList C cvs.toArray := let ⟨o, e, r⟩ := cellsB; ⟨o, kB₁₈ _ _ e, r⟩
      refine C_execs_cons (C_any (LCt.Assign_ListComp_T F₁₈ rfl (by with_unfolding_all rfl) (by with_unfolding_all rfl) (by decide) rfl (by decide) rfl rfl rfl ?_))
      refine A_type1 (T := "range") (U.bs.keeps F₁₈.keep) (by k_is) (by boot_by_name) (by decide) ?_
      refine A_blt1 (id := "len") (U.bs.keeps F₁₈.keep) (by k_is) (by boot_by_name) (by decide) ?_
      refine ld_cel (c := L + 1) rfl (let ⟨o, e, r⟩ := cellB; ⟨o, kB₁₈ _ _ e, r⟩) ?_
      refine Calls.call_len_list hcells₁₈ (by simp; omega) (PySem.call_range_1 ?_)
      generalize hH₁₉ : Heap.push _ _ = h₁₉
      have k₁₉ : Kp h₁₈ h₁₉ := fun b o e => hH₁₉ ▸ Heap.get?_push_of_some _ e
      have hr₁₉ : IsRange h₁₉ h₁₈.objs.size 0 cvs.toArray.size 1 _ _ _ := hH₁₉ ▸ Heap.get?_push_size _ rfl
      have F₁₉ := F₁₈.keeps k₁₉
      have kB₁₉ := Kp.trans kB₁₈ k₁₉
      refine bad_src (mean := mean) (mg := mg) (mb := mb) (c := L + 1) (ax := C) (its := cvs.toArray) (cs := cs) (tu := (_, _, _)) U.bs rfl F₁₉ (let ⟨o, e, r⟩ := cellsB; ⟨o, kB₁₉ _ _ e, r⟩) nC.2.1 (let ⟨o, e, r⟩ := cellB; ⟨o, kB₁₉ _ _ e, r⟩) nc.2.1 (by simpa using hI₂) (by simp; omega) hr₁₉
        (fun v hv => gives_due (dp := dp + 1) (un := un + 3) (hok v (by simpa using hv)) (by omega) (by omega)) rfl rfl (by k_is) (by k_is) (fun _ => rfl) (fun _ => rfl) (fun _ => rfl) (fun _ => rfl) fun g' ys news G => ?_
      intro Bd h₂₀ tk₂₀ F₂₀ N₂₀ o1
      obtain ⟨hIb, sub⟩ := G
      have N0 : News s.heap L h₂₀ news := fun p hp => N₂₀ p (.tail _ hp)
      have b₂₀ : But L h₁₉ h₂₀ := comp_but F₁₉ sub F₂₀.keep N0
      have gBd := (N₂₀ _ (.head _)).1
      dsimp only
      have kB₂₀ : Kp B h₂₀ := fun b o e => b₂₀ b o (fun q => by rw [q, hBL] at e; cases e) (kB₁₉ _ _ e)
      replace alt : ((∀ c ∈ cs, ¬ noDue c) ∧ Spent h₂₀ g "list_iterator") ∨ ∃ k, FirstBad cs k ∧ ItAt h₂₀ g Rl "list_iterator" (k + 1) :=
        alt.imp (fun ⟨z, o, j, e, r⟩ => ⟨z, o, j, b₂₀ _ _ hgL (k₁₉ _ _ e), r⟩) fun ⟨k, z, o, e, r⟩ => ⟨k, z, o, b₂₀ _ _ hgL (k₁₉ _ _ e), r⟩
      have hsz : cvs.toArray.size = cs.length := by simp [hcl]
      rw [hsz] at hIb
      clear hH₁₉ hr₁₉ F₁₉ kB₁₉ sub N0 N₂₀ o1 b₂₀ k₁₉ F₁₈ kB₁₈ hcells₁₈
      -- list(going)
      refine C_execs_cons (C_mono (Q := Nxt B L Rl s) (C_any ?_) (fun f s' hq => ?_) fun _ _ x => x)
      · refine wpAny_If (wpAny_isTrue_Compare1 (A_type1 (T := "list") (U.bs.keeps F₂₀.keep) (by k_is) (by boot_by_name) (by decide) (ld_loc (v := .ref g) F₂₀.ns rfl ?_)) (by with_unfolding_all rfl))
        have hBdL : Bd ≠ L := fun q => by
          obtain ⟨oL, es, ep, hoL, hd, _⟩ := F₂₀.ns
          have := gBd
          rw [q, show h₂₀.get? L = some oL from hoL] at this
          cases this; cases hd
        rcases alt with ⟨good, sp⟩ | ⟨k, ⟨ck, hck, hbk, hfk⟩, it⟩
        · refine list_spent rfl sp fun D h₂₁ tk₂₁ acc c b₂₁ Dn gD hacc => ?_
          have hys : ys = [] := List.length_eq_zero_iff.mp (by rw [IntsAre.length hIb, badIdx_none good]; rfl)
          subst hys
          have hgBd : Bd ≠ g := fun q => by obtain ⟨o, j, e, ec, _⟩ := sp; rw [q, e] at gBd; cases gBd; exact absurd ec (by simp)
          have F₂₁ : h₂₁.Ns L _ := F₂₀.ns.at' fun o e => b₂₁ _ _ (Ne.symm hgL) e
          have kB₂₁ : Kp B h₂₁ := fun b o e => b₂₁ b o (fun q => by rw [q, nBg] at e; cases e) (kB₂₀ _ _ e)
          refine wpAny_IfExp (wpAny_isTrue_Compare1 (ld_loc (v := .ref Bd) F₂₁ rfl (List_ ?_)) (by with_unfolding_all rfl))
          simp only [starEach, backTo, List.map]
          refine Calls.spliced_nil (new_list fun h₂₂ k₂₂ e1 en1 ge1 => ?_)
          dsimp only at k₂₂ en1
          refine eq_lists ⟨_, k₂₂ _ _ (b₂₁ _ _ hgBd gBd), rfl, _, rfl⟩ ⟨_, ge1, rfl, _, rfl⟩ rfl (by show un + 3 < _; omega) (fun j h1 _ => absurd h1 (by simp)) (wpAny_truthy_bool ?_)
          rw [if_pos rfl]
          refine List_ ?_
          simp only [starEach, backTo, List.map]
          refine Calls.spliced_nil (new_list fun h₂₃ k₂₃ e2 en2 ge2 => ?_)
          dsimp only at k₂₃ en2
          have k13 := Kp.trans k₂₂ k₂₃
          refine ne_lists ⟨_, k13 _ _ gD, rfl, _, rfl⟩ ⟨_, ge2, rfl, _, rfl⟩ (by rw [← Array.length_toList, hacc]; rfl) (by show un + 3 < _; omega) (fun j _ h2 => absurd h2 (by simp)) (wpAny_truthy_bool ?_)
          rw [if_neg Bool.false_ne_true]
          exact wpAny_execs_nil ⟨rfl, h₂₃, _, _, rfl, F₂₁.at' fun o e => k13 _ _ e, j1, Kp.trans kB₂₁ k13⟩
        · have hk : k < cs.length := (List.getElem?_eq_some_iff.mp hck).1
          have hRg : Rl ≠ g := fun q => by have := rowsB.1; rw [q, nBg] at this; cases this
          refine list_rest (k := k + 1) rfl it ⟨_, kB₂₀ _ _ rowsB.1, rfl, _, rfl⟩ hRg (by simp; rw [rowsB.2.1]; omega) (by simp; rw [rowsB.2.1]; omega) fun D h₂₁ tk₂₁ acc c b₂₁ Dn gD hacc => ?_
          obtain ⟨rest, hrest⟩ := badIdx_first hck hbk hfk cs.length hk
          rw [hrest] at hIb
          have hgBd : Bd ≠ g := fun q => by obtain ⟨o, e, ec, _⟩ := it; rw [q, e] at gBd; cases gBd; exact absurd ec (by simp)
          have F₂₁ : h₂₁.Ns L _ := F₂₀.ns.at' fun o e => b₂₁ _ _ (Ne.symm hgL) e
          have kB₂₁ : Kp B h₂₁ := fun b o e => b₂₁ b o (fun q => by rw [q, nBg] at e; cases e) (kB₂₀ _ _ e)
          have gBd₂₁ := b₂₁ _ _ hgBd gBd
          refine wpAny_IfExp (wpAny_isTrue_Compare1 (ld_loc (v := .ref Bd) F₂₁ rfl (List_ ?_)) (by with_unfolding_all rfl))
          simp only [starEach, backTo, List.map]
          refine Calls.spliced_nil (new_list fun h₂₂ k₂₂ e1 en1 ge1 => ?_)
          dsimp only at k₂₂ en1
          refine eq_list_lengthsAt ⟨_, k₂₂ _ _ gBd₂₁, rfl, _, rfl⟩ ⟨_, ge1, rfl, _, rfl⟩ ?_ (by show un + 3 < _; omega) (wpAny_truthy_bool ?_)
          · cases hIb; rfl
          rw [if_neg Bool.false_ne_true]
          have F₂₂ : h₂₂.Ns L _ := F₂₁.at' fun o e => k₂₂ _ _ e
          obtain ⟨tb, hy0⟩ := ints_at hIb 0 (k : Int) rfl
          refine Subscript_ (ld_loc (v := .ref Rl) F₂₂ j1 (wpAny_Slice (wpAny_evalPart_some (wpAny_BinOp (Subscript_ (ld_loc (v := .ref Bd) F₂₂ rfl (wpAny_Constant_int (list_place (x := .int k tb) ⟨_, k₂₂ _ _ gBd₂₁, rfl, _, rfl⟩ (by decide) (by decide) (by simpa using hy0) (wpAny_Constant_int (PySem.P.add_int (wpAny_evalPart_none (wpAny_evalPart_none ?_)))) (by with_unfolding_all rfl)))))))))
          have hacc' : acc = (us.drop (k + 1)).toArray := by
            apply Array.ext'
            simpa using hacc
          subst hacc'
          refine slice_listK (s := ⟨h₂₂, _, _, _, _⟩) (l := Rl) (items := us.toArray) (lo := some (((k + 1 : Nat)) : Int)) (hi := none) (hsz := by rw [sizeLine_eq]; simp; rw [rowsB.2.1]; omega) ⟨_, k₂₂ _ _ (kB₂₁ _ _ rowsB.1), rfl, _, rfl⟩ (.int _ _) .none ?_
          rw [slicePick_from']
          dsimp only
          generalize hP1 : Heap.push h₂₂ _ = h₂₃
          have k₂₃ : Kp h₂₂ h₂₃ := fun b o e => hP1 ▸ Heap.get?_push_of_some _ e
          have e₂₃ : h₂₂.objs.size + 1 = h₂₃.objs.size := by rw [← hP1, Heap.size_push]
          rw [e₂₃]
          generalize hP2 : Heap.push h₂₃ _ = h₂₄
          have k₂₄ : Kp h₂₃ h₂₄ := fun b o e => hP2 ▸ Heap.get?_push_of_some _ e
          have gE : h₂₄.get? h₂₃.objs.size = some (listO (us.toArray.toList.drop (k + 1)).toArray 0) := hP2 ▸ Heap.get?_push_size _ rfl
          have k24 := Kp.trans (Kp.trans k₂₂ k₂₃) k₂₄
          refine ne_lists ⟨_, k24 _ _ gD, rfl, _, rfl⟩ ⟨_, gE, rfl, _, rfl⟩ (by simp) (by show un + 3 < _; omega) (fun j _ _ => EqAt.same _) (wpAny_truthy_bool ?_)
          rw [if_neg Bool.false_ne_true]
          exact wpAny_execs_nil ⟨rfl, h₂₄, _, _, rfl, F₂₁.at' fun o e => k24 _ _ e, j1, Kp.trans kB₂₁ k24⟩
      · obtain ⟨rfl, h₂₅, tk₂₅, m₂₅, rfl, hn₂₅, hr₂₅, kB₂₅⟩ := hq
        dsimp only
        -- the pieces
        have F₂₅ := mkF hn₂₅ kB₂₅
        refine C_execs_cons (C_For (C_call1 (f := 111) (U.bs.keeps F₂₅.keep) (by k_is) (by k_is) (C_any (ld_cel (c := L + 1) rfl (let ⟨o, e, r⟩ := cellB; ⟨o, kB₂₅ _ _ e, r⟩) ⟨X.keeps F₂₅.keep, ?_⟩))))
        refine Mine.pieces (dp := dp + 1) (un := un + 3) (base := s.heap) (mkU F₂₅ _ rfl rfl) (by omega) (by omega) (let ⟨o, e, r⟩ := cellsB; ⟨o, kB₂₅ _ _ e, r⟩) (fun v hv => let ⟨c, t, e, _⟩ := hok v (by simpa using hv); ⟨c, t, e⟩) (by simp; omega) fun h₂₆ tk₂₆ P k₂₆ pcs => ?_
        dsimp only
        have kB₂₆ := Kp.trans kB₂₅ k₂₆
        have hL₂₅ : h₂₅.get? L ≠ none := ns_some hn₂₅
        obtain ⟨acc, cc, pc1, _, pc3, pc4, _, pc6⟩ := pcs
        have hPL : P ≠ L := fun q => hL₂₅ (q ▸ pc4)
        generalize hB4 : hideAll h₂₆ [L] = B₄
        have hBL₄ : B₄.get? L = none := hB4 ▸ hideAll_none _ (by simp)
        have kB₄ : Kp B₄ h₂₆ := hB4 ▸ kp_hide
        have kBB₄ : Kp B B₄ := hB4 ▸ hide_kp kB₂₆ hBL
        have gP₄ : B₄.get? P = some (listO acc cc) := hB4 ▸ hideAll_get _ pc1 (by simpa using hPL)
        have pcs₄ : ∀ u ∈ acc.toList, ∃ q its k, u = .ref q ∧ B₄.get? q = some (listO its k) ∧ its.size ≤ 34 ∧ ∀ v ∈ its.toList, v ∈ cvs := fun u hu => by
          obtain ⟨q, its, k, f1, _, f3, _, f5, f6, f7⟩ := pc6 u hu
          refine ⟨q, its, k, f1, hB4 ▸ hideAll_get _ f5 (fun m => hL₂₅ (by rw [← List.mem_singleton.mp m]; exact f3)), ?_, fun v hv => by simpa using f7 v hv⟩
          simp at f6; omega
        clear hB4 pc6
        refine C_any (iter_new ⟨_, pc1, rfl, _, rfl⟩ fun h₂₇ k₂₇ I In hit => ?_)
        dsimp only at k₂₇ In
        have hIL : I ≠ L := fun q => ns_some (hn₂₅.at' fun o e => k₂₆ _ _ e) (q ▸ In)
        have hPI : P ≠ I := fun q => by rw [q, In] at pc1; cases pc1
        have nI : B₄.get? I = none := kp_none kB₄ In
        refine K_for_list rfl (by rfl) (by rfl) hIL hPL hPI hit ⟨_, k₂₇ _ _ pc1, rfl, _, rfl⟩ ((hn₂₅.at' fun o e => k₂₆ _ _ e).at' fun o e => k₂₇ _ _ e)
          (fun i m h => m (Str.ofString "rows") = some (.ref Rl) ∧ Kp B₄ h) ?hJ ⟨hr₂₅, Kp.trans kB₄ k₂₇⟩ ?step ?hR
        case hJ =>
          rintro i m h h' ⟨j1, j3⟩ k
          exact ⟨j1, fun b o e => k b o (fun q => by rw [q, nI] at e; cases e) (fun q => by have q' : b = L := q; rw [q', hBL₄] at e; cases e) (j3 b o e)⟩
        case step =>
          rintro i v m₁ h tk' hv ⟨j1, j3⟩ hn hit hli
          have hvm : v ∈ acc.toList := by
            have hv' : acc.toList[i]? = some v := by rw [Array.getElem?_toList]; exact hv
            exact List.mem_of_getElem? hv'
          obtain ⟨q, its, k, rfl, gq, hz, hsub⟩ := pcs₄ v hvm
          obtain ⟨csq, hIq⟩ := ints_of fun v hv => let ⟨c, t, e, _⟩ := hok v (hsub v hv); ⟨c, t, e⟩
          have hlq : its.size = csq.length := by rw [← Array.length_toList]; exact IntsAre.length hIq
          have hqL : q ≠ L := fun z => by rw [z, hBL₄] at gq; cases gq
          have base₄ : Kp s.heap B₄ := Kp.trans baseB kBB₄
          have Fh : Fr s.heap L h _ := ⟨hn, Kp.trans base₄ j3, F₃.above⟩
          have hLh : h.get? L ≠ none := ns_some hn
          refine C_execs_cons (C_If (C_isTrue_Compare1 (C_call1 (f := 97) (U.bs.keeps Fh.keep) (by k_is) (by k_is) (C_any (tup2 (U.bs.keeps Fh.keep) (by k_is) ?_))) (by with_unfolding_all rfl)))
          refine call_comp (f := 85) lasts_row U.bs rfl Fh ⟨_, j3 _ _ gq, rfl, _, rfl⟩ hqL (by rw [sizeLine_eq]; omega) (fun v hv => gives_row (dp := dp + 1) (un := un + 3) (hok v (hsub v hv)) (by omega) (by omega)) (fun z => ld_loc (v := .ref q) hn rfl z) (fun D g₁ tk₁ ys Fg₁ b₁ Dn DL gD hys hP => ?_)
            (by k_is) (by k_is) rfl (fun _ => rfl) (fun _ => rfl) (fun _ => rfl) rfl (by decide) rfl (by decide) rfl
          intro g₂ kg₂ a₂ an₂ ga₂
          dsimp only at kg₂ an₂
          have rowsq := rows_snap (L := L) hLh hIq Dn gD hys hP
          have kS₂ : Kp (hideAll g₁ [L]) g₂ := Kp.trans kp_hide kg₂
          have Fg₂ := Fg₁.keeps kg₂
          refine ⟨X.keeps Fg₂.keep, ?_⟩
          refine told_gives (dp := dp + 1) (un := un + 3) (base := s.heap) (L := L) rfl (mkU Fg₂ _ rfl rfl) (by omega) (by omega) ga₂ (.inl rfl) (kp_none Fg₁.keep an₂) (rows_list rfl rowsq kS₂ (hideAll_none _ (by simp)) (by omega) (kp_none Fh.keep Dn)) ?_
          intro g₃ tk₃' t₅ st₃ ans₅ _
          dsimp only
          have b₃ := step_but st₃
          have Fg₃ := fr_step Fg₂ st₃ (by simp) (by simp)
          have b03 : But L h g₃ := fun b o hb e => b₃ b o hb (kg₂ _ _ (b₁ b o hb e))
          refine C_any (A_call1 (f := 116) (U.bs.keeps Fg₃.keep) (by k_is) (by k_is) (ld_loc (v := .ref q) Fg₃.ns rfl ⟨X.keeps Fg₃.keep, ?_⟩))
          refine answer (dp := dp + 1) (un := un + 3) (cs := csq) (U.bs.keeps Fg₃.keep) (by omega) (by omega) ⟨_, b03 _ _ hqL (j3 _ _ gq), rfl, _, rfl⟩ hIq (fun v hv => hok v (hsub v hv)) (by omega) fun g₄ tk₄' dq kg₄ anq => ?_
          dsimp only
          refine C_any (ne_ans (ans₅.kp kg₄) anq (by show un + 3 + 4 < _; omega) (C_any (wpAny_truthy_bool ?_)))
          rw [if_neg Bool.false_ne_true]
          refine C_execs_nil ?_
          dsimp only
          have b04 : But L h g₄ := fun b o hb e => kg₄ _ _ (b03 b o hb e)
          exact C_execs_nil ⟨rfl, g₄, _, _, rfl, (Fg₃.keeps kg₄).ns, hit.at fun o e => b04 _ o hIL e, hli.at fun o e => b04 _ o hPL e, j1, fun b o e => b04 b o (fun z => by rw [z, hBL₄] at e; cases e) (j3 b o e)⟩
        case hR =>
          rintro h₂₈ tk₂₈ m₂₈ hn₂₈ ⟨j1, j3⟩
          dsimp only
          have kB₂₈ := Kp.trans kBB₄ j3
          have F₂₈ := mkF hn₂₈ kB₂₈
          refine C_execs_cons (C_Return (C_BoolOp_and (C_Compare1 (C_call1 (f := 97) (U.bs.keeps F₂₈.keep) (by k_is) (by k_is) (C_any (tup1 (U.bs.keeps F₂₈.keep) (by k_is) fun h₂₉ k₂₉ a₂₉ an₂₉ ga₂₉ => ?_))) (by with_unfolding_all rfl))))
          dsimp only at k₂₉ an₂₉
          have F₂₉ := F₂₈.keeps k₂₉
          refine ⟨X.keeps F₂₉.keep, ?_⟩
          refine told_index (mean := mean) (mg := mg) (mb := mb) (dp := dp + 1) (un := un + 3) (base := s.heap) (mkU F₂₉ _ rfl rfl) (by omega) (by omega) ga₂₉ (kp_none F₂₈.keep an₂₉) fun h₃₀ tk₃₀ t₃₀ st => ?_
          have st₃₀ : Step [L] [] h₂₉ h₃₀ := st
          dsimp only
          have F₃₀ := fr_step F₂₉ st₃₀ (by simp) (by simp)
          have kB₃₀ := kp_step (Kp.trans kB₂₈ k₂₉) st₃₀ hBL (by simp)
          refine C_any (Calls.Constant_str (C_any (PySem.P.eq_str (C_any (wpAny_truthy_bool ?_)))))
          rw [beq_self_eq_true, if_pos rfl]
          have hc₃₀ : h₃₀.IsList C cvs.toArray := let ⟨o, e, r⟩ := cellsB; ⟨o, kB₃₀ _ _ e, r⟩
          refine C_any (wpAny_Compare1 (ld_loc (v := .ref Rl) F₃₀.ns j1 ?_) (by with_unfolding_all rfl))
          refine call_comp (f := 85) lasts_row U.bs rfl F₃₀ hc₃₀ nC.2.1 (by rw [sizeLine_eq]; simp; omega) (fun v hv => gives_row (dp := dp + 1) (un := un + 3) (hok v (by simpa using hv)) (by omega) (by omega)) (fun z => ld_cel (c := L + 1) rfl (let ⟨o, e, r⟩ := cellB; ⟨o, kB₃₀ _ _ e, r⟩) z) (fun D h₃₁ tk₃₁ ys F₃₁ b₃₁ Dn DL gD hys hP => ?_)
            (by k_is) (by k_is) rfl (fun _ => rfl) (fun _ => rfl) (fun _ => rfl) rfl (by decide) rfl (by decide) rfl
          have kB₃₁ : Kp B h₃₁ := fun b o e => b₃₁ b o (fun q => by rw [q, hBL] at e; cases e) (kB₃₀ _ _ e)
          have rows' := (rows_snap (L := L) (ns_some F₃₀.ns) (by simpa using hI₂) Dn gD hys hP).kp (B' := h₃₁) kp_hide
          have rows := rowsB.kp kB₃₁
          refine eq_lists ⟨_, rows.1, rfl, _, rfl⟩ ⟨_, rows'.1, rfl, _, rfl⟩ (by simp; rw [rows.2.1, rows'.2.1]) (by show un + 3 < _; omega) (fun j g1 g2 => ?_) ?_
          · have hj1 : j < us.length := by simpa using g1
            have hj2 : j < ys.length := by simpa using g2
            have hj3 : j < cs.length := by rw [← rows.2.1]; exact hj1
            have x := rows.2.2 j _ _ (List.getElem?_eq_getElem hj1) (List.getElem?_eq_getElem hj3)
            have y := rows'.2.2 j _ _ (List.getElem?_eq_getElem hj2) (List.getElem?_eq_getElem hj3)
            simp only [List.getElem_toArray]
            exact row_eq x.1 x.2 y.1 y.2 (by show un + 3 + 1 + 2 < _; omega)
          · exact hR _ _ F₃₁.keep
end
end Mine

/-! N28 -/
namespace Mine
theorem weight_mem : ∀ {ns : List Int} {n : Int}, n ∈ ns → PyData.weight (.int n) ≤ PyData.weightAll (ns.map PyData.int)
  | m :: r, n, h => by
    rw [List.map_cons, PyData.weightAll]
    rcases List.mem_cons.mp h with rfl | h
    · omega
    · have := weight_mem h; omega
theorem bits_of {ns : List Int} (h : (PyData.list (ns.map PyData.int)).layable0 = true) : ∀ n ∈ ns, n.natAbs.log2 < 2 ^ 24 := fun n hn => by
  unfold PyData.layable0 at h
  simp only [Bool.and_eq_true, decide_eq_true_eq] at h
  have h2 := h.2
  have h3 := weight_mem hn
  simp only [PyData.weight] at h2 h3
  by_cases q : n = 0
  · subst q; decide
  · have q' : (n == 0) = false := by simpa using q
    rw [q'] at h3
    simp only [Bool.false_eq_true, if_false] at h3
    omega
end Mine
set_option maxRecDepth 100000 in
set_option maxHeartbeats 8000000 in
theorem PySem.Challenge.cw_in0203_01_holds : PySem.Challenge.rw_in0203_01.Holds := by
  refine Mine.hd ?_
  intro w s₀ s₁ mg mb G Y fa o pm cd doc dV kV ho hd hcd hD hmg hg args vals as hpre hlay hrd hwl hlo
  have KX := kIn_of Y
  refine Ground.open G ?_
  intro T B D TE TW
  clear ho hd hcd hD TE TW D B
  wrow_args hpre hlay hrd hwl hlo
  rename_i ns _ _ hL0 _ _ _ _ al vs _ hL _ _ _ hI _ h63 _
  have hfa : mg (Str.ofString "law") = some (.ref 121) := mg_of KX T.g (by k_is)
  rw [show mg (Str.ofString "law") = some (Value.ref fa) from hmg] at hfa
  cases hfa
  have U : Mine.Und w (ExcName.means s₀.heap) mg mb (Mine.Ar (1 + claimMargin) 4 [] (some [])) s₁.heap [] s₁.heap := ⟨⟨KX, T⟩, rfl, fun _ _ e => e, trivial⟩
  refine Mine.C_call (Mine.law_ok (mean := ExcName.means s₀.heap) (mg := mg) (mb := mb) (dp := 1 + claimMargin) (un := 4) U (by decide +kernel) (by decide +kernel) hL hI (by omega) (Mine.bits_of hL0) fun h' tk k => ?_)
  dsimp only
  refine GoodW.toG ⟨.inl ⟨.bool true, .bool true, [], rfl, raisesW_false (by intro ct hct; exact nomatch hct), .bool true, postW_of (X := true) rfl ?_ rfl, unshared_nil⟩, k, rfl, hg⟩
  exact (w_eq_bool (w_res rfl) w_lit).trans rfl
