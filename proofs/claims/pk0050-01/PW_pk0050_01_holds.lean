import PyProof.Rows.All
import Wide.All
import OpenK.AllK
import Wide.FinOn
import Lean
import PySem.Challenge.RW_pk0050_01
set_option Elab.async false
/-! joined by a small program of the prover: each part is a section of its own -/
section -- RL
open PySem PySem.W PySem.Calls PyProof.Rows
set_option maxRecDepth 100000
set_option linter.unusedVariables false
namespace Mine
/-! the logic over the contexts in which no decoder holds anything -/
def nd : Code → Bool
  | .builtin id _ => !(Builtin.Bytes.decodersThatHold.contains id || (["bytearray.__contains__", "bytearray.__mod__", "bytearray.__rmod__", "_struct.pack_into.held", "bytearray.find.held"] : List String).contains id)
  | _ => true
def NdBelow (Γ : PySem.Ctx) : Prop := ∀ x ∈ Γ.below, nd x.1 = true
def wpR {α : Type} (M : Model) (A : Around) (t : Sem α) (Q : α → Shared → Prop) (E : Value → Shared → Prop) (s : Shared) : Prop :=
  ∀ Γ p, Γ.In A → nd Γ.code = true → NdBelow Γ → Sem.wp M Γ t (fun a _ s' => Q a s') (fun e _ s' => E e s') p s
def codeR (M : Model) (A : Around) (c : Code) (R : Result → Shared → Prop) (s : Shared) : Prop :=
  ∀ Γ p, Γ.code = c → Γ.Below A → NdBelow Γ → wpCode M Γ R p s
section
variable {α β : Type} {M : Model} {A : Around} {E : Value → Shared → Prop} {s : Shared}
theorem wpR_any {t : Sem α} {Q : α → Shared → Prop} (h : wpAny M A t Q E s) : wpR M A t Q E s := fun Γ p hΓ _ _ => h Γ p hΓ
theorem codeR_any {c : Code} {R : Result → Shared → Prop} (h : codeAny M A c R s) : codeR M A c R s := fun Γ p hc hΓ _ => h Γ p hc hΓ
theorem wpR_pure {a : α} {Q : α → Shared → Prop} (h : Q a s) : wpR M A (pure a) Q E s := fun _ _ _ _ _ => h
theorem wpR_mono {t : Sem α} {Q Q' : α → Shared → Prop} {E' : Value → Shared → Prop} (h : wpR M A t Q E s)
    (hQ : ∀ a s, Q a s → Q' a s) (hE : ∀ e s, E e s → E' e s) : wpR M A t Q' E' s :=
  fun Γ p hΓ h1 h2 => Sem.wp_mono M Γ t (fun a _ s => hQ a s) (fun e _ s => hE e s) p s (h Γ p hΓ h1 h2)
theorem wpR_bind {m : Sem α} {f : α → Sem β} {Q : β → Shared → Prop} (h : wpR M A m (fun a s' => wpR M A (f a) Q E s') E s) :
    wpR M A (m >>= f) Q E s := fun Γ p hΓ h1 h2 => by
  rw [Sem.wp_bind']
  exact Sem.wp_mono M Γ m (fun a p' s' h' => h' Γ p' hΓ h1 h2) (fun _ _ _ h' => h') p s (h Γ p hΓ h1 h2)
/-- the step itself by any rule of the library -/
theorem wpR_bindA {m : Sem α} {f : α → Sem β} {Q : β → Shared → Prop} (h : wpAny M A m (fun a s' => wpR M A (f a) Q E s') E s) :
    wpR M A (m >>= f) Q E s := wpR_bind (wpR_any h)
theorem wpR_attempt {m : Sem α} {Q : Except Value α → Shared → Prop} (h : wpR M A m (fun a => Q (.ok a)) (fun e => Q (.error e)) s) :
    wpR M A m.attempt Q E s := fun Γ p hΓ h1 h2 => by rw [Sem.wp_attempt]; exact h Γ p hΓ h1 h2
theorem wpR_onRaise {m : Sem α} {k : Value → Sem Unit} {Q : α → Shared → Prop}
    (h : wpR M A m Q (fun e s' => wpAny M A (k e) (fun _ s'' => E e s'') E s') s) : wpR M A (m.onRaise k) Q E s := fun Γ p hΓ h1 h2 => by
  rw [Sem.wp_onRaise]
  exact Sem.wp_mono M Γ m (fun _ _ _ h' => h') (fun e p' s' h' => h' Γ p' hΓ) p s (h Γ p hΓ h1 h2)
theorem wpR_holding {vs : List Value} {m : Sem α} {Q : α → Shared → Prop} (h : wpR M A m Q E s) : wpR M A (holding vs m) Q E s :=
  fun Γ p hΓ h1 h2 => by rw [Sem.wp_holding]; exact h Γ p hΓ h1 h2
theorem wpR_keep {vs : List Value} {m : Sem α} {Q : α → Shared → Prop} (h : wpR M A m Q E s) : wpR M A (m.keep vs) Q E s :=
  fun Γ p hΓ h1 h2 => by rw [Sem.wp_keep]; exact h Γ p hΓ h1 h2
theorem ndBelow_enter {Γ : PySem.Ctx} {c : Code} {h : Option Value} {p : Pos} (h1 : nd Γ.code = true) (h2 : NdBelow Γ) : NdBelow (Γ.enter c h p) := by
  intro x hx
  rcases List.mem_cons.mp hx with rfl | hx
  · exact h1
  · exact h2 x hx
theorem wpR_run {c : Code} {h : Option Value} {Q : Flow → Shared → Prop}
    (hc : codeR M (A.mark h) c (fun r s' => match r with | .ok f => Q f s' | .error e => E e s') s) (hnb : h ≠ some byPass := by intro x; cases x) :
    wpR M A (run c h) Q E s :=
  fun Γ p hΓ h1 h2 => by rw [Sem.wp_run]; exact hc _ p rfl (hΓ.enter c h p hnb) (ndBelow_enter h1 h2)
theorem wpR_call {f : Value} {pos : List Value} {kw : List (Str × Value)} {Q : Value → Shared → Prop}
    (hc : codeR M A (.call f ⟨pos, kw⟩) (fun r s' => match r with | .ok (.ret v) => Q v s' | .ok _ => False | .error e => E e s') s) :
    wpR M A (call f pos kw) Q E s := fun Γ p hΓ h1 h2 => by
  show Sem.wp M Γ (runValue (.call f ⟨pos, kw⟩)) _ _ p s
  rw [Sem.wp_runValue]; exact hc _ p rfl (hΓ.enter _ none p (by intro x; cases x)) (ndBelow_enter h1 h2)
theorem wpR_runValue {c : Code} {Q : Value → Shared → Prop}
    (hc : codeR M A c (fun r s' => match r with | .ok (.ret v) => Q v s' | .ok _ => False | .error e => E e s') s) :
    wpR M A (runValue c) Q E s := fun Γ p hΓ h1 h2 => by rw [Sem.wp_runValue]; exact hc _ p rfl (hΓ.enter c none p (by intro x; cases x)) (ndBelow_enter h1 h2)
theorem codeR_of_tree {c : Code} {R : Result → Shared → Prop} (hnd : nd c = true)
    (h : wpR M (A.under c) (M.den c) (fun fin s' => match fin with | .done f => R (.ok f) s' | .again c' => c'.quiet = true ∧ codeR M A c' R s')
      (fun e s' => R (.error e) s') s) : codeR M A c R s := fun Γ p hc hΓ h2 => by
  rw [wpCode_iff_wp, hc]
  refine Sem.wp_mono M Γ _ (fun fin p' s' h' => ?_) (fun _ _ _ h' => h') p s (h Γ p (hc ▸ hΓ.in) (by rw [hc]; exact hnd) h2)
  cases fin with
  | done f => exact h'
  | again c' => exact ⟨h'.1, h'.2 (Γ.goto c') p' rfl (hΓ.goto c') h2⟩
theorem codeR_mono {c : Code} {R R' : Result → Shared → Prop} (h : codeR M A c R s) (hR : ∀ r s, R r s → R' r s) : codeR M A c R' s :=
  fun Γ p hc hΓ h2 => wpCode_mono hR (h Γ p hc hΓ h2)
theorem codeR_loop {c : Code} {R : Result → Shared → Prop} (hq : c.quiet = true) (hnd : nd c = true) (I : Nat → Shared → Prop)
    (turn : ∀ n s, I n s → wpR M (A.under c) (M.den c)
      (fun fin s' => match fin with | .done f => R (.ok f) s' | .again c' => c' = c ∧ ∃ m, m < n ∧ I m s') (fun e s' => R (.error e) s') s)
    (n : Nat) (h : I n s) : codeR M A c R s := by
  induction n using Nat.strongRecOn generalizing s with
  | ind n ih =>
    refine codeR_of_tree hnd (wpR_mono (turn n s h) (fun fin s' hf => ?_) fun _ _ h' => h')
    cases fin with
    | done f => exact hf
    | again c' => obtain ⟨rfl, m, hm, hI⟩ := hf; exact ⟨hq, ih m hm hI⟩
end
section
variable {prog : Program} {w : World} {A : Around} {s : Shared} {R : Result → Shared → Prop}
theorem codeR_func {body : List Stmt} {env : Env}
    (h : wpR (model prog w) (A.deeper env) (execs body env) (fun f s' => R (.ok (.ret (match f with | .ret v => v | _ => .none))) s')
      (fun e s' => wpAny (model prog w) (A.deeper env) (leaving env e) (fun _ s'' => R (.error e) s'') (fun e' s'' => R (.error e') s'') s') s) :
    codeR (model prog w) A (.func body env) R s := by
  refine codeR_of_tree rfl ?_
  show wpR _ (A.deeper env) (do point; match ← (execs body env).onRaise (leaving env) with | .ret v => ret v | _ => ret .none) _ _ s
  refine wpR_bindA (wpAny_point (wpR_bind (wpR_onRaise (wpR_mono h (fun f s' h' => ?_) fun _ _ h' => h'))))
  cases f <;> exact wpR_pure h'
theorem codeR_call_function {a : Addr} {args : Args} {o : Obj} {fd : FuncData} {body : List Stmt} (hroom : A.depth < recursionLimit) (ho : s.heap.get? a = some o)
    (hd' : o.data = .func fd) (hco : fd.scope.isCoroutine = false) (hgen : fd.scope.isGenerator = false) (hbody : fd.body = .stmts body) (hcd : s.heap.CodeRec fd.code fd.qualname)
    (h : wpAny (model prog w) A.in1 (bindArgs fd args) (fun binds s₁ =>
      wpAny (model prog w) A.in1 (newFunctionEnv fd.scope fd.globals fd.closure binds (fd.qualname ++ ".<locals>.") (some a) fd.code none fd.builtins)
        (fun env s₂ => s₂.heap.NoLimit ∧ codeR (model prog w) A (.func body env) R s₂) (fun e s' => R (.error e) s') s₁) (fun e s' => R (.error e) s') s) :
    codeR (model prog w) A (.call (.ref a) args) R s := by
  refine codeR_of_tree rfl (wpR_any ?_)
  show wpAny _ A.in1 (callAny (.ref a) args) _ _ s
  simp only [callAny]
  refine wpAny_bind (wpAny_load ho ?_)
  obtain ⟨c, oc, vs, tq, hc, hoc, hdc, hq⟩ := hcd
  simp only [hd', callFunction, hco, hgen, hbody, hc]
  rw [hc] at h
  refine wpAny_bind (m := field (.ref c) 1) (wpAny_field hoc hdc hq (wpAny_bind (wpAny_pure ?_)))
  exact wpAny_bind (wpAny_mono h (fun binds s₁ h₁ => wpAny_bind (wpAny_mono h₁ (fun env s₂ h₂ => wpAny_bind (wpAny_enterFrame h₂.1 hroom
    (wpAny_pure (And.intro rfl h₂.2)))) fun _ _ h' => h')) fun _ _ h' => h')
end
end Mine
end
section -- H1
open PySem PySem.W PySem.Calls PyProof.Rows
set_option maxRecDepth 100000
set_option linter.unusedVariables false
namespace Mine
/-- the caller's own context holds no decoder -/
theorem halts_R {prog : Program} {w : World} {t : Sem Fin} {s : Shared} {R : Result → Shared → Prop} (hz : s.asleep)
    (h : wpR (model prog w) callerA t (fun fin s' => ∃ f, fin = .done f ∧ (R (.ok f) s' ∧ leftWithCleanup s'.gens = false)) (fun e s' => R (.error e) s' ∧ leftWithCleanup s'.gens = false) s) :
    ∃ n r s' s'', runN (denote table) prog w n s ⟨t, .builtin "claim.caller" {}, default, []⟩ = .halted (outcomeOf r) s' ∧
      schedN (denote table) prog w n (.single s ⟨t, .builtin "claim.caller" {}, default, []⟩) = .halted (outcomeOf r) s' ∧ s'.forget = s''.forget ∧ R r s'' := by
  have h0 := h ⟨.builtin "claim.caller" {}, none, none, [], none⟩ default caller_in (by decide +kernel) (fun x hx => nomatch hx)
  have h1 : Sem.wp (model prog w) ⟨.builtin "claim.caller" {}, none, none, [], none⟩ t (Sem.finPost (model prog w) ⟨.builtin "claim.caller" {}, none, none, [], none⟩ (fun r s' => R r s' ∧ leftWithCleanup s'.gens = false)) (fun e _ s' => R (.error e) s' ∧ leftWithCleanup s'.gens = false) default s := by
    refine Sem.wp_mono _ _ t (fun fin p' s' h' => ?_) (fun _ _ _ h' => h') default s h0
    obtain ⟨f, rfl, hf⟩ := h'
    exact hf
  obtain ⟨n, r, s₁, s₂, hs, hn, hfo, hR⟩ := wp_halts_full (M := model prog w) (R := R) hz h1
  exact ⟨n, r, s₂, s₁, hn, hs, hfo, hR⟩
/-- the call, claimed in the restricted logic, from a state laid behind the top's run -/
theorem callFrom_R {c : ClaimW} {tree : List Value → Sem Fin} {w : World} {s : Shared} {free : Addr → Prop} {gens : Prop} {kept : Heap → Prop} (hz : s.asleep) (hgens : s.gens = #[])
    (spec : ∀ args, c.pre args = true → WData.layableAll args = true → ∀ ord : List DictEntry → List DictEntry, (∀ l, (ord l).Perm l) →
      ∃ vs s₁, layAllW c.records (classAt s.heap) w.params ord args s = some (vs, s₁) ∧
        wpR (model c.prog w) callerA (tree vs) (fun fin s' => ∃ f, fin = .done f ∧ (c.Ends s args vs s₁ (.ok f) s' ∧ s'.os = s.os ∧ AllBare s'.gens ∧ kept s'.heap))
          (fun e s' => c.Ends s args vs s₁ (.error e) s' ∧ s'.os = s.os ∧ AllBare s'.gens ∧ kept s'.heap) s₁) :
    c.CallFrom (fun vs => ⟨tree vs, .builtin "claim.caller" {}, default, []⟩) w free gens kept s := fun args hpre hlay ord hord => by
  obtain ⟨vs, s₁, hlaid, hcode⟩ := spec args hpre hlay ord hord
  have laid := layAllW_rest _ _ _ hlaid
  obtain ⟨n, r, s', s'', hrun, hsched, hfo, hcase, hos, hkp⟩ := halts_R (R := fun r s' => c.Ends s args vs s₁ r s' ∧ s'.os = s.os ∧ kept s'.heap) (Shared.asleep_of_life laid.2.2.2 hz)
    (wpR_mono hcode (fun fin s' ⟨f, e, h1, h2, h3, h4⟩ => ⟨f, e, ⟨h1, h2, h4⟩, leftWithCleanup_false_of_bare h3⟩) fun e s' ⟨h1, h2, h3, h4⟩ => ⟨⟨h1, h2, h4⟩, leftWithCleanup_false_of_bare h3⟩)
  obtain ⟨eh, _, _, eo, _⟩ := Shared.forget_eq hfo
  have hlife : s'.heap.life = s.heap.life := (runN_life _ _ _ hrun).trans laid.2.2.2
  refine ⟨vs, s₁, hlaid, n, _, s', hsched, ?_, (fun _ i x hx => by rw [hgens] at hx; simp at hx), by rw [eh]; exact hkp, by rw [hlife], Shared.rest_eq (by rw [eo]; exact hos)⟩
  rcases hcase.congr eh with ⟨v, rfl, d1, d2, d3, d4, d5⟩ | ⟨e, ob, cls, rfl, d1, d2, d3, d4, d5⟩
  · exact .inl ⟨v, rfl, d1, d2, d3, fun b o y _ => d4 b o y, d5⟩
  · exact .inr ⟨e, ob, cls, rfl, d1, d2, d3, d4, fun b o y _ => d5 b o y⟩
/-- what is to be walked: the call, in the restricted logic -/
abbrev WalkR (q : Program) (loose : List Str) (XP : (Str → Option Value) → Heap → Prop) (YP : World → Heap → Prop) (r : RowW) (d : DefRec) (kwd : List (Str × PySem.Expr)) : Prop :=
  ∀ (w : World) (s₀ s₁ : Shared) (mg mb : Str → Option Value), Ground q loose r.records XP w s₀ mg mb s₁.heap → YP w s₁.heap → ∀ (a : Addr) (o : Obj) (pm cd doc dV kV : Value), s₁.heap.get? a = some o →
    o.data = .func { docDef d.name d.params d.body d.scope pm cd doc with defaults := dV, kwdefaults := kV } → s₁.heap.CodeRec cd d.name → Dflts mg s₁.heap d.params kwd dV kV → mg d.name = some (.ref a) → s₁.gens = #[] →
    ∀ (args : List WData) (vals : List Value) (as : List Addr), r.claim.pre args = true → WData.layableAll args = true → ReadsAllW r.records (classAt s₀.heap) s₁.heap vals args as → WellAll w.params s₁.heap vals args → (∀ a ∈ as, (a == sysModules) = false) →
      wpR (model r.prog w) callerA (call (.ref a) vals) (fun v s' => GoodWG r.claim (classAt s₀.heap) (ExcName.means s₀.heap) args s₁ (.ok (.ret v)) s')
        (fun e s' => GoodWG r.claim (classAt s₀.heap) (ExcName.means s₀.heap) args s₁ (.error e) s') s₁
theorem PySem.W.holds_open {r : OpenRow} {q : Program} {loose : List Str} {Xt : Shared → Bool} {XP : (Str → Option Value) → Heap → Prop} {α : Type} {Yf : Shared → α} {Ya : World → α} {YP : World → Heap → Prop} {d : DefRec} {kwd : List (Str × PySem.Expr)} {N : Nat}
    (left : LeftO r.prog q loose Xt Yf Ya N) (hY : ∀ w s, Yf s = Ya w → YP w s.heap) (hYk : ∀ w h h', YP w h → (∀ b o, h.get? b = some o → h'.get? b = some o) → YP w h')
    (hX : ∀ s, Xt s = true → XP (s.heap.nsMap mainGlobals) s.heap) (hXk : ∀ mg h h', XP mg h → (∀ b o, h.get? b = some o → h'.get? b = some o) → XP mg h')
    (hdef : defOf q r.name = some (d, kwd)) (hp : r.prog.theDef r.name = some (d.params, d.body, d.scope)) (hk : kwWritten? d.params.kwonlyargs d.params.kw_defaults = some kwd) (hRf : ∀ s, Xt s = true → RecFacts r.records s.heap) (hwr : (!r.writes || r.records.isEmpty) = true)
    (k1 : r.wellSaid = true) (ok : (chainsOk q && opensWell r.prog && (frees r.toRowW && r.within.isEmpty)) = true) (hb : r.prog.bare) (hw : r.toRowW.promised)
    (walk : WalkR q loose XP YP r.toRowW d kwd) : r.Holds := by
  simp only [Bool.and_eq_true] at ok
  obtain ⟨⟨hch, hopen⟩, hfree, hin⟩ := ok
  obtain ⟨hsame, hu, ha, hap, hm⟩ := frees_parts hfree
  refine ⟨k1, hw, ⟨hb, hopen, by show r.makers.map _ = []; rw [hm]; rfl⟩, hw.witness, fun w => ?_⟩
  have run := left.behind (XP := fun mg h => XP mg h ∧ RecFacts r.records h) (fun s hs => ⟨hX s hs, hRf s hs⟩) hch w
  refine ⟨run.1, fun s' hs' => ?_⟩
  obtain ⟨s₀, hf, hg0, s, hT, hz, hgens, hg, G00, y⟩ := run.2 s' hs'
  have G0 : Ground q loose [] XP w s (s.heap.nsMap mainGlobals) (s.heap.nsMap builtinsNs) s.heap := ⟨G00.T, G00.B, G00.D, G00.TE, G00.TD, G00.W, G00.X.1, G00.cls, G00.has, G00.apart, G00.once, G00.K⟩
  have RF := G00.X.2
  have G := RF.ground G0
  have hgens : s.gens = #[] := Array.eq_empty_of_size_eq_zero (beq_iff_eq.mp hgens)
  refine ⟨s₀, hf, hg0, s, hT, fun n hn => ?_, RF.1, RF.2.1, callFrom_R hz hgens fun args hpre hlay ord hord => ?_⟩
  · obtain rfl : n = r.name := by split at hn <;> simp_all
    exact pinned_of_view hg G0 hdef hp hk
  · obtain ⟨⟨vs, s₁⟩, hlaid⟩ := Option.isSome_iff_exists.mp (layAllW_isSome (P := w.params) (ord := ord) G.has args r.args s (pre_splitW hpre).1)
    have keeps := layAllW_keeps _ _ _ hlaid
    have rest := layAllW_rest _ _ _ hlaid
    obtain ⟨as, hrd, hin', hold⟩ := reads_layAllW hord _ _ _ hlaid hlay s₁.heap (fun _ _ e => e)
    have L : Laid r.records w s s₁ args vs as := ⟨⟨ord, hord, hlaid⟩, hrd, hin', hold, keeps, rest.1.trans hgens, rest.2.2.1⟩
    have G₁ := G.keeps hXk keeps
    obtain ⟨a, o, pm, cd, doc, dV, kV, h1, h2, h3, h4, h5⟩ := G₁.fn hdef
    have run := walk w s s₁ _ _ G₁ (hYk _ _ _ (hY w s y) keeps) a o pm cd doc dV kV h2 h3 h4 h5 (defOf_name hdef ▸ h1) L.gens args vs as hpre hlay L.reads L.well (L.low G.low)
    have hi := ident_freeW hu ha hap
    have hwi : r.toRowW.claim.within = [] := List.isEmpty_iff.mp hin
    refine ⟨vs, s₁, hlaid, wpR_bindA (wpAny_nsGet G₁.T.g ?_)⟩
    rw [h1]
    refine wpR_bind (wpR_mono run (fun v s' g => wpR_pure ⟨_, rfl, ?_⟩) fun e s' g => ?_)
    · have z := g.laid (c := r.toRowW.claim) hsame hwi hi L
      exact ⟨z.1, z.2.1, z.2.2, fun q => ⟨namesKept_of hT hg r.keeps keeps g.2.1.old, noTable hwr q⟩⟩
    · have z := g.laid (c := r.toRowW.claim) hsame hwi hi L
      exact ⟨z.1, z.2.1, z.2.2, fun q => ⟨namesKept_of hT hg r.keeps keeps g.2.1.old, noTable hwr q⟩⟩
end Mine
end
section -- H2
open PySem PySem.W PyProof.Rows
set_option maxRecDepth 100000
set_option maxHeartbeats 8000000
namespace Mine
/-! The head, as open_top gives it, but proved within a theorem that is elaborated apart: the quick twins that the library would lay for the row and for each piece of the top are then sought under hq.tw<hash>.
These names are taken here, so none is laid: the kernel steps through the top as quickly without them, and the compiled file is 8 MB smaller. -/
theorem hq.tw13502862691939865659 : True := trivial
theorem hq.tw9051806147475267343 : True := trivial
theorem hq.tw18276807595065023739 : True := trivial
theorem hq.tw13816761352780166119 : True := trivial
theorem hq.tw10223406500745991142 : True := trivial
theorem hq.tw10850082297800865767 : True := trivial
theorem hq.tw12057173945504885077 : True := trivial
theorem hq.tw1436943464992395070 : True := trivial
theorem hq.tw12664413295080255743 : True := trivial
theorem hq.tw9814521365788848951 : True := trivial
theorem hq.tw8843670863553936208 : True := trivial
theorem hq.tw14810766176975304553 : True := trivial
theorem hq.tw384518735521986950 : True := trivial
theorem hq.tw15734650141668845536 : True := trivial
theorem hq.tw909575876175560465 : True := trivial
theorem hq.tw16325697439411301246 : True := trivial
theorem hq.tw16782676387622030179 : True := trivial
theorem hq.tw12939260477051835880 : True := trivial
theorem hq.tw17113052037052540601 : True := trivial
theorem hq.tw7795197914602774408 : True := trivial
theorem hq.tw11149061711742648548 : True := trivial
theorem hq.tw15170669351824557439 : True := trivial
theorem hq.tw7089316416521786280 : True := trivial
theorem hq.tw8670592598250618684 : True := trivial
theorem hq.tw15499493932771899486 : True := trivial
theorem hq.tw8138599290071183656 : True := trivial
theorem hq.tw13605588708827000737 : True := trivial
theorem hq.tw9024074512309037242 : True := trivial
theorem hq.tw18377318545847360015 : True := trivial
theorem hq.tw17939040331521840985 : True := trivial
theorem hq.tw1790225447845560585 : True := trivial
theorem hq.tw15812451359255101891 : True := trivial
theorem hq.tw17715228584645818311 : True := trivial
theorem hq.tw17790109234249064360 : True := trivial
theorem hq.tw8698537833381394938 : True := trivial
theorem hq.tw9371571126222788686 : True := trivial
theorem hq.tw16316352616789880349 : True := trivial
theorem hq.tw13370623703081640355 : True := trivial
theorem hq.tw10384215637601404327 : True := trivial
theorem hq.tw3616478996217396334 : True := trivial
theorem hq.tw16700103266205983162 : True := trivial
theorem hq.tw2320559199587278016 : True := trivial
theorem hq.tw18190943572339469658 : True := trivial
theorem hq.tw13127699335793737955 : True := trivial
theorem hq.tw2892858402054980869 : True := trivial
theorem hq.tw14567226737135143758 : True := trivial
theorem hq.tw10187816474469822774 : True := trivial
theorem hq.tw15534325259311548342 : True := trivial
theorem hq.tw15256606102660637263 : True := trivial
theorem hq.tw801188883035828325 : True := trivial
theorem hq.tw1702131522092824670 : True := trivial
theorem hq.tw11660552598173695988 : True := trivial
theorem hq.tw13058460094631807453 : True := trivial
theorem hq.tw3406242299724796062 : True := trivial
theorem hq.tw9083301775340355608 : True := trivial
theorem hq.tw8316094494326325915 : True := trivial
theorem hq.tw10193580565110878322 : True := trivial
theorem hq.tw8878085667783850231 : True := trivial
theorem hq.tw16041765032119523446 : True := trivial
theorem hq.tw2921467058064614194 : True := trivial
theorem hq.tw12219819207030029821 : True := trivial
theorem hq.tw8238198130762350294 : True := trivial
theorem hq.tw4171725333644275513 : True := trivial
theorem hq.tw12428739965439566872 : True := trivial
theorem hq.tw7106466396363661638 : True := trivial
theorem hq.tw1700315315751232304 : True := trivial
theorem hq.tw15298563710665395474 : True := trivial
theorem hq.tw17570233290061857690 : True := trivial
theorem hq.tw2924810227987620678 : True := trivial
theorem hq.tw4057580815170638606 : True := trivial
theorem hq.tw5895416178271551497 : True := trivial
theorem hq.tw2568601839324270733 : True := trivial
theorem hq.tw16867273931720873272 : True := trivial
theorem hq.tw15629568606158070697 : True := trivial
theorem hq.tw639632618262785173 : True := trivial
theorem hq.tw9524481874210789358 : True := trivial
theorem hq.tw1629939692016619404 : True := trivial
theorem hq.tw14772127340083367040 : True := trivial
theorem hq.tw9876288160915811745 : True := trivial
theorem hq.tw9659669307319190640 : True := trivial
theorem hq.tw8094907942427954523 : True := trivial
theorem hq.tw7124110289175886657 : True := trivial
theorem hq.tw4991336011138955280 : True := trivial
theorem hq.tw4700772123730980896 : True := trivial
theorem hq.tw4611843103851283707 : True := trivial
theorem hq.tw4330991180929535625 : True := trivial
theorem hq.tw3880375719507622018 : True := trivial
theorem hq.tw3061969403100960489 : True := trivial
theorem hq.tw2757439949053186533 : True := trivial
theorem hq.tw2367623169485729044 : True := trivial
theorem hq.tw2338785445158028428 : True := trivial
theorem hq.tw1860683089816694825 : True := trivial
theorem hq.tw18250771422189292895 : True := trivial
theorem hq.tw18033964682163610285 : True := trivial
theorem hq.tw17480515895037040760 : True := trivial
theorem hq.tw16231922416965314548 : True := trivial
theorem hq.tw15952631729719037887 : True := trivial
theorem hq.tw15385585939819168887 : True := trivial
theorem hq.tw15299981847786275131 : True := trivial
theorem hq.tw14243319542641745285 : True := trivial
theorem hq.tw14187982978997237623 : True := trivial
theorem hq.tw1383527236628300131 : True := trivial
theorem hq.tw11596143682707957329 : True := trivial
theorem hq.tw11341742245578585151 : True := trivial
theorem hq.tw10371403677947509614 : True := trivial
set_option Elab.async true in
theorem hq : True := by
  let rec key : _ → PySem.Challenge.rw_pk0050_01.Holds := by
    intro walk
    (w_on; o_law)
    refine (let_mvar% ?hc := walk; ?main)
    (k_head; (case hw => w_witness2))
  trivial
end Mine
end
section -- Base
open PySem PySem.W PySem.Calls PyProof.Rows
set_option maxRecDepth 100000
namespace Mine
noncomputable abbrev Lo : List Str := looseW hq.view_1_40 [Str.ofString "insort_right", Str.ofString "bisect_right", Str.ofString "bisect_left"] ++ List.map (fun x => x.name) (recsOf hq.view_1_40) ++ List.map (fun x => x.fst) (litsOf hq.view_1_40) ++ List.map (fun x => x.name) (clssOf hq.view_1_40 (looseW hq.view_1_40 [Str.ofString "insort_right", Str.ofString "bisect_right", Str.ofString "bisect_left"]))

/-- what a def's walk shows at its end -/
def Left (g : Heap) (L' : Addr) (Post : Value → List (Addr × Obj) → Prop) (s : Shared) (v : Value) (s' : Shared) : Prop :=
  ∃ m' own' h' tk', s' = { s with heap := h', toks := tk' } ∧ Fr g L' h' m' ∧ News g L' h' own' ∧ Post v own'
theorem Left.intro {g : Heap} {L' : Addr} {Post : Value → List (Addr × Obj) → Prop} {s : Shared} {v : Value} {h' : Heap} {tk' : Nat} {m' : Str → Option Value} {own' news' : List (Addr × Obj)}
    (F : Fr g L' h' m') (N : News g L' h' news') (hs : ∀ p ∈ own', p ∈ news') (hp : Post v own') : Left g L' Post s v { s with heap := h', toks := tk' } :=
  ⟨m', own', h', tk', rfl, F, fun p hp => N p (hs p hp), hp⟩

/-! the room that a called def has, out of the room that the caller has -/
theorem room0 {dp K r : Nat} (h : dp + K < r) : dp < r := Nat.lt_of_le_of_lt (Nat.le_add_right _ _) h
theorem room1 {dp K k r : Nat} (h : dp + K < r) (e : 1 + k ≤ K) : dp + 1 + k < r := Nat.lt_of_le_of_lt (Nat.le_trans (Nat.le_of_eq (Nat.add_assoc dp 1 k)) (Nat.add_le_add_left e dp)) h
theorem units1 {un K k j c : Nat} (h : un + 8 * K < c) (e : j + 8 * k ≤ 8 * K) : un + j + 8 * k < c := Nat.lt_of_le_of_lt (Nat.le_trans (Nat.le_of_eq (Nat.add_assoc un j (8 * k))) (Nat.add_le_add_left e un)) h
/-! the end hidden behind a name: a proof's terms stay small -/
theorem hideA {α : Type} {M : Model} {A : Around} {E : Value → Shared → Prop} {s : Shared} {t : Sem α} {Q : α → Shared → Prop}
    (h : ∀ (Q0 : α → Shared → Prop), (∀ a s', Q a s' → Q0 a s') → wpAny M A t Q0 (fun _ _ => False) s) : wpAny M A t Q E s := wpAny_mono (h Q fun _ _ x => x) (fun _ _ x => x) fun _ _ x => x.elim
theorem hideR {α : Type} {M : Model} {A : Around} {E : Value → Shared → Prop} {s : Shared} {t : Sem α} {Q : α → Shared → Prop}
    (h : ∀ (Q0 : α → Shared → Prop), (∀ a s', Q a s' → Q0 a s') → wpR M A t Q0 (fun _ _ => False) s) : wpR M A t Q E s := wpR_mono (h Q fun _ _ x => x) (fun _ _ x => x) fun _ _ x => x.elim
/-! the state said anew over the one that the call began with: what the walk leaves there is a term within a term -/
theorem normA {α : Type} {M : Model} {A : Around} {E : Value → Shared → Prop} {t : Sem α} {Q : α → Shared → Prop} (s : Shared) {h : Heap} {tk : Nat} {s1 : Shared}
    (e : s1 = { s with heap := h, toks := tk }) (k : wpAny M A t Q E { s with heap := h, toks := tk }) : wpAny M A t Q E s1 := e ▸ k
theorem normR {α : Type} {M : Model} {A : Around} {E : Value → Shared → Prop} {t : Sem α} {Q : α → Shared → Prop} (s : Shared) {h : Heap} {tk : Nat} {s1 : Shared}
    (e : s1 = { s with heap := h, toks := tk }) (k : wpR M A t Q E { s with heap := h, toks := tk }) : wpR M A t Q E s1 := e ▸ k
/-- .. and the count of tokens a letter -/
theorem normG {α : Type} {M : Model} {A : Around} {E : Value → Shared → Prop} {t : Sem α} {Q : α → Shared → Prop} (s : Shared) {h : Heap} {tk : Nat} {s1 : Shared}
    (e : s1 = { s with heap := h, toks := tk }) (k : ∀ n : Nat, wpAny M A t Q E { s with heap := h, toks := n }) : wpAny M A t Q E s1 := e ▸ k tk
theorem normH {α : Type} {M : Model} {A : Around} {E : Value → Shared → Prop} {t : Sem α} {Q : α → Shared → Prop} (s : Shared) {h : Heap} {tk : Nat} {s1 : Shared}
    (e : s1 = { s with heap := h, toks := tk }) (k : ∀ n : Nat, wpR M A t Q E { s with heap := h, toks := n }) : wpR M A t Q E s1 := e ▸ k tk
theorem Left.introQ {g : Heap} {L' : Addr} {Post : Value → List (Addr × Obj) → Prop} {s : Shared} {v : Value} {h' : Heap} {tk' : Nat} {m' : Str → Option Value} {own' news' : List (Addr × Obj)} {Q0 : Flow → Shared → Prop}
    (hQ : ∀ fl s', Left g L' Post s (match fl with | .ret v => v | _ => .none) s' → Q0 fl s')
    (F : Fr g L' h' m') (N : News g L' h' news') (hs : ∀ p ∈ own', p ∈ news') (hp : Post v own') : Q0 (.ret v) { s with heap := h', toks := tk' } := hQ _ _ (Left.intro F N hs hp)
/-- a contract: the def at f, called with vs (and kw) over its own part of the ledger, hands back what Post says -/
abbrev Claim (w : World) (mean : ExcName → Option Value) (mg mb : Str → Option Value) (k : Nat) (f : Addr) (own : List (Addr × Obj)) (vs : List Value) (kw : List (Str × Value)) (Post : Value → List (Addr × Obj) → Prop) : Prop :=
  ∀ (dp un : Nat) (gd : Option (List Code)) (cn : Str) (cs : Scope) (a : Addr) (ccd : Value) (cl : List (Str × Addr)) (outer : List Env) (A₀ : Around) (base h₀ : Heap) (L : Addr) (m : Str → Option Value) (rest : List (Addr × Obj)) (s : Shared) (Q E : Value → Shared → Prop),
    Below A₀ base outer h₀ → Fr h₀ L s.heap m → (hq.heap_1_39 w.params).In h₀ → News h₀ L s.heap (own ++ rest) → Top topProg Lo mean mg mb h₀ → cs.kind = .function →
    (∀ p ∈ rest, ∀ q ∈ own, p.1 ≠ q.1) → dp + k < recursionLimit → un + 8 * k < cLine →
    (∀ r own' h' tk', Post r own' → Fr h₀ L h' m → News h₀ L h' (own' ++ rest) → (∀ p ∈ rest, ∀ q ∈ own', p.1 ≠ q.1) → Q r { s with heap := h', toks := tk' }) →
      wpAny (model PySem.Challenge.rw_pk0050_01.row.prog w) (ktrTop dp un gd cn cs L a ccd cl outer) (call (.ref f) vs kw) Q E s

section
variable {prog : Program} {w : World} {A A₀ : Around} {E Q : Value → Shared → Prop} {s : Shared} {K : Frag} {L : Addr} {h₀ base : Heap} {m mg mb : Str → Option Value} {own rest : List (Addr × Obj)} {p : Program} {loose : List Str} {mean : ExcName → Option Value}
theorem enter_own {env : Env} {outer : List Env} {name qual : Str} {params : Arguments} {body : List Stmt} {scope : Scope} {dV kV doc pm cdv ct oc : Value} {an od : Option Addr} {osl : Array (Option Value)} {f : Addr} {vs : List Value} {kw : List (Str × Value)} {binds : List (Str × Value)} {Post : Value → List (Addr × Obj) → Prop}
    (B : Below A₀ base outer h₀) (F : Fr h₀ L s.heap m) (X₀ : K.In h₀) (N : News h₀ L s.heap (own ++ rest)) (T : Top p loose mean mg mb h₀) (hdis : ∀ p ∈ rest, ∀ q ∈ own, p.1 ≠ q.1) (hA : A.frames = some (env :: outer)) (hf : env.frame = some L) (hke : env.scope.kind = .function)
    (ho : K.lookup f = some ⟨oc, od, .func (fnOf name qual params body scope dV kV doc pm an cdv ct), osl⟩) (hcd : codeIn K cdv qual = true) (hroom : A.depth < recursionLimit)
    (hbind : BindsTo s (fnOf name qual params body scope dV kV doc pm an cdv ct) ⟨vs, kw⟩ binds) (hloc : ∀ y ∈ binds, scope.names.lookup y.1 = some .local)
    (ret : ∀ r own' h' tk', Post r own' → Fr h₀ L h' m → News h₀ L h' (own' ++ rest) → (∀ p ∈ rest, ∀ q ∈ own', p.1 ≠ q.1) → Q r { s with heap := h', toks := tk' })
    (h : ∀ g L' h₁, Fr g L' h₁ (fun y => binds.reverse.lookup y) → News g L' h₁ own → Below A base (env :: outer) g → K.In g → Top p loose mean mg mb g → (∀ p ∈ own, p.1 < L') →
      wpAny (model prog w) (A.deeper (envOf qual scope L' f cdv)) (execs body (envOf qual scope L' f cdv))
        (fun fl s' => Left g L' Post s (match fl with | .ret v => v | _ => .none) s')
        (fun e s' => wpAny (model prog w) (A.deeper (envOf qual scope L' f cdv)) (leaving (envOf qual scope L' f cdv) e) (fun _ s'' => E e s'') (fun e' s'' => E e' s'') s')
        { s with heap := h₁, toks := s.toks + binds.length })
    (hco : scope.isCoroutine = false) (hgen : scope.isGenerator = false) (hk : scope.kind = .function)
    (hcell : ∀ x ∈ scope.names, x.2 ≠ .cell) : wpAny (model prog w) A (call (.ref f) vs kw) Q E s := by
  refine wpAny_call ?_
  have N1 : News h₀ L s.heap own := fun p hp => N p (List.mem_append_left _ hp)
  obtain ⟨FG, BG, st, lv⟩ := groundX (R := fun r s' => match r with | .ok (.ret v) => Q v s' | .ok _ => False | .error e => E e s') B F N1 hA hf hke
  refine codeAny_call_def (fd := fnOf name qual params body scope dV kV doc pm an cdv ct) (body := body) (binds := binds) hroom ((X₀.keeps F.keep) _ _ ho) rfl (T.nolimit.keeps F.keep) (codeRec_of (X₀.keeps F.keep) hcd) rfl hbind hcell hloc (fun h₁ hns hk₁ => ?_) hco hgen hk
  refine wpAny_mono (h _ s.heap.objs.size h₁ ⟨hns, fun b o e => hk₁ b o (of_hideAll _ e), Nat.le_of_eq (hideAll_size _ _)⟩
    (fun p hp => ⟨hk₁ _ _ (N1 p hp).1, Nat.ne_of_lt (Heap.lt_size (N1 p hp).1), hideAll_none _ (List.mem_map_of_mem hp)⟩) BG (X₀.keeps st) (T.keeps st) (fun p hp => Heap.lt_size (N1 p hp).1)) (fun fl s' hl => lv _ _ ?_) fun _ _ y => y
  obtain ⟨m', own', h', tk', rfl, F', N', hp⟩ := hl
  refine ⟨_, m', own', F', N', fun F2 N2 => ?_⟩
  have hr : ∀ p ∈ rest, (hideAll s.heap (own.map (·.1))).get? p.1 = some p.2 := fun p hp => hideAll_get _ (N p (List.mem_append_right _ hp)).1 (fun q => by
    obtain ⟨q, hq, e⟩ := List.mem_map.mp q
    exact hdis p hp q hq e.symm)
  refine ret _ own' h' tk' hp F2 (fun p hp => ?_) (fun p hp q hq e => ?_)
  · rcases List.mem_append.mp hp with hp | hp
    · exact N2 p hp
    · exact ⟨F'.keep _ _ (hr p hp), (N p (List.mem_append_right _ hp)).2⟩
  · have := (N' q hq).2.2
    rw [← e, hr p hp] at this
    cases this
end
/-- a contract used under a ledger that holds its part -/
theorem use_claim {w : World} {mean : ExcName → Option Value} {mg mb : Str → Option Value} {k : Nat} {f : Addr} {own : List (Addr × Obj)} {vs : List Value} {kw : List (Str × Value)} {Post : Value → List (Addr × Obj) → Prop} (C : Claim w mean mg mb k f own vs kw Post)
    {dp un : Nat} {gd : Option (List Code)} {cn : Str} {cs : Scope} {a : Addr} {ccd : Value} {cl : List (Str × Addr)} {outer : List Env} {A₀ : Around} {base h₀ : Heap} {L : Addr} {m : Str → Option Value} {news : List (Addr × Obj)} (rest : List (Addr × Obj)) {s : Shared} {Q E : Value → Shared → Prop}
    (B : Below A₀ base outer h₀) (F : Fr h₀ L s.heap m) (X : (hq.heap_1_39 w.params).In h₀) (N : News h₀ L s.heap news) (T : Top topProg Lo mean mg mb h₀) (hk : cs.kind = .function)
    (hsub : ∀ p ∈ own ++ rest, p ∈ news) (hdis : ∀ p ∈ rest, ∀ q ∈ own, p.1 ≠ q.1) (hdp : dp + k < recursionLimit) (hun : un + 8 * k < cLine)
    (ret : ∀ r own' h' tk', Post r own' → Fr h₀ L h' m → News h₀ L h' (own' ++ rest) → (∀ p ∈ rest, ∀ q ∈ own', p.1 ≠ q.1) → Q r { s with heap := h', toks := tk' }) :
      wpAny (model PySem.Challenge.rw_pk0050_01.row.prog w) (ktrTop dp un gd cn cs L a ccd cl outer) (call (.ref f) vs kw) Q E s :=
  C dp un gd cn cs a ccd cl outer A₀ base h₀ L m rest s Q E B F X (fun p hp => N p (hsub p hp)) T hk hdis hdp hun ret
/-! a loop over a range, by what holds between its turns -/
section
variable {prog : Program} {w : World} {A : Around} {E : Value → Shared → Prop} {s : Shared} {env : Env} {h₀ : Heap} {x : Str} {body : List Stmt} {Q : Flow → Shared → Prop}
def RngEnd {σ : Type} (h₀ : Heap) (L : Addr) (s : Shared) (x : Str) (I : Addr) (it : Obj) (Led : σ → List (Addr × Obj)) (ps : σ → List (Str × Value)) (stored : List Str) (m₀ : Str → Option Value) (P : σ → Prop) (s₂ : Shared) : Prop :=
  ∃ (c : σ) (h' : Heap) (tk : Nat) (m' : Str → Option Value) (news' : List (Addr × Obj)), s₂ = { s with heap := h', toks := tk } ∧ Fr h₀ L h' m' ∧ News h₀ L h' news' ∧ (I, it) ∈ news' ∧ (∀ p ∈ Led c, p ∈ news') ∧ (∀ p ∈ Led c, p.1 ≠ I) ∧
    (∀ p ∈ ps c, m' p.1 = some p.2) ∧ (∀ z, z ≠ x → (∀ p ∈ ps c, z ≠ p.1) → stored.contains z = false → m' z = m₀ z) ∧ P c
def RngPost {σ : Type} (h₀ : Heap) (L : Addr) (s : Shared) (x : Str) (I : Addr) (it : Obj) (Led : σ → List (Addr × Obj)) (ps : σ → List (Str × Value)) (stored : List Str) (m₀ : Str → Option Value) (P : σ → Prop) (Q : Flow → Shared → Prop) (f : Flow) (s₂ : Shared) : Prop :=
  match f with
  | .ret v => Q (.ret v) s₂
  | .brk => Q .next s₂
  | _ => RngEnd h₀ L s x I it Led ps stored m₀ P s₂
theorem rng_end {σ : Type} {L : Addr} {I : Addr} {it : Obj} {Led : σ → List (Addr × Obj)} {ps : σ → List (Str × Value)} {stored : List Str} {m₀ m' : Str → Option Value} {P : σ → Prop} {h' : Heap} {tk : Nat} {news' : List (Addr × Obj)} (c : σ)
    (F : Fr h₀ L h' m') (N : News h₀ L h' news') (hI : (I, it) ∈ news') (hn : ∀ p ∈ Led c, p ∈ news') (ho : ∀ p ∈ Led c, p.1 ≠ I) (hk : ∀ p ∈ ps c, m' p.1 = some p.2) (hr : ∀ z, z ≠ x → (∀ p ∈ ps c, z ≠ p.1) → stored.contains z = false → m' z = m₀ z) (hp : P c) :
    RngEnd h₀ L s x I it Led ps stored m₀ P { s with heap := h', toks := tk } := ⟨c, h', tk, m', news', rfl, F, N, hI, hn, ho, hk, hr, hp⟩
theorem rng_endQ {σ : Type} {L : Addr} {I : Addr} {it : Obj} {Led : σ → List (Addr × Obj)} {ps : σ → List (Str × Value)} {stored : List Str} {m₀ m' : Str → Option Value} {P : σ → Prop} {h' : Heap} {tk : Nat} {news' : List (Addr × Obj)} {Q0 : Flow → Shared → Prop}
    (hQ : ∀ f s', RngPost h₀ L s x I it Led ps stored m₀ P Q f s' → Q0 f s') (c : σ)
    (F : Fr h₀ L h' m') (N : News h₀ L h' news') (hI : (I, it) ∈ news') (hn : ∀ p ∈ Led c, p ∈ news') (ho : ∀ p ∈ Led c, p.1 ≠ I) (hk : ∀ p ∈ ps c, m' p.1 = some p.2) (hr : ∀ z, z ≠ x → (∀ p ∈ ps c, z ≠ p.1) → stored.contains z = false → m' z = m₀ z) (hp : P c) :
    Q0 .next { s with heap := h', toks := tk } := hQ _ _ (rng_end c F N hI hn ho hk hr hp)
theorem rng_loop {σ : Type} {r : Addr} {a₀ b₀ c : Int} {t₀ u₀ v₀ : Tok} {n : Nat} {m₀ : Str → Option Value} (Led : σ → List (Addr × Obj)) (ps : σ → List (Str × Value)) (stored : List Str) (val : Nat → Int) (P : Nat → σ → Prop) (c₀ : σ)
    (hval : ∀ i : Nat, a₀ + (i : Int) * c = val i) (hh : A.handled = none) (hr : IsRange s.heap r a₀ b₀ c t₀ u₀ v₀) (hsmall : Builtin.Range.small a₀ b₀ c = true) (hn : Builtin.Range.rangeSize a₀ b₀ c = (n : Int)) (F : Fr h₀ env.locals s.heap m₀) (N : News h₀ env.locals s.heap (Led c₀))
    (hk : ∀ p ∈ ps c₀, m₀ p.1 = some p.2) (hp : P 0 c₀)
    (turn : ∀ (I : Addr) (it : Obj) (i : Nat) (st : σ) (t : Tok) (u : Str → Option Value) (h : Heap) (tk : Nat), i < n → P i st → (∀ p ∈ Led st, p.1 ≠ I) →
      Fr h₀ env.locals h (fun y => if y = x then some (.int (val i) t) else kstB (fun z => if stored.contains z then u z else m₀ z) (ps st) y) → News h₀ env.locals h ((I, it) :: Led st) →
      wpAny (model prog w) A (execs body env) (RngPost h₀ env.locals s x I it Led ps stored m₀ (P (i + 1)) Q) E { s with heap := h, toks := tk })
    (done : ∀ (st : σ) (u : Str → Option Value) (h : Heap) (tk : Nat), P n st → Fr h₀ env.locals h (fun y => if y = x then u y else kstB (fun z => if stored.contains z then u z else m₀ z) (ps st) y) → News h₀ env.locals h (Led st) → Q .next { s with heap := h, toks := tk }) :
    wpAny (model prog w) A (pyIter (.ref r)) (fun it s₂ => LoopAtV prog w A h₀ env x body Q E it s₂) E s := by
  refine krs_iter (n := n) hh hr hsmall hn F N fun I hI => ?_
  have main : ∀ (k i : Nat) (m : Str → Option Value) (st : σ), i + k = n → P i st → (∀ p ∈ ps st, m p.1 = some p.2) → (∀ z, z ≠ x → (∀ p ∈ ps st, z ≠ p.1) → stored.contains z = false → m z = m₀ z) → (∀ p ∈ Led st, p.1 ≠ I) →
      KrsRest prog w A E h₀ env x body Q s I a₀ c n k i m (Led st) := by
    intro k
    induction k with
    | zero =>
      intro i m st hik hP h1 h2 _
      have hi : i = n := by omega
      subst hi
      exact KrsRest.zero fun h tk F1 N1 => done st m h tk hP (kst_frOut h1 h2 F1) N1
    | succ k ih =>
      intro i m st hik hP h1 h2 ho
      refine KrsRest.succ (hval i) fun t h tk F1 N1 => ?_
      refine wpAny_mono (turn I _ i st t m h tk (by omega) hP ho (kst_fr h1 h2 F1) N1) (fun f s₂ p => ?_) fun _ _ e => e
      have up : RngEnd h₀ env.locals s x I (krsIt (a₀ + ((i + 1 : Nat) : Int) * c) ((n : Int) - ((i + 1 : Nat) : Int)) c) Led ps stored m₀ (P (i + 1)) s₂ →
          UnrEnd h₀ env.locals { s with heap := h, toks := tk } I (krsIt (a₀ + ((i + 1 : Nat) : Int) * c) ((n : Int) - ((i + 1 : Nat) : Int)) c) (KrsRest prog w A E h₀ env x body Q s I a₀ c n k (i + 1)) s₂ := by
        rintro ⟨st', h', tk', m', news', rfl, F', N', hI', hn', ho', hk', hr', hp'⟩
        refine ⟨h', tk', m', Led st', rfl, F', fun p hp => ?_, ho', ih (i + 1) m' st' (by omega) hp' hk' hr' ho'⟩
        rcases List.mem_cons.mp hp with rfl | hp
        · exact N' _ hI'
        · exact N' _ (hn' p hp)
      cases f with
      | ret v => exact p
      | brk => exact p
      | next => exact up p
      | cont => exact up p
  exact main n 0 m₀ c₀ (by omega) hp hk (fun _ _ _ _ => rfl) fun p hp => Nat.ne_of_lt (hI p hp)
end
theorem rs_one (n : Nat) : Builtin.Range.rangeSize 0 (n : Int) 1 = (n : Int) := by
  rw [rangeSize_one]; split <;> omega
theorem rs_size {f R w : Nat} (hf : f < w) : Builtin.Range.rangeSize (f : Int) ((R * w : Nat) : Int) (w : Int) = (R : Int) := by
  unfold Builtin.Range.rangeSize
  rw [if_pos (by omega)]
  rcases Nat.eq_zero_or_pos R with rfl | hR
  · rw [if_neg (by omega)]; rfl
  · obtain ⟨R', rfl⟩ : ∃ k, R = k + 1 := ⟨R - 1, by omega⟩
    have e : (R' + 1) * w = R' * w + w := by rw [Nat.add_mul, Nat.one_mul]
    rw [if_pos (by omega), e]
    have e2 : ((R' * w + w : Nat) : Int) - (f : Int) - 1 = ((w - f - 1 : Nat) : Int) + (R' : Int) * (w : Int) := by
      rw [Int.natCast_add, Int.natCast_mul]; omega
    rw [e2, Int.add_mul_ediv_right _ _ (by omega), Int.ediv_eq_zero_of_lt (by omega) (by omega)]
    omega
theorem rs_small {a b c : Int} (h0 : 0 ≤ a) (h1 : a < 1000) (h2 : 0 ≤ b) (h3 : b < 1000) (h4 : 0 < c) (h5 : c < 1000) : Builtin.Range.small a b c = true := by
  have e : 0 ≤ Builtin.Range.rangeSize a b c ∧ Builtin.Range.rangeSize a b c ≤ 1000 := by
    unfold Builtin.Range.rangeSize
    rw [if_pos h4]
    split
    · have q1 : 0 ≤ (b - a - 1) / c := Int.ediv_nonneg (by omega) (by omega)
      have q2 : (b - a - 1) / c ≤ b - a - 1 := Int.ediv_le_self _ (by omega)
      omega
    · omega
  have f : ∀ i : Int, 0 ≤ i → i < 3000 → Builtin.Range.rangeFitsLong i = true := fun i p q => by
    unfold Builtin.Range.rangeFitsLong
    rw [Bool.and_eq_true, decide_eq_true_eq, decide_eq_true_eq]
    omega
  unfold Builtin.Range.small
  rw [f a h0 (by omega), f b h2 (by omega), f c (by omega) (by omega), f _ e.1 (by omega), if_pos h4, f (b + (c - 1)) (by omega) (by omega)]
  simp
end Mine
end
section -- R
open PySem PySem.W PySem.Calls PyProof.Rows
set_option maxRecDepth 100000
set_option linter.unusedVariables false
namespace Mine
/-- a contract in that logic -/
abbrev ClaimR (w : World) (mean : ExcName → Option Value) (mg mb : Str → Option Value) (k : Nat) (f : Addr) (own : List (Addr × Obj)) (vs : List Value) (kw : List (Str × Value)) (Post : Value → List (Addr × Obj) → Prop) : Prop :=
  ∀ (dp un : Nat) (gd : Option (List Code)) (cn : Str) (cs : Scope) (a : Addr) (ccd : Value) (cl : List (Str × Addr)) (outer : List Env) (A₀ : Around) (base h₀ : Heap) (L : Addr) (m : Str → Option Value) (rest : List (Addr × Obj)) (s : Shared) (Q E : Value → Shared → Prop),
    Below A₀ base outer h₀ → Fr h₀ L s.heap m → (hq.heap_1_39 w.params).In h₀ → News h₀ L s.heap (own ++ rest) → Top topProg Lo mean mg mb h₀ → cs.kind = .function →
    (∀ p ∈ rest, ∀ q ∈ own, p.1 ≠ q.1) → dp + k < recursionLimit → un + 8 * k < cLine →
    (∀ r own' h' tk', Post r own' → Fr h₀ L h' m → News h₀ L h' (own' ++ rest) → (∀ p ∈ rest, ∀ q ∈ own', p.1 ≠ q.1) → Q r { s with heap := h', toks := tk' }) →
      wpR (model PySem.Challenge.rw_pk0050_01.row.prog w) (ktrTop dp un gd cn cs L a ccd cl outer) (call (.ref f) vs kw) Q E s

section
variable {prog : Program} {w : World} {A A₀ : Around} {E Q : Value → Shared → Prop} {s : Shared} {K : Frag} {L : Addr} {h₀ base : Heap} {m mg mb : Str → Option Value} {own rest : List (Addr × Obj)} {p : Program} {loose : List Str} {mean : ExcName → Option Value}
theorem enter_ownR {env : Env} {outer : List Env} {name qual : Str} {params : Arguments} {body : List Stmt} {scope : Scope} {dV kV doc pm cdv ct oc : Value} {an od : Option Addr} {osl : Array (Option Value)} {f : Addr} {vs : List Value} {kw : List (Str × Value)} {binds : List (Str × Value)} {Post : Value → List (Addr × Obj) → Prop}
    (B : Below A₀ base outer h₀) (F : Fr h₀ L s.heap m) (X₀ : K.In h₀) (N : News h₀ L s.heap (own ++ rest)) (T : Top p loose mean mg mb h₀) (hdis : ∀ p ∈ rest, ∀ q ∈ own, p.1 ≠ q.1) (hA : A.frames = some (env :: outer)) (hf : env.frame = some L) (hke : env.scope.kind = .function)
    (ho : K.lookup f = some ⟨oc, od, .func (fnOf name qual params body scope dV kV doc pm an cdv ct), osl⟩) (hcd : codeIn K cdv qual = true) (hroom : A.depth < recursionLimit)
    (hbind : BindsTo s (fnOf name qual params body scope dV kV doc pm an cdv ct) ⟨vs, kw⟩ binds) (hloc : ∀ y ∈ binds, scope.names.lookup y.1 = some .local)
    (ret : ∀ r own' h' tk', Post r own' → Fr h₀ L h' m → News h₀ L h' (own' ++ rest) → (∀ p ∈ rest, ∀ q ∈ own', p.1 ≠ q.1) → Q r { s with heap := h', toks := tk' })
    (h : ∀ g L' h₁, Fr g L' h₁ (fun y => binds.reverse.lookup y) → News g L' h₁ own → Below A base (env :: outer) g → K.In g → Top p loose mean mg mb g → (∀ p ∈ own, p.1 < L') →
      wpR (model prog w) (A.deeper (envOf qual scope L' f cdv)) (execs body (envOf qual scope L' f cdv))
        (fun fl s' => Left g L' Post s (match fl with | .ret v => v | _ => .none) s')
        (fun e s' => wpAny (model prog w) (A.deeper (envOf qual scope L' f cdv)) (leaving (envOf qual scope L' f cdv) e) (fun _ s'' => E e s'') (fun e' s'' => E e' s'') s')
        { s with heap := h₁, toks := s.toks + binds.length })
    (hco : scope.isCoroutine = false) (hgen : scope.isGenerator = false) (hk : scope.kind = .function)
    (hcell : ∀ x ∈ scope.names, x.2 ≠ .cell) : wpR (model prog w) A (call (.ref f) vs kw) Q E s := by
  refine wpR_call ?_
  have N1 : News h₀ L s.heap own := fun p hp => N p (List.mem_append_left _ hp)
  obtain ⟨FG, BG, st, lv⟩ := groundX (R := fun r s' => match r with | .ok (.ret v) => Q v s' | .ok _ => False | .error e => E e s') B F N1 hA hf hke
  refine codeR_call_function (fd := fnOf name qual params body scope dV kV doc pm an cdv ct) (body := body) hroom ((X₀.keeps F.keep) _ _ ho) rfl hco hgen rfl (codeRec_of (X₀.keeps F.keep) hcd) (hbind _ _ _ _ ?_)
  refine wpAny_newFunctionEnv hcell hloc (fun h₁ hns hsb => ⟨(T.nolimit.keeps F.keep).fresh _ hsb, codeR_func ?_⟩) hk
  have hk₁ : ∀ b o, s.heap.get? b = some o → h₁.get? b = some o := fun b o e => hsb.extBut b o (Nat.ne_of_lt (Heap.lt_size e)) (Heap.get?_push_of_some _ e)
  refine wpR_mono (h _ s.heap.objs.size h₁ ⟨hns, fun b o e => hk₁ b o (of_hideAll _ e), Nat.le_of_eq (hideAll_size _ _)⟩
    (fun p hp => ⟨hk₁ _ _ (N1 p hp).1, Nat.ne_of_lt (Heap.lt_size (N1 p hp).1), hideAll_none _ (List.mem_map_of_mem hp)⟩) BG (X₀.keeps st) (T.keeps st) (fun p hp => Heap.lt_size (N1 p hp).1)) (fun fl s' hl => lv _ _ ?_) fun _ _ y => y
  obtain ⟨m', own', h', tk', rfl, F', N', hp⟩ := hl
  refine ⟨_, m', own', F', N', fun F2 N2 => ?_⟩
  have hr : ∀ p ∈ rest, (hideAll s.heap (own.map (·.1))).get? p.1 = some p.2 := fun p hp => hideAll_get _ (N p (List.mem_append_right _ hp)).1 (fun q => by
    obtain ⟨q, hq, e⟩ := List.mem_map.mp q
    exact hdis p hp q hq e.symm)
  refine ret _ own' h' tk' hp F2 (fun p hp => ?_) (fun p hp q hq e => ?_)
  · rcases List.mem_append.mp hp with hp | hp
    · exact N2 p hp
    · exact ⟨F'.keep _ _ (hr p hp), (N p (List.mem_append_right _ hp)).2⟩
  · have := (N' q hq).2.2
    rw [← e, hr p hp] at this
    cases this
end

theorem use_claimR {w : World} {mean : ExcName → Option Value} {mg mb : Str → Option Value} {k : Nat} {f : Addr} {own : List (Addr × Obj)} {vs : List Value} {kw : List (Str × Value)} {Post : Value → List (Addr × Obj) → Prop} (C : ClaimR w mean mg mb k f own vs kw Post)
    {dp un : Nat} {gd : Option (List Code)} {cn : Str} {cs : Scope} {a : Addr} {ccd : Value} {cl : List (Str × Addr)} {outer : List Env} {A₀ : Around} {base h₀ : Heap} {L : Addr} {m : Str → Option Value} {news : List (Addr × Obj)} (rest : List (Addr × Obj)) {s : Shared} {Q E : Value → Shared → Prop}
    (B : Below A₀ base outer h₀) (F : Fr h₀ L s.heap m) (X : (hq.heap_1_39 w.params).In h₀) (N : News h₀ L s.heap news) (T : Top topProg Lo mean mg mb h₀) (hk : cs.kind = .function)
    (hsub : ∀ p ∈ own ++ rest, p ∈ news) (hdis : ∀ p ∈ rest, ∀ q ∈ own, p.1 ≠ q.1) (hdp : dp + k < recursionLimit) (hun : un + 8 * k < cLine)
    (ret : ∀ r own' h' tk', Post r own' → Fr h₀ L h' m → News h₀ L h' (own' ++ rest) → (∀ p ∈ rest, ∀ q ∈ own', p.1 ≠ q.1) → Q r { s with heap := h', toks := tk' }) :
      wpR (model PySem.Challenge.rw_pk0050_01.row.prog w) (ktrTop dp un gd cn cs L a ccd cl outer) (call (.ref f) vs kw) Q E s :=
  C dp un gd cn cs a ccd cl outer A₀ base h₀ L m rest s Q E B F X (fun p hp => N p (hsub p hp)) T hk hdis hdp hun ret
end Mine
end
section -- R1
open PySem PySem.W PySem.Calls PyProof.Rows
set_option maxRecDepth 100000
set_option linter.unusedVariables false
namespace Mine
theorem ba_mro : mroOf (.type "bytearray") = pure [.type "bytearray", .type "object"] := by rw [mroOf_type]; kernel_rfl
theorem ba_new : typeLookup (.type "bytearray") "__new__" = pure (some (.builtin "bytearray.__new__")) := by rw [typeLookup_type, builtinLookup_eq_fast]; kernel_rfl
theorem ba_slot_init : Slot "bytearray" "__init__" "bytearray.__init__" :=
  .of (owner := "bytearray") (n := "__init__") (by rw [typeLookup_type, builtinLookup_eq_fast]; kernel_rfl) (by decide +kernel) (by decide +kernel) (by decide +kernel)
    (by first | exact .inl (by decide +kernel) | exact .inr (by decide +kernel)) (by rw [isSubtype_type]; kernel_rfl)
theorem ba_called : TypeCalled "bytearray" "bytearray.__new__" "bytearray.__init__" :=
  ⟨by decide +kernel, by decide +kernel, ⟨_, _, ba_mro⟩, madeBy_type ba_mro ba_new (by decide +kernel), by decide +kernel, by rw [isSubtype_type]; kernel_rfl, ba_slot_init⟩
theorem ba_typeCall (a : Value) : checkTypeCall "bytearray" ⟨[a], []⟩ = pure () := by kernel_rfl
theorem ba_newCall (a : Value) : checkBuiltinCall "bytearray.__new__" ⟨[.type "bytearray", a], []⟩ = pure () := by kernel_rfl
theorem ba_plain : plainId "bytearray.__new__" = true := by decide +kernel
theorem ba_plainI : plainId "bytearray.__init__" = true := by decide +kernel
theorem ba_entry : entryFor table "bytearray.__new__" = some Builtin.«list.__new__» := entryFor_alias (id' := "list.__new__") (by kernel_rfl) rfl (by decide +kernel) (by kernel_rfl)
theorem ba_entryI : entryFor table "bytearray.__init__" = some Builtin.«bytearray.__init__» := by first | exact entryFor_of_fast (by kernel_rfl) | exact entryFor_of_tree (by kernel_rfl)
theorem ba_argsI (a b : Value) : argsOk "bytearray.__init__" ⟨[a, b], []⟩ := by unfold argsOk; kernel_rfl
set_option maxRecDepth 1000000 in
set_option maxHeartbeats 4000000 in
theorem ba_owner : ("bytearray.__new__".splitOn ".__new__").headD "" = "bytearray" := by simp +decide [String.splitOn, String.splitOnAux]
theorem ba_sub : isSubtype (.type "bytearray") (.type "bytearray") = pure true := by rw [isSubtype_type]; kernel_rfl
section
variable {prog : Program} {w : World} {A : Around} {E : Value → Shared → Prop} {s : Shared}
theorem code_ba_new (a : Value) {Q₁ : Value → Shared → Prop}
    (h : Q₁ (.ref s.heap.objs.size) { s with heap := s.heap.push { cls := .type "bytearray", data := .bytearray #[] } }) :
    codeAny (model prog w) A (.call (.builtin "bytearray.__new__") ⟨[.type "bytearray", a], []⟩) (wants Q₁ E) s := by
  refine codeAny_of_tree ?_
  show wpAny _ A.in1 (do checkBuiltinCall "bytearray.__new__" ⟨[.type "bytearray", a], []⟩; again (.builtin "bytearray.__new__" ⟨[.type "bytearray", a], []⟩)) _ _ s
  refine wpAny_bind (wpAny_of_eq (ba_newCall a) (wpAny_pure ⟨plainId_quiet ba_plain _, codeAny_builtin_stack ba_entry rfl fun p st => ?_⟩))
  rw [Around.under_plainId ba_plain _]
  have hsub := ba_sub
  have hown := ba_owner
  obtain ⟨hp, g, d, tk, os⟩ := s
  simp only [hown]
  wp_walk
  exact h
end
end Mine
end
section -- R2
open PySem PySem.W PySem.Calls PyProof.Rows
set_option maxRecDepth 100000
set_option linter.unusedVariables false
namespace Mine
section
variable {prog : Program} {w : World} {A : Around} {E : Value → Shared → Prop} {s : Shared}
def ndId (id : String) : Bool := !(Builtin.Bytes.decodersThatHold.contains id || (["bytearray.__contains__", "bytearray.__mod__", "bytearray.__rmod__", "_struct.pack_into.held", "bytearray.find.held"] : List String).contains id)
theorem nd_builtin {id : String} {args : Args} (h : ndId id = true) : nd (.builtin id args) = true := h
theorem codeR_builtin {R : Result → Shared → Prop} {id : String} {args : Args} {b : Builtin} (hb : entryFor table id = some b) (hnd : ndId id = true)
    (h : wpR (model prog w) (A.under (.builtin id args)) (b args)
      (fun fin s' => match fin with | .done f => R (.ok f) s' | .again c' => c'.quiet = true ∧ codeR (model prog w) A c' R s') (fun e s' => R (.error e) s') s) :
    codeR (model prog w) A (.builtin id args) R s := by
  refine codeR_of_tree (nd_builtin hnd) ?_
  show wpR _ _ (match entryFor table id with | some b => b args | none => unsupported ((withoutEnding? id "#data").getD id)) _ _ s
  rw [hb]; exact h
theorem codeR_call_builtin {R : Result → Shared → Prop} {id : String} {args : Args} {b : Builtin} (hq : plainId id = true) (hb : entryFor table id = some b) (hnd : ndId id = true)
    (h : wpAny (model prog w) A.in1 (checkBuiltinCall id args) (fun _ s₁ => wpR (model prog w) A.in1 (b args)
      (fun fin s' => match fin with | .done f => R (.ok f) s' | .again c' => c'.quiet = true ∧ codeR (model prog w) A c' R s') (fun e s' => R (.error e) s') s₁)
      (fun e s' => R (.error e) s') s) : codeR (model prog w) A (.call (.builtin id) args) R s := by
  refine codeR_of_tree rfl (wpR_any ?_)
  show wpAny _ A.in1 (do checkBuiltinCall id args; again (.builtin id args)) _ _ s
  refine wpAny_bind (wpAny_mono h (fun _ s₁ h₁ => wpAny_pure (And.intro (plainId_quiet hq args) (codeR_builtin hb hnd ?_))) fun _ _ h' => h')
  rw [Around.under_plainId hq args]; exact h₁
theorem tree_ba (a : Value) : Builtin.«type.__call__» ⟨[.type "bytearray", a], []⟩ = (do
    let obj ← holding [.builtin "bytearray.__new__"] (call (.builtin "bytearray.__new__") [.type "bytearray", a] [])
    if !(← isInstance obj (.type "bytearray")) then rule "type.call.new-gave-other-type"; return ← ret obj
    match ← holding [obj] (callSpecial? obj "__init__" [a] []) with
    | none => ret obj
    | some r =>
      if r != .none then
        rule "type.call.init-returned-value"
        raiseError "TypeError" s!"__init__() should return None, not '{← typeNameOf r}'"
      ret obj) := by
  have h1 := ba_called.notType
  have h2 := ba_called.canCreate
  have h3 := ba_called.made
  unfold Builtin.«type.__call__»
  simp only [h1, h2, h3, ba_typeCall, ba_mro, pure_bind, Bool.false_eq_true, if_false, List.isEmpty_cons]
  rfl
/-- what the call bytearray(a) needs of its __init__ -/
theorem call_ba (a : Value) {Q : Value → Shared → Prop}
    (h : wpR (model prog w) A.in1.in1 (Builtin.«bytearray.__init__» ⟨[.ref s.heap.objs.size, a], []⟩)
      (fun fin s' => fin = .done (.ret .none) ∧ Q (.ref s.heap.objs.size) s') E { s with heap := s.heap.push { cls := .type "bytearray", data := .bytearray #[] } }) :
    wpR (model prog w) A (call (.type "bytearray") [a]) Q E s := by
  refine wpR_call (codeR_of_tree rfl ?_)
  show wpR _ _ (callAny (.type "bytearray") _) _ _ _
  refine wpR_pure ⟨Code.quiet_builtin _ (by decide +kernel), codeR_builtin F.entry_type_call (by decide +kernel) ?_⟩
  rw [Around.under_plain (weight_type_call_type "bytearray" [a] []) (units_type_call_type "bytearray" [a] [])]
  rw [tree_ba]
  refine wpR_bindA (wpAny_holding (wpAny_call (codeAny_mono (code_ba_new (Q₁ := fun obj s₁ => obj = .ref s.heap.objs.size ∧ s₁ = { s with heap := s.heap.push { cls := .type "bytearray", data := .bytearray #[] } }) (E := E) a ⟨rfl, rfl⟩) fun r s₁ hr => ?_)))
  cases r with
  | error e => exact hr
  | ok fl =>
    cases fl with
    | ret obj =>
      obtain ⟨rfl, rfl⟩ := hr
      have hS : (s.heap.push { cls := .type "bytearray", data := .bytearray #[] }).get? s.heap.objs.size = some { cls := .type "bytearray", data := .bytearray #[] } := Heap.get?_push_size _ rfl
      have hT : (Shared.mk (s.heap.push { cls := .type "bytearray", data := .bytearray #[] }) s.gens s.drawn s.toks s.os).TypeIs (.ref s.heap.objs.size) "bytearray" := ⟨_, hS, rfl⟩
      refine wpR_bindA (wpAny_isInstance hT ba_sub ?_)
      show wpR _ A.in1 (_ >>= _) _ _ _
      refine wpR_bind (wpR_holding ?_)
      unfold callSpecial?
      refine wpR_bindA (wpAny_specialOf hT ba_slot_init.lookup ?_)
      dsimp only
      refine wpR_holding (wpR_bindA (wpAny_of_eq (ba_slot_init.bind _) ?_))
      dsimp only
      refine wpR_bind (wpR_call (codeR_call_builtin ba_plainI ba_entryI (by decide +kernel) (ba_slot_init.check _ _ _ _ _ _ _ _ hT (ba_argsI _ _) (wpR_mono h (fun fin s' hf => ?_) fun e s' he => he))))
      obtain ⟨rfl, hq⟩ := hf
      exact wpR_pure (wpR_pure hq)
    | _ => exact hr.elim
end
end Mine
end
section -- R3
open PySem PySem.W PySem.Calls PyProof.Rows
set_option maxRecDepth 100000
set_option linter.unusedVariables false
namespace Mine
theorem ba_look_release : typeLookup (.type "bytearray") "__release_buffer__" = pure (some (.builtin "bytearray.__release_buffer__")) := by rw [typeLookup_type, builtinLookup_eq_fast]; kernel_rfl
theorem ba_bind (v : Value) : Builtin.Bytes.bindOptional "bytearray.__init__" "bytearray" ["source", "encoding", "errors"] [v] [] = pure [some v, none, none] := by kernel_rfl
theorem ba_rel_end : ("bytearray.__release_buffer__".endsWith ("." ++ "__release_buffer__")) = true := by decide +kernel
theorem ba_rel_drop : "bytearray.__release_buffer__".dropRight ("__release_buffer__".length + 1) = "bytearray" := by decide +kernel
section
variable {prog : Program} {w : World} {A : Around} {E : Value → Shared → Prop} {s : Shared}
theorem ba_ownRelease {a : Addr} {Q : Bool → Shared → Prop} (hT : s.TypeIs (.ref a) "bytearray") (h : Q false s) : wpAny (model prog w) A (Builtin.Bytes.ownRelease (.ref a)) Q E s := by
  unfold Builtin.Bytes.ownRelease Builtin.Bytes.slotIsOwn
  refine wpAny_bind (wpAny_bind (wpAny_specialOf hT ba_look_release ?_))
  dsimp only
  rw [ba_rel_end, ba_rel_drop]
  exact wpAny_isInstance hT ba_sub (wpAny_pure h)
theorem ba_exported {self : Value} {Q : Bool → Shared → Prop} (h : Q false s) : wpR (model prog w) A (Builtin.Bytes.exported self) Q E s := by
  intro Γ p _ h1 h2
  have e : ∀ x ∈ (Γ.code, p) :: Γ.below, nd x.1 = true := by
    intro x hx
    rcases List.mem_cons.mp hx with rfl | hx
    · exact h1
    · exact h2 x hx
  refine (congrArg (fun b => Q b s) ?_).mpr h
  rw [List.any_eq_false]
  rintro ⟨c, q⟩ hx
  have hn := e _ hx
  clear hx e h1 h2 h
  cases c
  case builtin id args =>
    obtain ⟨ps, kw⟩ := args
    have g := Bool.or_eq_false_iff.mp (Bool.not_eq_true' _ ▸ hn : (_ || _) = false)
    have n : ∀ x ∈ (["bytearray.__contains__", "bytearray.__mod__", "bytearray.__rmod__", "_struct.pack_into.held", "bytearray.find.held"] : List String), ¬ id = x := fun x hx y => by
      subst y
      exact Bool.noConfusion (g.2.symm.trans (List.contains_iff_mem.mpr hx))
    delta Builtin.Bytes.exported.match_1
    show ¬ (dite (id = "bytearray.__contains__") _ _ = true)
    rw [dif_neg (n _ (.head _))]
    rw [dif_neg (n _ (.tail _ (.head _)))]
    rw [dif_neg (n _ (.tail _ (.tail _ (.head _))))]
    rw [dif_neg (n _ (.tail _ (.tail _ (.tail _ (.head _)))))]
    rw [dif_neg (n _ (.tail _ (.tail _ (.tail _ (.tail _ (.head _))))))]
    cases ps with
    | nil => exact Bool.false_ne_true
    | cons v vs =>
      show ¬ ((Builtin.Bytes.sameRef v self && Builtin.Bytes.decodersThatHold.contains id) = true)
      rw [g.1, Bool.and_false]
      exact Bool.false_ne_true
  all_goals exact Bool.false_ne_true
/-- a bytearray's object -/
abbrev baOf (b : Array UInt8) : Obj := { cls := .type "bytearray", data := .bytearray b }
theorem ba_write {a : Addr} {b : Array UInt8} {f : Array UInt8 → Array UInt8} {Q : Unit → Shared → Prop} (hS : s.heap.get? a = some (baOf b)) (hz : (f b).size ≤ 16777216)
    (h : ∀ h', h'.get? a = some (baOf (f b)) → Heap.SameBut a s.heap h' → Q () { s with heap := h' }) : wpAny (model prog w) A (Builtin.Bytes.write (.ref a) f) Q E s := by
  show wpAny _ _ (updateBytearray a f) _ _ _
  unfold updateBytearray
  refine wpAny_bind (wpAny_load hS ?_)
  show wpAny _ _ (update a (Obj.mapBytearray f) >>= fun _ => lookBehind a) _ _ _
  have hS2 : (s.heap.update a (Obj.mapBytearray f)).get? a = some (baOf (f b)) := Heap.get?_update_self (Obj.mapBytearray f) hS rfl
  refine wpAny_bind (wpAny_update hS ?_)
  refine wpAny_lookBehind (o := baOf (f b)) hS2 ?_ (h _ hS2 (Heap.SameBut.update ..))
  show (if (f b).size > sizeLine then some "bytearray:memory" else none) = none
  rw [sizeLine_eq, if_neg (by omega)]
theorem asStr_int (i : Int) (t : Tok) : asStr? (.int i t) = pure none := rfl
theorem asIndex_int (i : Int) (t : Tok) : asIndex (.int i t) = pure i := rfl
theorem look_index : typeLookup (.type "int") "__index__" = pure (some (.builtin "int.__index__")) := by rw [typeLookup_type, builtinLookup_eq_fast]; kernel_rfl
theorem fits_small {i : Int} (h0 : 0 ≤ i) (h1 : i < 1000000) : Builtin.Bytes.fitsIndex i = true := by
  unfold Builtin.Bytes.fitsIndex
  rw [Bool.and_eq_true, decide_eq_true_eq, decide_eq_true_eq]
  omega
theorem ba_init {a : Addr} {n : Nat} {t : Tok} {Q : Fin → Shared → Prop} (hS : s.heap.get? a = some (baOf #[])) (hn : 0 < n) (hn2 : n < 1000)
    (h : ∀ h', h'.get? a = some (baOf (Array.replicate n 0)) → (∀ b o, b ≠ a → s.heap.get? b = some o → h'.get? b = some o) → Q (.done (.ret .none)) { s with heap := h' }) :
    wpR (model prog w) A (Builtin.«bytearray.__init__» ⟨[.ref a, .int n t], []⟩) Q E s := by
  have hT : s.TypeIs (.ref a) "bytearray" := ⟨_, hS, rfl⟩
  unfold Builtin.«bytearray.__init__»
  refine wpR_bindA (ba_ownRelease hT ?_)
  simp only [Bool.false_eq_true, if_false]
  refine wpR_bindA (wpAny_of_eq (ba_bind _) ?_)
  dsimp only
  refine wpR_bindA (wpAny_of_eq (a := ()) rfl ?_)
  refine wpR_bindA (wpAny_of_eq (a := ()) rfl ?_)
  refine wpR_bind ?_
  show wpR _ _ (Builtin.Bytes.exported (.ref a) >>= fun b => _) _ _ _
  refine wpR_bind (ba_exported ?_)
  try dsimp only
  refine wpR_any ?_
  show wpAny _ _ (Builtin.Bytes.exportsOf (.ref a) >>= fun k => pure (decide (k > 0))) _ _ _
  refine wpAny_bind (wpAny_bind (wpAny_load hS (wpAny_pure (wpAny_pure ?_))))
  simp only [gt_iff_lt, Nat.lt_irrefl, decide_false, Bool.false_eq_true, if_false]
  refine wpR_any ?_
  refine wpAny_bind (ba_write hS (by simp) fun h1 hS1 hs1 => ?_)
  simp only [asStr_int, pure_bind, Option.isSome_none, Bool.false_eq_true, if_false]
  refine wpAny_bind ?_
  generalize hk : (fun a s' => wpAny (model prog w) A _ Q E s') = K
  refine wpAny_specialOf (T := "int") (show typeOf (Value.int n t) = pure (.type "int") from rfl) look_index ?_
  subst hk
  simp only [Option.isSome_some, if_true, asIndex_int]
  refine wpAny_bind ?_
  generalize hk : (fun a s' => wpAny (model prog w) A _ Q E s') = K
  refine wpAny_attempt (wpAny_pure ?_)
  subst hk
  have e1 : Builtin.Bytes.fitsIndex (n : Int) = true := fits_small (by omega) (by omega)
  have e2 : ((n : Int) == 2 ^ 63 - 1) = false := by rw [beq_eq_false_iff_ne]; omega
  have e3 : Builtin.Bytes.tooLong ((n : Int).toNat) = false := by
    unfold Builtin.Bytes.tooLong; rw [decide_eq_false_iff_not, sizeLine_eq]; omega
  have e4 : ¬ (n : Int) < 0 := by omega
  have e5 : 0 < (n : Int) := by omega
  simp only [e1, e2, e3, e4, e5, Bool.not_true, Bool.false_eq_true, if_false, if_true]
  refine wpAny_bind (wpAny_rule ?_)
  refine wpAny_bind (ba_write hS1 (by simp; omega) fun h2 hS2 hs2 => ?_)
  refine wpAny_pure (h h2 ?_ fun b o hb e => ?_)
  · rw [Int.toNat_natCast] at hS2; exact hS2
  · rw [hs2.2 b hb, hs1.2 b hb]; exact e
end
end Mine
end
section -- R4
open PySem PySem.W PySem.Calls PyProof.Rows
set_option maxRecDepth 100000
set_option linter.unusedVariables false
namespace Mine
theorem ba_no_bytes : typeLookup (.type "bytearray") "__bytes__" = pure none := by rw [typeLookup_type, builtinLookup_eq_fast]; kernel_rfl
theorem ba_no_index : typeLookup (.type "bytearray") "__index__" = pure none := by rw [typeLookup_type, builtinLookup_eq_fast]; kernel_rfl
theorem ba_look_buffer : typeLookup (.type "bytearray") "__buffer__" = pure (some (.builtin "bytearray.__buffer__")) := by rw [typeLookup_type, builtinLookup_eq_fast]; kernel_rfl
theorem ba_buf_end : ("bytearray.__buffer__".endsWith ("." ++ "__buffer__")) = true := by decide +kernel
theorem ba_buf_drop : "bytearray.__buffer__".dropRight ("__buffer__".length + 1) = "bytearray" := by decide +kernel
section
variable {prog : Program} {w : World} {A : Around} {E : Value → Shared → Prop} {s : Shared}
theorem ba_slotIsOwn {a : Addr} {Q : Bool → Shared → Prop} (hT : s.TypeIs (.ref a) "bytearray") (h : Q true s) : wpAny (model prog w) A (Builtin.Bytes.slotIsOwn (.ref a) "__buffer__") Q E s := by
  unfold Builtin.Bytes.slotIsOwn
  refine wpAny_bind (wpAny_specialOf hT ba_look_buffer ?_)
  dsimp only
  rw [ba_buf_end, ba_buf_drop]
  exact wpAny_isInstance hT ba_sub h
theorem ba_payload {a : Addr} {b : Array UInt8} {Q : Array UInt8 → Shared → Prop} (hS : s.heap.get? a = some (baOf b)) (h : Q b s) : wpAny (model prog w) A (Builtin.Bytes.payload (.ref a)) Q E s := by
  unfold Builtin.Bytes.payload Builtin.Bytes.payload?
  exact wpAny_bind (wpAny_bind (wpAny_load hS (wpAny_pure (wpAny_pure h))))
theorem ba_buffer {a : Addr} {b : Array UInt8} {id : String} {full : Bool} {Q : Option (Array UInt8) → Shared → Prop} (hS : s.heap.get? a = some (baOf b)) (h : Q (some b) s) : wpAny (model prog w) A (Builtin.Bytes.buffer? id (.ref a) full) Q E s := by
  have hT : s.TypeIs (.ref a) "bytearray" := ⟨_, hS, rfl⟩
  unfold Builtin.Bytes.buffer?
  refine wpAny_bind (wpAny_specialOf hT ba_look_buffer ?_)
  try dsimp only
  refine wpAny_bind (ba_slotIsOwn hT ?_)
  simp only [Bool.not_true, Bool.false_eq_true, if_false]
  refine wpAny_bind (wpAny_specialOf hT ba_look_buffer ?_)
  try dsimp only
  refine wpAny_bind (ba_ownRelease hT ?_)
  simp only [Bool.false_eq_true, if_false]
  exact wpAny_bind (ba_payload hS (wpAny_pure h))
theorem ba_bytes_code {l : Addr} {b : Array UInt8} {Q : Value → Shared → Prop} (hS : s.heap.get? l = some (baOf b)) (hz : b.size ≤ sizeLine) (hQ : ∀ t k, Q (.bytes b t) { s with toks := k }) :
    codeAny (model prog w) A (.call (.builtin "bytes.__new__") ⟨[.type "bytes", .ref l], []⟩) (wants Q E) s := by
  have hT : s.TypeIs (.ref l) "bytearray" := ⟨_, hS, rfl⟩
  refine codeAny_of_tree ?_
  show wpAny _ A.in1 (do checkBuiltinCall "bytes.__new__" ⟨[.type "bytes", .ref l], []⟩; again (.builtin "bytes.__new__" ⟨[.type "bytes", .ref l], []⟩)) _ _ s
  refine wpAny_bind (wpAny_of_eq (F.bm_newCall _) (wpAny_pure ⟨plainId_quiet F.bm_plain _, codeAny_builtin F.bm_entry ?_⟩))
  rw [Around.under_plainId F.bm_plain _]
  unfold Builtin.«bytes.__new__»
  refine wpAny_bind (wpAny_of_eq (a := true) rfl ?_)
  refine bm_if_false rfl ?_
  refine wpAny_bind (wpAny_of_eq F.bm_sub ?_)
  refine bm_if_false rfl ?_
  refine wpAny_bind (wpAny_of_eq (F.bm_bind _) ?_)
  refine wpAny_bind (wpAny_of_eq (a := ()) rfl ?_)
  refine wpAny_bind (wpAny_of_eq (a := ()) rfl ?_)
  refine bm_if_false rfl ?_
  refine wpAny_bind (wpAny_specialOf hT ba_no_bytes ?_)
  refine wpAny_bind (wpAny_bind (wpAny_bind (wpAny_load hS ?_)))
  refine wpAny_pure (wpAny_pure ?_)
  refine bm_if_false rfl ?_
  refine wpAny_bind (wpAny_specialOf hT ba_no_index ?_)
  refine bm_if_true rfl ?_
  show wpAny _ _ (Builtin.Bytes.buffer? "bytes.__new__" (.ref l) true >>= _) _ _ _
  refine wpAny_bind (ba_buffer hS ?_)
  dsimp only
  refine wpAny_bind (wpAny_rule ?_)
  refine wpAny_bind (wpAny_mkBytes ?_ hz)
  show wpAny _ _ (if (Value.type "bytes" == Value.type "bytes") = true then _ else _) _ _ _
  refine bm_if_true (by decide) ?_
  first
    | exact wpAny_pure (hQ _ _)
    | exact wpAny_bind (wpAny_pure (wpAny_pure (hQ _ _)))
theorem ba_bytes {l : Addr} {b : Array UInt8} {Q : Value → Shared → Prop} (hS : s.heap.get? l = some (baOf b)) (hz : b.size ≤ sizeLine) (hQ : ∀ t k, Q (.bytes b t) { s with toks := k }) :
    wpAny (model prog w) A (call (.type "bytes") [.ref l]) Q E s := by
  refine callType_codes (Q₁ := fun obj s₁ => s₁.TypeIs obj "bytes" ∧ Q obj s₁) F.bm_called (F.bm_typeCall _) F.entry_object_init
    (ba_bytes_code hS hz fun t k => ⟨PySem.W.typeIs_bytes _ _ _, hQ t k⟩) fun obj s₁ h₁ => ?_
  exact ⟨h₁.1, F.args_object_init_2 obj _, object_init_meets F.bm_called.init.lookup F.bm_called.made (by decide) prog w A.in1 _ s₁ ⟨h₁.1, rfl, h₁.2⟩⟩
/-- bytearray(n) over the ledger -/
theorem ba_make_K {h₀ : Heap} {L : Addr} {m : Str → Option Value} {news : List (Addr × Obj)} {n : Nat} {t : Tok} {Q : Value → Shared → Prop} (F : Fr h₀ L s.heap m) (N : News h₀ L s.heap news) (hn : 0 < n) (hn2 : n < 1000)
    (h : ∀ D h', Fr h₀ L h' m → News h₀ L h' ((D, baOf (Array.replicate n 0)) :: news) → (∀ p ∈ news, p.1 < D) → Q (.ref D) { s with heap := h' }) :
    wpR (model prog w) A (call (.type "bytearray") [.int n t]) Q E s := by
  refine call_ba _ (ba_init (Heap.get?_push_size _ rfl) hn hn2 fun h1 hS hk => ⟨rfl, ?_⟩)
  have F1 := F.push (baOf #[])
  have N1 := N.push F (baOf #[])
  have D1 := N1 (s.heap.objs.size, baOf #[]) (.head _)
  obtain ⟨oL, es, ep, hL, r⟩ := F1.ns
  have F2 : Fr h₀ L h1 m := ⟨⟨oL, es, ep, hk _ _ (Ne.symm D1.2.1) hL, r⟩, fun b o e => hk b o (fun q => by rw [← q, e] at D1; cases D1.2.2) (F1.keep b o e), F1.above⟩
  refine h _ h1 F2 (fun p hp => ?_) fun p hp => Heap.lt_size (N p hp).1
  rcases List.mem_cons.mp hp with rfl | hp
  · exact ⟨hS, D1.2⟩
  · have P := N1 p (.tail _ hp)
    exact ⟨hk _ _ (Nat.ne_of_lt (Heap.lt_size (N p hp).1)) P.1, P.2⟩
end
end Mine
end
section -- R5
open PySem PySem.W PySem.Calls PyProof.Rows
set_option maxRecDepth 100000
set_option linter.unusedVariables false
namespace Mine
section
variable {M : Model} {A : Around} {E : Value → Shared → Prop} {s : Shared} {env : Env}
theorem execs_R {st : Stmt} {rest : List Stmt} {Q : Flow → Shared → Prop}
    (h : wpR M A (exec st env) (fun f s' => match f with | .next => wpR M A (execs rest env) Q E s' | f => Q f s') E s) : wpR M A (execs (st :: rest) env) Q E s := by
  rw [execs_cons]
  refine wpR_bind (wpR_mono h (fun f s' h' => ?_) fun _ _ x => x)
  cases f <;> first | exact h' | exact wpR_pure h'
/-- a statement that the library walks, then the rest -/
theorem execs_A {st : Stmt} {rest : List Stmt} {Q : Flow → Shared → Prop}
    (h : wpAny M A (exec st env) (fun f s' => match f with | .next => wpR M A (execs rest env) Q E s' | f => Q f s') E s) : wpR M A (execs (st :: rest) env) Q E s := execs_R (wpR_any h)
theorem assign_R {x : Str} {pos' pos : Pos} {value : Expr} {Q : Flow → Shared → Prop}
    (h : wpR M A (eval value env) (fun v s₁ => wpAny M A (storeName env x v) (fun _ s₂ => Q .next s₂) E s₁) E s)
    (hs : swapsWith value (some (.Name x pos')) pos.line env = pure false := by rfl) : wpR M A (exec (.Assign [.Name x pos'] value pos) env) Q E s := fun Γ p hΓ h1 h2 => by
  simp only [exec_Assign_Name env x pos' value pos hs, Sem.wp_bind', Sem.wp_cmd_standAt, Sem.wp_bindName, Sem.wp_pure']
  exact Sem.wp_mono M Γ _ (fun v _ s₁ h₁ => h₁ Γ _ hΓ) (fun _ _ _ h' => h') _ _ (h Γ _ hΓ h1 h2)
theorem Call_R {func : Expr} {args : List Expr} {pos : Pos} {Q : Value → Shared → Prop}
    (h : wpAny M A (eval func env) (fun f s₁ => wpR M A (callWith pos f [] (backTo pos (starEach args env)) []) Q E s₁) E s)
    (he : eval (.Call func args [] pos) env = (do callWith pos (← eval func env) [] (backTo pos (starEach args env)) (backToKw pos (keywordEach [] env))) := by rfl) :
    wpR M A (eval (.Call func args [] pos) env) Q E s := by
  rw [he]; exact wpR_bindA h
theorem callWith_type_R {pos : Pos} {T : String} {first : List Value} {args : List (Bool × Sem Value)} {Q : Value → Shared → Prop} (hplain : args.any (·.1) = false)
    (h : wpAny M A (evalArgs (.type T) true args []) (fun a s₁ => wpR M A (call (.type T) (first ++ a.pos) a.kw) Q E s₁) E s) :
    wpR M A (callWith pos (.type T) first args []) Q E s := by
  unfold callWith
  refine wpR_bindA (wpAny_holding (wpAny_mono h (fun a s₁ h₁ => wpR_bindA (wpAny_standAt ?_)) fun _ _ x => x))
  simp only [hplain, List.any_nil, Bool.or_false]
  refine wpR_bindA (wpAny_pure ?_)
  exact wpR_bind (wpR_mono h₁ (fun r s₂ hr => wpR_bindA (wpAny_holding (wpAny_point (wpR_pure hr)))) fun _ _ x => x)
theorem callWith_type_R1 {pos : Pos} {T : String} {e : Expr} {rest : List Expr} {Q : Value → Shared → Prop}
    (h : wpAny M A (spliced (backTo pos (starEach (e :: rest) env))) (fun vs s₁ => wpR M A (call (.type T) vs) Q E s₁) E s)
    (hst : starEach (e :: rest) env = (false, eval e env) :: starEach rest env := by rfl) (hplain : (backTo pos (starEach rest env)).any (·.1) = false := by rfl) :
    wpR M A (callWith pos (.type T) [] (backTo pos (starEach (e :: rest) env)) []) Q E s := by
  rw [hst] at h ⊢
  exact callWith_type_R (by show (false || (backTo pos (starEach rest env)).any (·.1)) = false; rw [hplain]; rfl) (evalArgs_plain (wpAny_mono h (fun vs s₃ h₃ => by simpa using h₃) fun _ _ x => x))
theorem callWith_K_R {K : Frag} {pos : Pos} {f : Value} {args : List (Bool × Sem Value)} {Q : Value → Shared → Prop} (hplain : args.any (·.1) = false) (hkeep : keepIn K f = true)
    (h : wpAny M A (evalArgs f true args []) (fun a s₁ => K.In s₁.heap ∧ wpR M A (call f ([] ++ a.pos) a.kw) Q E s₁) E s) :
    wpR M A (callWith pos f [] args []) Q E s := by
  unfold callWith
  refine wpR_bindA (wpAny_holding (wpAny_mono h (fun a s₁ h₁ => wpR_bindA (wpAny_standAt ?_)) fun _ _ x => x))
  obtain ⟨k, hk', L⟩ := keeps_K (M := M) hkeep _ h₁.1
  simp only [hplain, List.any_nil, Bool.or_false]
  refine wpR_bindA (L.here ?_)
  have tail : ∀ {t : Sem Value}, wpR M A t Q E s₁ → wpR M A (t >>= fun r => holding [r] point >>= fun _ => pure r) Q E s₁ :=
    fun ht => wpR_bind (wpR_mono ht (fun r s₂ hr => wpR_bindA (wpAny_holding (wpAny_point (wpR_pure hr)))) fun _ _ x => x)
  have marked (mk : Value) : wpR M A (callMarked mk f ([] ++ a.pos) a.kw) Q E s₁ := by unfold callMarked; exact wpR_keep h₁.2
  rcases hk' with rfl | rfl | rfl <;> dsimp only <;> first | exact tail h₁.2 | (split <;> first | exact tail h₁.2 | exact tail (marked _))
/-- x = f(e, ..): f a def of the written part -/
theorem assign_call_R {K : Frag} {x : Str} {pos' pos cpos : Pos} {func e : Expr} {rest : List Expr} {Q : Flow → Shared → Prop}
    (h : wpAny M A (eval func env) (fun f s₁ => keepIn K f = true ∧ wpAny M A (spliced (backTo cpos (starEach (e :: rest) env))) (fun vs s₂ => K.In s₂.heap ∧ wpR M A (call f vs) (fun v s₃ => wpAny M A (storeName env x v) (fun _ s₄ => Q .next s₄) E s₃) E s₂) E s₁) E s)
    (hst : starEach (e :: rest) env = (false, eval e env) :: starEach rest env := by rfl) (hplain : (backTo cpos (starEach rest env)).any (·.1) = false := by rfl)
    (he : eval (.Call func (e :: rest) [] cpos) env = (do callWith cpos (← eval func env) [] (backTo cpos (starEach (e :: rest) env)) (backToKw cpos (keywordEach [] env))) := by rfl)
    (hs : swapsWith (.Call func (e :: rest) [] cpos) (some (.Name x pos')) pos.line env = pure false := by rfl) : wpR M A (exec (.Assign [.Name x pos'] (.Call func (e :: rest) [] cpos) pos) env) Q E s := by
  refine assign_R (Call_R (wpAny_mono h (fun f s₁ h₁ => ?_) fun _ _ x => x) he) hs
  obtain ⟨hk, h₂⟩ := h₁
  rw [hst] at h₂ ⊢
  exact callWith_K_R (by show (false || (backTo cpos (starEach rest env)).any (·.1)) = false; rw [hplain]; rfl) hk (evalArgs_plain (wpAny_mono h₂ (fun vs s₃ h₃ => by simpa using h₃) fun _ _ x => x))
end
end Mine
end
section -- R6
open PySem PySem.W PySem.Calls PyProof.Rows
set_option maxRecDepth 100000
set_option linter.unusedVariables false
namespace Mine
theorem ba_slot_set : Slot "bytearray" "__setitem__" "bytearray.__setitem__" :=
  .of (owner := "bytearray") (n := "__setitem__") (by rw [typeLookup_type, builtinLookup_eq_fast]; kernel_rfl) (by decide +kernel) (by decide +kernel) (by decide +kernel)
    (by first | exact .inl (by decide +kernel) | exact .inr (by decide +kernel)) (by rw [isSubtype_type]; kernel_rfl)
theorem ba_entry_set : entryFor table "bytearray.__setitem__" = some Builtin.«bytearray.__setitem__» := by first | exact entryFor_of_fast (by kernel_rfl) | exact entryFor_of_tree (by kernel_rfl)
theorem ba_args_set (a b c : Value) : argsOk "bytearray.__setitem__" ⟨[a, b, c], []⟩ := by unfold argsOk; kernel_rfl
theorem seqIndex_in {k : Int} {n : Nat} (h0 : 0 ≤ k) (h1 : k < n) : seqIndex? k n = some k.toNat := by
  unfold seqIndex?
  first
    | (rw [if_neg (by omega), if_pos (by omega)])
    | (simp; omega)
    | (split <;> simp_all <;> omega)
section
variable {prog : Program} {w : World} {A : Around} {E : Value → Shared → Prop} {s : Shared}
theorem ba_subscript {k : Int} {t : Tok} {Q : Option Int → Shared → Prop} (h0 : 0 ≤ k) (h1 : k < 1000000) (h : Q (some k) s) : wpAny (model prog w) A (Builtin.Bytes.subscript? (.int k t)) Q E s := by
  unfold Builtin.Bytes.subscript?
  refine wpAny_bind (wpAny_specialOf (T := "int") (typeIs_int s k t) look_index ?_)
  show wpAny _ A (asIndex (.int k t) >>= _) Q E s
  refine wpAny_bind (wpAny_of_eq (a := k) rfl ?_)
  show wpAny _ A (if (!Builtin.Bytes.fitsIndex k) = true then _ else _) Q E s
  rw [if_neg (by rw [fits_small h0 h1]; decide)]
  exact wpAny_pure h
theorem ba_byteValue {v : Int} {u : Tok} {Q : UInt8 → Shared → Prop} (h0 : 0 ≤ v) (h1 : v < 256) (h : Q v.toNat.toUInt8 s) : wpAny (model prog w) A (Builtin.Bytes.byteValue (.int v u)) Q E s := by
  unfold Builtin.Bytes.byteValue
  refine wpAny_bind (wpAny_of_eq (a := v) rfl ?_)
  refine bm_if_false (by simp only [Bool.or_eq_false_iff, decide_eq_false_iff_not]; omega) ?_
  exact wpAny_pure h
theorem ba_setItem {D : Addr} {b : Array UInt8} {k v : Int} {t u : Tok} {Q : Unit → Shared → Prop} (hS : s.heap.get? D = some (baOf b)) (h0 : 0 ≤ k) (h1 : k < b.size) (hz : b.size < 1000) (hv0 : 0 ≤ v) (hv1 : v < 256)
    (hQ : ∀ h', h'.get? D = some (baOf (b.setIfInBounds k.toNat v.toNat.toUInt8)) → Heap.SameBut D s.heap h' → Q () { s with heap := h' }) :
    wpAny (model prog w) A (setItem (.ref D) (.int k t) (.int v u)) Q E s := by
  have hT : s.TypeIs (.ref D) "bytearray" := ⟨_, hS, rfl⟩
  unfold setItem
  try with_reducible refine wpAny_holding ?_
  first | refine wpAny_bind (wpAny_pure ?_) | skip
  refine wpAny_bind (wpAny_sequenceKey hT (by decide) ?_)
  refine wpAny_bind (wpAny_callSpecial?_slot (name := Str.ofString "__setitem__") hT ba_slot_set
    (wpAny_call_entry ba_slot_set hT ba_entry_set ?_ (ba_args_set _ _ _)))
  show wpAny _ _ (Builtin.Bytes.subscript? (.int k t) >>= _) _ _ s
  refine wpAny_bind (ba_subscript h0 (by omega) ?_)
  show wpAny _ _ (Builtin.Bytes.byteValue (.int v u) >>= _) _ _ s
  refine wpAny_bind (ba_byteValue hv0 hv1 ?_)
  refine wpAny_bind (ba_payload hS ?_)
  rw [seqIndex_in h0 h1]
  show wpAny _ _ (Builtin.Bytes.write (.ref D) (fun x => x.setIfInBounds k.toNat v.toNat.toUInt8) >>= _) _ _ s
  refine wpAny_bind (ba_write hS (by simp; omega) fun h' hS' hs' => ?_)
  first
    | exact wpAny_bind (wpAny_pure (wpAny_pure ⟨.none, rfl, wpAny_pure (hQ _ hS' hs')⟩))
    | exact wpAny_pure ⟨.none, rfl, wpAny_pure (hQ _ hS' hs')⟩
theorem ba_set_K {h₀ : Heap} {L : Addr} {m : Str → Option Value} {news news' : List (Addr × Obj)} {D : Addr} {b : Array UInt8} {k v : Int} {t u : Tok} {Q : Unit → Shared → Prop} (F : Fr h₀ L s.heap m) (N : News h₀ L s.heap news)
    (U : Upd D (baOf b) (baOf (b.setIfInBounds k.toNat v.toNat.toUInt8)) news news') (h0 : 0 ≤ k) (h1 : k < b.size) (hz : b.size < 1000) (hv0 : 0 ≤ v) (hv1 : v < 256)
    (h : ∀ h', Fr h₀ L h' m → News h₀ L h' news' → Q () { s with heap := h' }) : wpAny (model prog w) A (setItem (.ref D) (.int k t) (.int v u)) Q E s := by
  obtain ⟨pre, post, rfl, rfl, a, c⟩ := U.split
  have z := N (D, baOf b) (List.mem_append.mpr (.inr (.head _)))
  exact ba_setItem z.1 h0 h1 hz hv0 hv1 fun h' hS hs => h h' (F.change hs z.2.1 z.2.2) (news_set N a c hs hS)
end
end Mine
end
open PySem PySem.W PySem.Calls PyProof.Rows
open Mine
local macro_rules | `(tactic| walk_at "mine:lts") => `(tactic| first | with_reducible assumption | exact And.left (by with_reducible assumption) | exact And.right (by with_reducible assumption) | exact And.left (And.right (by with_reducible assumption)) | exact And.right (And.right (by with_reducible assumption)) | exact And.left (And.right (And.right (by with_reducible assumption))) | exact And.right (And.right (And.right (by with_reducible assumption))) | exact And.left (And.right (And.right (And.right (by with_reducible assumption)))) | exact And.right (And.right (And.right (And.right (by with_reducible assumption)))) | exact And.left (And.right (And.right (And.right (And.right (by with_reducible assumption))))) | exact And.right (And.right (And.right (And.right (And.right (by with_reducible assumption))))) | exact And.left (And.right (And.right (And.right (And.right (And.right (by with_reducible assumption)))))) | exact And.right (And.right (And.right (And.right (And.right (And.right (by with_reducible assumption)))))) | exact And.left (And.right (And.right (And.right (And.right (And.right (And.right (by with_reducible assumption))))))) | exact And.right (And.right (And.right (And.right (And.right (And.right (And.right (by with_reducible assumption))))))) | exact And.left (And.right (And.right (And.right (And.right (And.right (And.right (And.right (by with_reducible assumption)))))))) | exact And.right (And.right (And.right (And.right (And.right (And.right (And.right (And.right (by with_reducible assumption)))))))) | exact And.left (And.right (And.right (And.right (And.right (And.right (And.right (And.right (And.right (by with_reducible assumption))))))))) | exact And.right (And.right (And.right (And.right (And.right (And.right (And.right (And.right (And.right (by with_reducible assumption))))))))) | exact And.left (And.right (And.right (And.right (And.right (And.right (And.right (And.right (And.right (And.right (by with_reducible assumption)))))))))) | exact And.right (And.right (And.right (And.right (And.right (And.right (And.right (And.right (And.right (And.right (by with_reducible assumption)))))))))) | exact And.left (And.right (And.right (And.right (And.right (And.right (And.right (And.right (And.right (And.right (And.right (by with_reducible assumption))))))))))) | exact And.right (And.right (And.right (And.right (And.right (And.right (And.right (And.right (And.right (And.right (And.right (by with_reducible assumption))))))))))) | exact And.left (And.right (And.right (And.right (And.right (And.right (And.right (And.right (And.right (And.right (And.right (And.right (by with_reducible assumption)))))))))))) | exact And.right (And.right (And.right (And.right (And.right (And.right (And.right (And.right (And.right (And.right (And.right (And.right (by with_reducible assumption)))))))))))) | exact And.left (And.right (And.right (And.right (And.right (And.right (And.right (And.right (And.right (And.right (And.right (And.right (And.right (by with_reducible assumption))))))))))))) | exact And.right (And.right (And.right (And.right (And.right (And.right (And.right (And.right (And.right (And.right (And.right (And.right (And.right (by with_reducible assumption))))))))))))))
local macro_rules | `(tactic| k_ne) => `(tactic| (refine neN ?_; (try dsimp only); first | with_reducible assumption | exact Ne.symm (by with_reducible assumption) | exact Nat.ne_of_lt (by walk_at "mine:lts") | exact Nat.ne_of_gt (by walk_at "mine:lts") | omega))
section -- Mac
open PySem PySem.W PySem.Calls PyProof.Rows
namespace Mine
end Mine
end
section -- R7
open PySem PySem.W PySem.Calls PyProof.Rows
set_option maxRecDepth 100000
set_option linter.unusedVariables false
namespace Mine
section
variable {M : Model} {A : Around} {E : Value → Shared → Prop} {s : Shared} {env : Env}
theorem wpR_runOwn {c : Code} {h : Option Value} {Q : Flow → Shared → Prop}
    (hc : codeR M (A.mark h) c (fun r s' => match r with | .ok f => Q f s' | .error e => cameBackBy M A env E e s') s) (hnb : h ≠ some byPass := by intro x; cases x) :
    wpR M A (runOwn c env h) Q E s := by
  unfold runOwn
  exact wpR_onRaise (wpR_run hc hnb)
theorem wpR_noted {α : Type} {m : Sem α} {Q : α → Shared → Prop} (h : wpR M A m Q (notedBy M A env E) s) : wpR M A (m.onRaise fun x => do noteFrame x env; theTreesLotGoes x) Q E s :=
  wpR_onRaise (wpR_mono h (fun _ _ q => q) fun _ _ hx => wpAny_bind (wpAny_mono hx (fun _ _ e => wpAny_theTreesLotGoes e) fun _ _ e => e))
theorem If_R {test : Expr} {body orelse : List Stmt} {pos : Pos} {Q : Flow → Shared → Prop}
    (h : wpR M A (isTrue test env (eval test env)) (fun c s₁ => if c = true then wpR M A (execs body env) Q E s₁ else wpR M A (execs orelse env) Q E s₁) E s) :
    wpR M A (exec (.If test body orelse pos) env) Q E s := by
  rw [arm_exec_If]
  refine wpR_bindA (wpAny_standAt (wpR_bind (wpR_mono h (fun c s₁ h₁ => ?_) fun _ _ x => x)))
  cases c
  · exact h₁
  · exact h₁
theorem Or_R {x y : Expr} {pos : Pos} {v : Sem Value} {Q : Bool → Shared → Prop}
    (h : wpAny M A (isTrue x env (eval x env)) (fun c s₁ => if c = true then Q true s₁ else wpR M A (isTrue y env (eval y env)) Q E s₁) E s) :
    wpR M A (isTrue (.BoolOp .Or [x, y] pos) env v) Q E s := by
  show wpR M A (allTrue .Or [x, y] env) Q E s
  rw [allTrue]
  refine wpR_bindA (wpAny_mono h (fun c s₁ h₁ => ?_) fun _ _ x => x)
  cases c
  · show wpR M A (allTrue .Or [y] env) Q E s₁
    rw [allTrue]
    refine wpR_bind (wpR_mono h₁ (fun c s₂ h₂ => ?_) fun _ _ x => x)
    cases c
    · show wpR M A (allTrue .Or [] env) Q E s₂
      rw [allTrue]; exact wpR_pure h₂
    · exact wpR_pure h₂
  · exact wpR_pure h₁
theorem Cmp_R {l : Expr} {ops : List CmpOp} {cs : List Expr} {pos : Pos} {v : Sem Value} {Q : Bool → Shared → Prop}
    (h : wpR M A (eval l env) (fun v s₁ => wpAny M A (testChain pos v ops (markedEach ops cs (evalEach cs env))) Q E s₁) E s) :
    wpR M A (isTrue (.Compare l ops cs pos) env v) Q E s := by
  show wpR M A (eval l env >>= fun v => testChain pos v ops (markedEach ops cs (evalEach cs env))) Q E s
  exact wpR_bind (wpR_mono h (fun _ _ h₁ => wpR_any h₁) fun _ _ x => x)
/-- f(e, ..): f a def of the written part -/
theorem call_def_R {K : Frag} {cpos : Pos} {func e : Expr} {rest : List Expr} {Q : Value → Shared → Prop}
    (h : wpAny M A (eval func env) (fun f s₁ => keepIn K f = true ∧ wpAny M A (spliced (backTo cpos (starEach (e :: rest) env))) (fun vs s₂ => K.In s₂.heap ∧ wpR M A (call f vs) Q E s₂) E s₁) E s)
    (hst : starEach (e :: rest) env = (false, eval e env) :: starEach rest env := by rfl) (hplain : (backTo cpos (starEach rest env)).any (·.1) = false := by rfl)
    (he : eval (.Call func (e :: rest) [] cpos) env = (do callWith cpos (← eval func env) [] (backTo cpos (starEach (e :: rest) env)) (backToKw cpos (keywordEach [] env))) := by rfl) : wpR M A (eval (.Call func (e :: rest) [] cpos) env) Q E s := by
  refine Call_R (wpAny_mono h (fun f s₁ h₁ => ?_) fun _ _ x => x) he
  obtain ⟨hk, h₂⟩ := h₁
  rw [hst] at h₂ ⊢
  exact callWith_K_R (by show (false || (backTo cpos (starEach rest env)).any (·.1)) = false; rw [hplain]; rfl) hk (evalArgs_plain (wpAny_mono h₂ (fun vs s₃ h₃ => by simpa using h₃) fun _ _ x => x))
end
section
variable {prog : Program} {w : World} {A : Around} {E : Value → Shared → Prop} {R : Result → Shared → Prop} {s : Shared} {env : Env} {Q : Flow → Shared → Prop} {h₀ : Heap} {L : Addr}
theorem codeR_whileLoop {test body env} (I : Nat → Shared → Prop)
    (turn : ∀ n s, I n s →
      wpAny (model prog w) A (isTrue test env (eval test env)) (fun b s₂ =>
        if b then wpR (model prog w) A (execs body env) (fun f s₃ => match f with
            | .next | .cont => ∃ m, m < n ∧ I m s₃
            | .brk => R (.ok .next) s₃
            | .ret v => R (.ok (.ret v)) s₃) (notedBy (model prog w) A env fun e s' => R (.error e) s') s₂
        else R (.ok .next) s₂)
        (notedBy (model prog w) A env fun e s' => R (.error e) s') s)
    (n : Nat) (h : I n s) : codeR (model prog w) A (.whileLoop test body [] env) R s := by
  refine codeR_loop rfl rfl I (fun n s hI => ?_) n h
  show wpR _ A ((whileTurn test body [] env).onRaise (fun x => do noteFrame x env; theTreesLotGoes x)) _ _ s
  refine wpR_noted ?_
  simp only [whileTurn]
  refine wpR_bindA (wpAny_mono (turn n s hI) (fun b s₂ h₂ => ?_) fun _ _ h' => h')
  cases b with
  | false =>
    simp only [Bool.false_eq_true, if_false] at h₂ ⊢
    exact wpR_bindA (wpAny_execs_nil (wpR_pure h₂))
  | true =>
    simp only [if_true] at h₂ ⊢
    refine wpR_bind (wpR_mono h₂ (fun f s₃ h₃ => ?_) fun _ _ h' => h')
    cases f with
    | next => exact wpR_pure ⟨rfl, h₃⟩
    | cont => exact wpR_pure ⟨rfl, h₃⟩
    | brk => exact wpR_pure h₃
    | ret v => exact wpR_pure h₃
theorem whileR {σ : Type} {test : Expr} {body : List Stmt} {pos : Pos} {m₀ : Str → Option Value} (Led : σ → List (Addr × Obj)) (ps : σ → List (Str × Value)) (Facts : σ → Prop) (stored : List Str) (P : σ → Prop) (μ : σ → Nat) (c₀ : σ)
    (F : Fr h₀ L s.heap m₀) (N : News h₀ L s.heap (Led c₀)) (hf : Facts c₀) (hk : ∀ p ∈ ps c₀, m₀ p.1 = some p.2) (hp : P c₀)
    (turn : ∀ (c : σ) (u : Str → Option Value) h tk, Facts c → P c → Fr h₀ L h (kstB (fun z => if stored.contains z then u z else m₀ z) (ps c)) → News h₀ L h (Led c) →
      wpAny (model prog w) A (isTrue test env (eval test env)) (fun b s₂ =>
        if b = true then wpR (model prog w) A (execs body env) (KswPost h₀ L s Led ps Facts stored m₀ P μ Q c) E s₂ else Q .next s₂) E { s with heap := h, toks := tk })
    (hE : PassesOwn (model prog w) A env E := by passes_own) :
    wpR (model prog w) A (exec (.While test body [] pos) env) Q E s := by
  rw [exec_While]
  refine wpR_bindA (wpAny_standAt (wpR_runOwn (codeR_whileLoop (fun n s' => ∃ h₁ tk₁ m₁, ∃ c : σ, s' = { s with heap := h₁, toks := tk₁ } ∧ Fr h₀ L h₁ m₁ ∧ News h₀ L h₁ (Led c) ∧ μ c = n ∧ Facts c ∧ (∀ p ∈ ps c, m₁ p.1 = some p.2) ∧ (∀ z, (∀ p ∈ ps c, z ≠ p.1) → stored.contains z = false → m₁ z = m₀ z) ∧ P c) ?_ (μ c₀) ⟨s.heap, s.toks, m₀, c₀, rfl, F, N, rfl, hf, hk, fun _ _ _ => rfl, hp⟩)))
  rintro n s' ⟨h₁, tk₁, m₁, c, rfl, F₁, N₁, hsz, hf', h1, h2, hp'⟩
  refine wpAny_mono (turn c m₁ h₁ tk₁ hf' hp' (ksw_fr h1 h2 F₁) N₁) (fun b s₂ p => ?_) hE
  cases b with
  | false => simpa using p
  | true =>
    simp only [if_true] at p ⊢
    refine wpR_mono p (fun f s₃ q => ?_) hE
    cases f with
    | ret v => exact q
    | brk => exact q
    | next =>
      obtain ⟨c', h', tk', m', news', rfl, F', N', hn, hf9, hk9, hr9, hp9, hm9⟩ := q
      exact ⟨μ c', hsz ▸ hm9, h', tk', m', c', rfl, F', fun p hp => N' p (hn p hp), rfl, hf9, hk9, hr9, hp9⟩
    | cont =>
      obtain ⟨c', h', tk', m', news', rfl, F', N', hn, hf9, hk9, hr9, hp9, hm9⟩ := q
      exact ⟨μ c', hsz ▸ hm9, h', tk', m', c', rfl, F', fun p hp => N' p (hn p hp), rfl, hf9, hk9, hr9, hp9⟩
end
end Mine
end
section -- E0
open PySem PySem.W PySem.Calls PyProof.Rows
set_option maxRecDepth 100000
set_option linter.unusedVariables false
namespace Mine
section
variable {prog : Program} {w : World} {A : Around} {R : Result → Shared → Prop} {s : Shared}
theorem call_fullR {name : Str} {params : Arguments} {body : List Stmt} {scope : Scope} {pm cd doc : Value} {a : Addr} {o : Obj} {args : Args} {binds : List (Str × Value)}
    (hroom : A.depth < recursionLimit) (ho : s.heap.get? a = some o) (hdata : o.data = .func { docDef name params body scope pm cd doc with defaults := .none, kwdefaults := .none }) (hlim : s.heap.NoLimit) (hcd : s.heap.CodeRec cd name)
    (hbind : BindsTo s { docDef name params body scope pm cd doc with defaults := .none, kwdefaults := .none } args binds)
    (hloc : ∀ x ∈ binds, scope.names.lookup x.1 = some .local)
    (h : ∀ h₁, Fr s.heap s.heap.objs.size h₁ (fun x => binds.reverse.lookup x) →
      wpR (model prog w) (A.deeper (envOf name scope s.heap.objs.size a cd)) (execs body (envOf name scope s.heap.objs.size a cd))
        (fun f s' => R (.ok (.ret (match f with | .ret v => v | _ => .none))) s')
        (fun e s' => wpAny (model prog w) (A.deeper (envOf name scope s.heap.objs.size a cd)) (leaving (envOf name scope s.heap.objs.size a cd) e)
          (fun _ s'' => R (.error e) s'') (fun e' s'' => R (.error e') s'') s')
        { s with heap := h₁, toks := s.toks + binds.length })
    (hco : scope.isCoroutine = false := by rfl) (hgen : scope.isGenerator = false := by rfl) (hk : scope.kind = .function := by rfl)
    (hcell : ∀ x ∈ scope.names, x.2 ≠ .cell := by decide) :
    codeR (model prog w) A (.call (.ref a) args) R s := by
  refine codeR_call_function hroom ho hdata hco hgen rfl hcd (hbind _ _ _ _ ?_)
  refine wpAny_newFunctionEnv hcell hloc (fun h₁ hns hsb => ⟨hlim.fresh _ hsb, codeR_func ?_⟩) hk
  have hk₁ : ∀ b o, s.heap.get? b = some o → h₁.get? b = some o := fun b o e => hsb.extBut b o (Nat.ne_of_lt (Heap.lt_size e)) (Heap.get?_push_of_some _ e)
  exact h h₁ ⟨hns, hk₁, Nat.le_refl _⟩
end
theorem enter_callR {M : Model} {A : Around} {s : Shared} {f : Value} {pos : List Value} {kw : List (Str × Value)} {c : ClaimW} {cl : Str → Option Addr} {mean : ExcName → Option Value} {args : List WData} {s₁ : Shared}
    (h : codeR M A (.call f ⟨pos, kw⟩) (GoodWG c cl mean args s₁) s) : wpR M A (PySem.call f pos kw) (fun v s' => GoodWG c cl mean args s₁ (.ok (.ret v)) s') (fun e s' => GoodWG c cl mean args s₁ (.error e) s') s :=
  wpR_call (codeR_mono h fun res s' g => by
    rcases g.1 with ⟨v, _, _, e, _⟩ | ⟨e, _, _, e2, _⟩
    · subst e; exact g
    · subst e2; exact g)
/-- what is shown over the ghost holds of the state itself -/
theorem of_ghost {s₁ s' : Shared} {cw : ClaimW} {cl : Str → Option Addr} {mean : ExcName → Option Value} {args : List WData} {tabs : List (Addr × Addr)} {r : Result} (hT : TabsAt tabs s₁.heap) (hr : ∀ a x, cw.raises a x = false)
    (h : GoodW cw cl mean args { s₁ with heap := ghostOf s₁.heap tabs } r s' ∧ GrownAll tabs s'.heap) : GoodWG cw cl mean args s₁ r s' := by
  obtain ⟨⟨hc, hk, hos, hg⟩, hgr⟩ := h
  have cases_ : ∀ b o, s₁.heap.get? b = some o → s'.heap.get? b = some o ∨ (isCodeTable s₁.heap b ∧ o = tabObj #[] ∧ ∃ ps, s'.heap.get? b = some (tabObj ps)) := by
    intro b o e
    by_cases hb : b ∈ tabs.map (·.2)
    · obtain ⟨q, hq, eq⟩ := List.mem_map.mp hb
      subst eq
      have e2 := (hT q hq).2
      refine .inr ⟨((hT q hq).1.tab e2).isCodeTable, ?_, hgr.get q hq⟩
      rw [e] at e2
      exact Option.some.inj e2
    · exact .inl (hk b o (ghost_ne e hb))
  refine ⟨?_, ⟨fun b o e => ?_, fun b o e => ?_⟩, hos, .of_eq hg⟩
  · rcases hc with ⟨v, d, as, r1, r2, r3, r4, r5⟩ | ⟨e, ob, x, _, _, _, r4, _⟩
    · refine .inl ⟨v, d, as, r1, r2, r3, r4, fun q => ⟨(r5 q).1, fun a ha => ?_⟩⟩
      cases q1 : s₁.heap.get? a with
      | none => rfl
      | some o =>
        have g1 := (r5 q).2 a ha
        by_cases hb : a ∈ tabs.map (·.2)
        · obtain ⟨q', hq', eq⟩ := List.mem_map.mp hb
          subst eq
          obtain ⟨ps, hP⟩ := hgr.get q' hq'
          exact absurd ha (readsW_apart hP rfl r3)
        · rw [show (ghostOf s₁.heap tabs).get? a = some o from ghost_ne q1 hb] at g1
          cases g1
    · rw [hr] at r4; cases r4
  · rcases cases_ b o e with h1 | ⟨h1, rfl, ps, h2⟩
    · exact .inl h1
    · exact .inr (.inl ⟨h1, rfl, #[], ps, rfl, by rw [Array.empty_append]; exact h2⟩)
  · rcases cases_ b o e with h1 | ⟨h1, rfl, ps, h2⟩
    · exact ⟨o, h1⟩
    · exact ⟨_, h2⟩
theorem kn_postR {M : Model} {A : Around} {cd : Code} {s s₁ : Shared} {cw : ClaimW} {cl : Str → Option Addr} {mean : ExcName → Option Value} {args : List WData} {tabs : List (Addr × Addr)} (hT : TabsAt tabs s₁.heap) (hr : ∀ a x, cw.raises a x = false)
    (h : codeR M A cd (fun r s' => GoodW cw cl mean args { s₁ with heap := ghostOf s₁.heap tabs } r s' ∧ GrownAll tabs s'.heap) s) : codeR M A cd (GoodWG cw cl mean args s₁) s :=
  codeR_mono h fun _ _ g => of_ghost hT hr g
end Mine
end
section -- FL
open PySem PySem.W PySem.Calls PyProof.Rows
set_option maxRecDepth 100000
set_option linter.unusedVariables false
namespace Mine
/-- a list's iterator at place i -/
def litIs (it : Obj) (l : Addr) (i : Nat) : Prop := it.cls = .type "list_iterator" ∧ it.data = .fields #[.ref l, .int i 0]
/-- the end of a turn: the loop goes on from there -/
def TurnPost (prog : Program) (w : World) (A : Around) (R : Result → Shared → Prop) (x : Str) (px : Pos) (I : Addr) (body : List Stmt) (env : Env) (f : Flow) (s : Shared) : Prop :=
  match f with
  | .brk => R (.ok .next) s
  | .ret v => R (.ok (.ret v)) s
  | _ => codeR (model prog w) A (.forLoop (.Name x px) (.ref I) body [] env) R s
/-- what a for's own end owes -/
def ForPost (M : Model) (A : Around) (env : Env) (Q : Flow → Shared → Prop) (E : Value → Shared → Prop) (r : Result) (s' : Shared) : Prop :=
  match r with | .ok f => Q f s' | .error e => cameBackBy M A env E e s'
section
variable {prog : Program} {w : World} {A : Around} {E : Value → Shared → Prop} {s : Shared} {env : Env} {Q : Flow → Shared → Prop} {R : Result → Shared → Prop} {h₀ : Heap} {L : Addr}
theorem For_R {x : Str} {px pos : Pos} {iter : Expr} {body : List Stmt}
    (h : wpAny (model prog w) A (eval iter env) (fun xv s₁ => wpAny (model prog w) A (pyIter xv) (fun it s₂ =>
      codeR (model prog w) A (.forLoop (.Name x px) it body [] env) (ForPost (model prog w) A env Q E) s₂) E s₁) E s)
    (hs : ∀ x, foldedSetIterable iter env x = pure x := by intro _; rfl) :
    wpR (model prog w) A (exec (.For (.Name x px) iter body [] pos) env) Q E s := by
  rw [exec_For]
  refine wpR_bindA (wpAny_standAt (wpR_bindA (wpAny_mono h (fun v s₁ h₁ => ?_) fun _ _ e => e)))
  refine wpR_bindA (wpAny_of_eq (hs v) ?_)
  refine wpR_bindA (wpAny_standAt (wpR_bindA (wpAny_holding (wpAny_mono h₁ (fun it s₂ h₂ => ?_) fun _ _ e => e))))
  exact wpR_runOwn (codeR_mono h₂ fun r s' p => by cases r <;> exact p) (by intro z; cases z)
theorem forLoop_none {x : Str} {px : Pos} {it : Value} {body : List Stmt}
    (h : wpAny (model prog w) A (pyNext it) (fun r s₁ => r = none ∧ R (.ok .next) s₁) (notedBy (model prog w) A env fun e s' => R (.error e) s') s) :
    codeR (model prog w) A (.forLoop (.Name x px) it body [] env) R s := by
  refine codeR_of_tree rfl ?_
  show wpR _ A ((forTurn (.Name x px) it body [] env).onRaise (fun x => do noteFrame x env; theTreesLotGoes x)) _ _ s
  refine wpR_noted ?_
  simp only [forTurn]
  refine wpR_bindA (wpAny_standAt (wpR_bindA (wpAny_onRaise (wpAny_mono h (fun r s₁ h₁ => ?_) fun _ _ h' => wpAny_standAt h'))))
  obtain ⟨rfl, hR⟩ := h₁
  exact wpR_pure ⟨rfl, codeR_any (codeAny_block (wpAny_execs_nil hR))⟩
theorem forLoop_some {x : Str} {px : Pos} {I : Addr} {body : List Stmt}
    (h : wpAny (model prog w) A (pyNext (.ref I)) (fun r s₁ => ∃ v, r = some v ∧ wpAny (model prog w) A (storeName env x v) (fun _ s₂ => wpR (model prog w) A (execs body env)
        (TurnPost prog w A R x px I body env) (notedBy (model prog w) A env fun e s' => R (.error e) s') s₂) (notedBy (model prog w) A env fun e s' => R (.error e) s') s₁) (notedBy (model prog w) A env fun e s' => R (.error e) s') s) :
    codeR (model prog w) A (.forLoop (.Name x px) (.ref I) body [] env) R s := by
  refine codeR_of_tree rfl ?_
  show wpR _ A ((forTurn (.Name x px) (.ref I) body [] env).onRaise (fun x => do noteFrame x env; theTreesLotGoes x)) _ _ s
  refine wpR_noted ?_
  simp only [forTurn]
  refine wpR_bindA (wpAny_standAt (wpR_bindA (wpAny_onRaise (wpAny_mono h (fun r s₁ h₁ => ?_) fun _ _ h' => wpAny_standAt h'))))
  obtain ⟨v, rfl, h₂⟩ := h₁
  refine wpR_bindA (wpAny_of_eq (show letOwnedTupleGo (.Name x px) (.ref I) v = pure () from rfl) ?_)
  refine wpR_bindA (wpAny_assign_Name (wpAny_mono h₂ (fun _ s₂ h₃ => ?_) fun _ _ e => e))
  refine wpR_bind (wpR_mono h₃ (fun f s₃ p => ?_) fun _ _ e => e)
  cases f with
  | next => exact wpR_pure ⟨rfl, p⟩
  | cont => exact wpR_pure ⟨rfl, p⟩
  | brk => exact wpR_pure p
  | ret v => exact wpR_pure p
theorem wpR_passesOwn {α : Type} {t : Sem α} {Q : α → Shared → Prop} (hE : PassesOwn (model prog w) A env E) (h : wpR (model prog w) A t Q E s) :
    wpR (model prog w) A t Q (notedBy (model prog w) A env (cameBackBy (model prog w) A env E)) s := wpR_mono h (fun _ _ x => x) hE
/-- a turn over a made list -/
theorem turn_list {x : Str} {px : Pos} {I l : Addr} {it : Obj} {i c : Nat} {items : Array Value} {v : Value} {m : Str → Option Value} {news : List (Addr × Obj)} {body : List Stmt} (hit : litIs it l i) (F : Fr h₀ L s.heap m) (N : News h₀ L s.heap ((I, it) :: news))
    (hl : (l, listOf items c) ∈ news) (hoff : ∀ p ∈ news, p.1 ≠ I) (hv : items[i]? = some v)
    (h : ∀ h' it', litIs it' l (i + 1) → Fr h₀ L h' m → News h₀ L h' ((I, it') :: news) → wpAny (model prog w) A (storeName env x v) (fun _ s₂ => wpR (model prog w) A (execs body env)
        (TurnPost prog w A (ForPost (model prog w) A env Q E) x px I body env) E s₂) E { s with heap := h' })
    (hE : PassesOwn (model prog w) A env E := by passes_own) :
    codeR (model prog w) A (.forLoop (.Name x px) (.ref I) body [] env) (ForPost (model prog w) A env Q E) s := by
  have zi := N _ (.head _)
  have zl := N _ (.tail _ hl)
  have hL : s.heap.IsList l items := ⟨_, zl.1, rfl, _, rfl⟩
  have hI : s.heap.IsListIter I l i := ⟨_, zi.1, hit.1, hit.2⟩
  refine forLoop_some (wpAny_passesOwn hE (wpAny_pyNext_list_item hI hL hv fun h' hit' hs => ⟨v, rfl, ?_⟩))
  obtain ⟨o, ho, hc, hd⟩ := hit'
  refine wpAny_mono (h h' o ⟨hc, hd⟩ (F.change hs zi.2.1 zi.2.2) (fun p hp => ?_)) (fun _ s₂ h₂ => wpR_passesOwn hE h₂) hE
  rcases List.mem_cons.mp hp with rfl | hp
  · exact ⟨ho, zi.2⟩
  · exact ⟨hs.extBut _ _ (hoff p hp) (N p (.tail _ hp)).1, (N p (.tail _ hp)).2⟩
theorem done_list {x : Str} {px : Pos} {I l : Addr} {it : Obj} {i c : Nat} {items : Array Value} {m : Str → Option Value} {news : List (Addr × Obj)} {body : List Stmt} (hh : A.handled = none) (hit : litIs it l i) (F : Fr h₀ L s.heap m) (N : News h₀ L s.heap ((I, it) :: news))
    (hl : (l, listOf items c) ∈ news) (hoff : ∀ p ∈ news, p.1 ≠ I) (hv : items[i]? = none)
    (h : ∀ h', Fr h₀ L h' m → News h₀ L h' news → Q .next { s with heap := h' })
    (hE : PassesOwn (model prog w) A env E := by passes_own) :
    codeR (model prog w) A (.forLoop (.Name x px) (.ref I) body [] env) (ForPost (model prog w) A env Q E) s := by
  have zi := N _ (.head _)
  have zl := N _ (.tail _ hl)
  have hL : s.heap.IsList l items := ⟨_, zl.1, rfl, _, rfl⟩
  have hI : s.heap.IsListIter I l i := ⟨_, zi.1, hit.1, hit.2⟩
  refine forLoop_none (wpAny_passesOwn hE (wpAny_pyNext_list_end hh hI hL hv fun h' hs => ⟨rfl, ?_⟩))
  refine h h' ⟨F.ns.at' fun o e => hs _ o (fun q => zi.2.1 q.symm) e, fun b o e => hs b o (fun q => by rw [q, zi.2.2] at e; cases e) (F.keep b o e), F.above⟩ (fun p hp => ?_)
  exact ⟨hs _ _ (hoff p hp) (N p (.tail _ hp)).1, (N p (.tail _ hp)).2⟩
/-- the same, the item read off the written list -/
theorem turn_l {x : Str} {px : Pos} {I l : Addr} {it : Obj} (i : Nat) {c : Nat} {items r : List Value} {v : Value} {m : Str → Option Value} {news : List (Addr × Obj)} {body : List Stmt} (hit : litIs it l i) (F : Fr h₀ L s.heap m) (N : News h₀ L s.heap ((I, it) :: news))
    (hl : (l, listOf items.toArray c) ∈ news) (hoff : ∀ p ∈ news, p.1 ≠ I) (hv : items.drop i = v :: r)
    (h : ∀ h' it', litIs it' l (i + 1) → Fr h₀ L h' m → News h₀ L h' ((I, it') :: news) → wpAny (model prog w) A (storeName env x v) (fun _ s₂ => wpR (model prog w) A (execs body env)
        (TurnPost prog w A (ForPost (model prog w) A env Q E) x px I body env) E s₂) E { s with heap := h' })
    (hE : PassesOwn (model prog w) A env E := by passes_own) :
    codeR (model prog w) A (.forLoop (.Name x px) (.ref I) body [] env) (ForPost (model prog w) A env Q E) s := by
  refine turn_list hit F N hl hoff ?_ h hE
  have e : items[i]? = some v := by
    have := congrArg (fun l => l[0]?) hv
    simpa using this
  simpa using e
theorem done_l {x : Str} {px : Pos} {I l : Addr} {it : Obj} (i : Nat) {c : Nat} {items : List Value} {m : Str → Option Value} {news : List (Addr × Obj)} {body : List Stmt} (hh : A.handled = none) (hit : litIs it l i) (F : Fr h₀ L s.heap m) (N : News h₀ L s.heap ((I, it) :: news))
    (hl : (l, listOf items.toArray c) ∈ news) (hoff : ∀ p ∈ news, p.1 ≠ I) (hv : items.drop i = [])
    (h : ∀ h', Fr h₀ L h' m → News h₀ L h' news → Q .next { s with heap := h' })
    (hE : PassesOwn (model prog w) A env E := by passes_own) :
    codeR (model prog w) A (.forLoop (.Name x px) (.ref I) body [] env) (ForPost (model prog w) A env Q E) s := by
  refine done_list hh hit F N hl hoff ?_ h hE
  have e : items[i]? = none := by
    rw [List.getElem?_eq_none_iff]
    exact List.drop_eq_nil_iff.mp hv
  simpa using e
theorem News.sub {news l : List (Addr × Obj)} {h : Heap} (N : News h₀ L h news) (hs : ∀ p ∈ l, p ∈ news) : News h₀ L h l := fun p hp => N p (hs p hp)
/-- the iterator itself -/
theorem iter_list {l : Addr} {c : Nat} {items : Array Value} {m : Str → Option Value} {news : List (Addr × Obj)} {Q : Value → Shared → Prop} (F : Fr h₀ L s.heap m) (N : News h₀ L s.heap news) (hl : (l, listOf items c) ∈ news)
    (h : ∀ I it h', litIs it l 0 → Fr h₀ L h' m → News h₀ L h' ((I, it) :: news) → (∀ p ∈ news, p.1 < I) → Q (.ref I) { s with heap := h' }) : wpAny (model prog w) A (pyIter (.ref l)) Q E s := by
  have zl := N _ hl
  have hL : s.heap.IsList l items := ⟨_, zl.1, rfl, _, rfl⟩
  refine wpAny_pyIter_list hL (h s.heap.objs.size { cls := .type "list_iterator", data := .fields #[.ref l, .int 0 0] } _ ⟨rfl, rfl⟩ (F.push _) (fun p hp => ?_) fun p hp => Heap.lt_size (N p hp).1)
  rcases List.mem_cons.mp hp with rfl | hp
  · exact ⟨Heap.get?_push_size _ rfl, Nat.ne_of_gt F.ns.lt, next_is_new F⟩
  · exact ⟨Heap.get?_push_of_some _ (N p hp).1, (N p hp).2⟩
/-- try .. except: all but the body by the library -/
theorem Try_R {body orelse : List Stmt} {h₁ : ExceptHandler} {hs : List ExceptHandler} {pos : Pos}
    (h : wpR (model prog w) A (execs body env) (fun f s₁ => match f with | .next => wpAny (model prog w) A (execs orelse env) Q E s₁ | f => Q f s₁)
      (fun e s₁ => wpAny (model prog w) A (noteFrame e env) (fun _ s₂ => wpAny (model prog w) A (setFlight e none) (fun _ s₃ => wpAny (model prog w) A (handleBy e env (h₁ :: hs)) Q E s₃) E s₂) E s₁) s) :
    wpR (model prog w) A (exec (.Try body (h₁ :: hs) orelse [] pos) env) Q E s := by
  rw [arm_exec_Try]
  refine wpR_bindA (wpAny_standAt ?_)
  unfold tryStmt
  simp only [List.isEmpty_nil, if_true]
  refine wpR_bind (wpR_attempt (wpR_mono h (fun f s₁ h₂ => ?_) (fun e s₁ h₂ => ?_)))
  · cases f with
    | next => exact wpR_any h₂
    | cont => exact wpR_pure h₂
    | brk => exact wpR_pure h₂
    | ret v => exact wpR_pure h₂
  · refine wpR_any (wpAny_bind (wpAny_mono h₂ (fun _ s₂ h₃ => ?_) fun _ _ x => x))
    simp only [List.isEmpty_cons, Bool.false_and, Bool.false_eq_true, if_false]
    exact wpAny_bind (wpAny_mono h₃ (fun _ s₃ h₄ => h₄) fun _ _ x => x)
end
end Mine
end
section -- DS
open PySem PySem.W PySem.Calls PyProof.Rows
set_option maxRecDepth 100000
set_option linter.unusedVariables false
namespace Mine
section
variable {prog : Program} {w : World} {A₀ A : Around} {s : Shared} {base h₀ g₀ : Heap} {outer : List Env} {L a : Addr} {m : Str → Option Value} {cn : Str} {cs : Scope} {ccd : Value} {news : List (Addr × Obj)} {K : Frag} {p : Program} {loose : List Str} {mean : ExcName → Option Value} {mg mb : Str → Option Value}
    {R : Result → Shared → Prop} {name qual : Str} {params : Arguments} {body : List Stmt} {scope : Scope} {dV kV doc pm cdv ct oc : Value} {an od : Option Addr} {osl : Array (Option Value)} {f : Addr} {args : Args} {binds : List (Str × Value)}
theorem defS0R (B : Below A₀ base [] h₀) (F : Fr h₀ L s.heap m) (X₀ : K.In h₀) (N : News h₀ L s.heap news) (T : Top p loose mean mg mb h₀) (hA : A.frames = some [envOf cn cs L a ccd])
    (ho : K.lookup f = some ⟨oc, od, .func (fnOf name qual params body scope dV kV doc pm an cdv ct), osl⟩) (hcd : codeIn K cdv qual = true) (hroom : A.depth < recursionLimit)
    (hbind : BindsTo s (fnOf name qual params body scope dV kV doc pm an cdv ct) args binds) (hloc : ∀ y ∈ binds, scope.names.lookup y.1 = some .local)
    (h : ∀ g L' h₁, Fr h₀ L g m → Fr g L' h₁ (fun y => binds.reverse.lookup y) → News g L' h₁ news → Below A base [envOf cn cs L a ccd] g → K.In g → Top p loose mean mg mb g → KtsDicts ([envOf cn cs L a ccd].filterMap (·.frame)) g →
      wpR (model prog w) (A.deeper (envOf qual scope L' f cdv)) (execs body (envOf qual scope L' f cdv))
        (fun fl s' => LeaveS0 ([envOf cn cs L a ccd].filterMap (·.frame)) h₀ L m g R (match fl with | .ret v => v | _ => .none) s')
        (fun e s' => wpAny (model prog w) (A.deeper (envOf qual scope L' f cdv)) (leaving (envOf qual scope L' f cdv) e) (fun _ s'' => R (.error e) s'') (fun e' s'' => R (.error e') s'') s')
        { s with heap := h₁, toks := s.toks + binds.length })
    (hck : cs.kind = .function) (hco : scope.isCoroutine = false) (hgen : scope.isGenerator = false) (hk : scope.kind = .function)
    (hcell : ∀ x ∈ scope.names, x.2 ≠ .cell) : codeR (model prog w) A (.call (.ref f) args) R s := by
  have X := X₀.keeps F.keep
  refine codeR_call_function (fd := fnOf name qual params body scope dV kV doc pm an cdv ct) (body := body) hroom (X _ _ ho) rfl hco hgen rfl (codeRec_of X hcd) (hbind _ _ _ _ ?_)
  refine wpAny_newFunctionEnv hcell hloc (fun h₁ hns hsb => ⟨(T.nolimit.keeps F.keep).fresh _ hsb, codeR_func ?_⟩) hk
  have hk₁ : ∀ b o, s.heap.get? b = some o → h₁.get? b = some o := fun b o e => hsb.extBut b o (Nat.ne_of_lt (Heap.lt_size e)) (Heap.get?_push_of_some _ e)
  obtain ⟨oL, es, ep, hLg, hLd, hN, hNs, st, B₂⟩ := kts_enter B F N hA hck
  have hfr : ∀ b ∈ [envOf cn cs L a ccd].filterMap (·.frame), b = L := fun b hb => by
    rcases kts_mem (outer := []) hb with q | q
    · exact q
    · simp at q
  refine wpR_mono (h _ s.heap.objs.size h₁ ⟨hN _ hLg, st, F.above⟩ ⟨hns, fun b o e => hk₁ b o (of_hideAll _ e), Nat.le_of_eq (hideAll_size _ _)⟩
    (fun q hq => ⟨hk₁ _ _ (N q hq).1, Nat.ne_of_lt (Heap.lt_size (N q hq).1), hideAll_none _ (List.mem_map_of_mem hq)⟩) B₂ (X₀.keeps st) (T.keeps st) (fun b hb => by
      rw [hfr b hb]; exact ⟨oL, es, ep, hLg, hLd⟩)) (fun fl s' hl => ?_) fun _ _ y => y
  obtain ⟨g', L', m', news', T', F', N', k⟩ := hl
  have nL₀ : h₀.get? L = none := kts_self F
  obtain ⟨sl, hs⟩ := T'.up hLg
  refine k ⟨hNs sl _ (F'.keep _ _ hs), fun b o e => F'.keep b o (T'.other b o (st b o e) (fun q => by
    rw [hfr b q, nL₀] at e; cases e)), F.above⟩ fun q hq => ⟨(N' q hq).1, fun z => ?_, ?_⟩
  · have := (N' q hq).2.2
    rw [z, hs] at this; cases this
  · cases z : h₀.get? q.1 with
    | none => rfl
    | some o =>
      obtain ⟨sl', hs'⟩ := T'.up (st _ _ z)
      have := (N' q hq).2.2
      rw [hs'] at this
      cases this
theorem defSR (B : Below A₀ base outer h₀) (F : Fr h₀ L s.heap m) (X₀ : K.In h₀) (N : News h₀ L s.heap news) (T : Top p loose mean mg mb h₀) (XB : K.In base) (TB : Top p loose mean mg mb base) (D : KtsDicts (outer.filterMap (·.frame)) h₀)
    (T0 : KtsTurn (outer.filterMap (·.frame)) g₀ h₀) (hA : A.frames = some (envOf cn cs L a ccd :: outer))
    (ho : K.lookup f = some ⟨oc, od, .func (fnOf name qual params body scope dV kV doc pm an cdv ct), osl⟩) (hcd : codeIn K cdv qual = true) (hroom : A.depth < recursionLimit)
    (hbind : BindsTo s (fnOf name qual params body scope dV kV doc pm an cdv ct) args binds) (hloc : ∀ y ∈ binds, scope.names.lookup y.1 = some .local)
    (h : ∀ g L' h₁, Fr h₀ L g m → Fr g L' h₁ (fun y => binds.reverse.lookup y) → News g L' h₁ news → Below A base (envOf cn cs L a ccd :: outer) g → K.In g → Top p loose mean mg mb g → KtsDicts ((envOf cn cs L a ccd :: outer).filterMap (·.frame)) g →
      wpR (model prog w) (A.deeper (envOf qual scope L' f cdv)) (execs body (envOf qual scope L' f cdv))
        (fun fl s' => LeaveS ((envOf cn cs L a ccd :: outer).filterMap (·.frame)) A₀ base outer K p loose mean mg mb g₀ h₀ L m g R (match fl with | .ret v => v | _ => .none) s')
        (fun e s' => wpAny (model prog w) (A.deeper (envOf qual scope L' f cdv)) (leaving (envOf qual scope L' f cdv) e) (fun _ s'' => R (.error e) s'') (fun e' s'' => R (.error e') s'') s')
        { s with heap := h₁, toks := s.toks + binds.length })
    (hck : cs.kind = .function) (hco : scope.isCoroutine = false) (hgen : scope.isGenerator = false) (hk : scope.kind = .function)
    (hcell : ∀ x ∈ scope.names, x.2 ≠ .cell) : codeR (model prog w) A (.call (.ref f) args) R s := by
  have X := X₀.keeps F.keep
  refine codeR_call_function (fd := fnOf name qual params body scope dV kV doc pm an cdv ct) (body := body) hroom (X _ _ ho) rfl hco hgen rfl (codeRec_of X hcd) (hbind _ _ _ _ ?_)
  refine wpAny_newFunctionEnv hcell hloc (fun h₁ hns hsb => ⟨(T.nolimit.keeps F.keep).fresh _ hsb, codeR_func ?_⟩) hk
  have hk₁ : ∀ b o, s.heap.get? b = some o → h₁.get? b = some o := fun b o e => hsb.extBut b o (Nat.ne_of_lt (Heap.lt_size e)) (Heap.get?_push_of_some _ e)
  obtain ⟨oL, es, ep, hLg, hLd, hN, hNs, st, B₂⟩ := kts_enter B F N hA hck
  refine wpR_mono (h _ s.heap.objs.size h₁ ⟨hN _ hLg, st, F.above⟩ ⟨hns, fun b o e => hk₁ b o (of_hideAll _ e), Nat.le_of_eq (hideAll_size _ _)⟩
    (fun q hq => ⟨hk₁ _ _ (N q hq).1, Nat.ne_of_lt (Heap.lt_size (N q hq).1), hideAll_none _ (List.mem_map_of_mem hq)⟩) B₂ (X₀.keeps st) (T.keeps st) (fun b hb => by
      rcases kts_mem hb with q | q
      · rw [q]; exact ⟨oL, es, ep, hLg, hLd⟩
      · obtain ⟨o, es', n', ho', hd'⟩ := D b q
        exact ⟨o, es', n', st b o ho', hd'⟩)) (fun fl s' hl => ?_) fun _ _ y => y
  have nL₀ : h₀.get? L = none := kts_self F
  rcases hl with ⟨L', m', news', F', N', k⟩ | ⟨g', L', m', news', T', F', N', k⟩
  · refine k ⟨hN _ (F'.keep _ _ hLg), fun b o e => F'.keep b o (st b o e), F.above⟩ fun q hq => ⟨(N' q hq).1, fun z => ?_, ?_⟩
    · have := (N' q hq).2.2
      rw [z, hLg] at this; cases this
    · cases z : h₀.get? q.1 with
      | none => rfl
      | some o =>
        have := (N' q hq).2.2
        rw [st _ _ z] at this; cases this
  · obtain ⟨sl, hs⟩ := T'.up hLg
    obtain ⟨T₁, S₁⟩ := kts_turn_at (h := s'.heap) (fs := outer.filterMap (·.frame)) (g := h₀)
      (fun b hb => by
        obtain ⟨_, o, ho', _⟩ := B.frames.mem hb
        exact ⟨o, ho'⟩)
      (fun b o e nmem => F'.keep b o (T'.other b o (st b o e) (fun q => by
        rcases kts_mem q with z | z
        · rw [z, nL₀] at e; cases e
        · exact nmem z)))
      (fun b o e hm => by
        obtain ⟨sl', hs'⟩ := T'.up (st b o e)
        exact ⟨sl', F'.keep _ _ hs'⟩)
    have B₃ : Below A₀ base outer (ktsHeap s'.heap (outer.filterMap (·.frame)) h₀) := ⟨B.stack, fun b o e => T₁.other b o (B.stays b o e) (fun hm => by
      rw [(B.frames.mem hm).1] at e; cases e), B.frames.of_keeps fun b o e _ => by
        obtain ⟨sl', hs'⟩ := T₁.up e
        exact ⟨_, hs', rfl⟩⟩
    refine k _ (T0.trans T₁) ⟨hNs sl _ (F'.keep _ _ hs), S₁, by rw [T₁.size]; exact F.above⟩ (fun q hq => ⟨(N' q hq).1, fun z => ?_, ?_⟩) B₃ (XB.keeps B₃.stays) (TB.keeps B₃.stays) (D.turn T₁)
    · have := (N' q hq).2.2
      rw [z, hs] at this; cases this
    · refine T₁.none_ _ ?_
      cases z : h₀.get? q.1 with
      | none => rfl
      | some o =>
        obtain ⟨sl', hs'⟩ := T'.up (st _ _ z)
        have := (N' q hq).2.2
        rw [hs'] at this; cases this
end
end Mine
end
section -- MR
open PySem PySem.W PySem.Calls PyProof.Rows
set_option maxRecDepth 100000
set_option linter.unusedVariables false
namespace Mine
section
variable {prog : Program} {w : World} {A : Around} {E : Value → Shared → Prop} {s : Shared} {env : Env}
theorem Expr_R {e : Expr} {pos : Pos} {Q : Flow → Shared → Prop} (h : wpR (model prog w) A (eval e env) (fun _ => Q .next) E s)
    (hi : interactive env = false := by rfl) (hs : swapsWith e none pos.line env = pure false := by rfl) :
    wpR (model prog w) A (exec (.Expr e pos) env) Q E s := by
  rw [exec_Expr env e pos hi hs]
  exact wpR_bindA (wpAny_standAt (wpR_bind (wpR_mono h (fun v s' h' => wpR_any (wpAny_dropValue h')) fun _ _ x => x)))
/-- o.name(e), the method a built-in one -/
theorem Method1_R {o e : Expr} {name : Str} {apos pos : Pos} {pl : Sem Bool} {Q : Value → Shared → Prop}
    (h : wpAny (model prog w) A (eval o env) (fun ov s₁ => wpAny (model prog w) A (getMethod ov name pl) (fun fx s₂ => ∃ id, fx.1 = .builtin id ∧
      wpR (model prog w) A (eval e env) (fun v s₃ => wpAny (model prog w) A (call (.builtin id) (fx.2 ++ [v])) Q E s₃) E s₂) E s₁) E s)
    (he : eval (.Call (.Attribute o name apos) [e] [] pos) env = (do
      let ov ← eval o env
      standAt apos.atName
      let (f, first) ← holding [ov] (getMethod ov name pl)
      callWith pos f first (backTo pos (starEach [e] env)) []) := by rfl)
    (hst : backTo pos (starEach [e] env) = [(false, eval e env)] := by rfl) :
    wpR (model prog w) A (eval (.Call (.Attribute o name apos) [e] [] pos) env) Q E s := by
  rw [he, hst]
  refine wpR_bindA (wpAny_mono h (fun ov s₁ h₁ => wpR_bindA (wpAny_standAt (wpR_bindA (wpAny_holding (wpAny_mono h₁ (fun fx s₂ h₂ => ?_) fun _ _ x => x))))) fun _ _ x => x)
  obtain ⟨f, first⟩ := fx
  obtain ⟨id, rfl, h₃⟩ := h₂
  dsimp only
  unfold callWith
  refine wpR_bind (wpR_holding ?_)
  unfold evalArgs
  show wpR _ A (spliced [(false, eval e env)] >>= fun p => (pure (p, none)) >>= _) _ _ s₂
  refine wpR_bind ?_
  rw [spliced]
  refine wpR_bind (wpR_mono h₃ (fun v s₃ h₄ => ?_) fun _ _ x => x)
  simp only [Bool.false_eq_true, if_false]
  refine wpR_bindA (wpAny_pure (wpR_bindA (wpAny_holding (wpAny_pure (wpR_pure ?_)))))
  refine wpR_bindA (wpAny_pure ?_)
  refine wpR_holding ?_
  refine wpR_bindA (wpAny_pure (wpR_bindA (wpAny_pure (wpR_pure ?_))))
  refine wpR_bindA (wpAny_standAt ?_)
  refine wpR_bindA (wpAny_pure ?_)
  exact wpR_bind (wpR_any (wpAny_mono (by simpa using h₄) (fun r s₂ hr => wpR_bindA (wpAny_holding (wpAny_point (wpR_pure hr)))) fun _ _ x => x))
end
end Mine
end
section -- CE
open PySem PySem.W PySem.Calls PyProof.Rows
set_option maxRecDepth 100000
set_option linter.unusedVariables false
namespace Mine
section
variable {prog : Program} {w : World} {A A₀ : Around} {E Q : Value → Shared → Prop} {s : Shared} {K : Frag} {L : Addr} {h₀ base : Heap} {m mg mb : Str → Option Value} {own rest : List (Addr × Obj)} {p : Program} {loose : List Str} {mean : ExcName → Option Value}
theorem enter_ownC {env : Env} {outer : List Env} {name qual : Str} {params : Arguments} {body : List Stmt} {scope : Scope} {dV kV doc pm cdv ct oc : Value} {an od : Option Addr} {osl : Array (Option Value)} {f : Addr} {vs : List Value} {kw : List (Str × Value)} {binds : List (Str × Value)} {Post : Value → List (Addr × Obj) → Prop}
    (B : Below A₀ base outer h₀) (F : Fr h₀ L s.heap m) (X₀ : K.In h₀) (N : News h₀ L s.heap (own ++ rest)) (T : Top p loose mean mg mb h₀) (hdis : ∀ p ∈ rest, ∀ q ∈ own, p.1 ≠ q.1) (hA : A.frames = some (env :: outer)) (hf : env.frame = some L) (hke : env.scope.kind = .function)
    (ho : K.lookup f = some ⟨oc, od, .func (fnOf name qual params body scope dV kV doc pm an cdv ct), osl⟩) (hcd : codeIn K cdv qual = true) (hroom : A.depth < recursionLimit)
    (hbind : BindsTo s (fnOf name qual params body scope dV kV doc pm an cdv ct) ⟨vs, kw⟩ binds) (hkind : (binds.all fun y => scope.names.lookup y.1 == some .local || scope.names.lookup y.1 == some .cell) = true)
    (ret : ∀ r own' h' tk', Post r own' → Fr h₀ L h' m → News h₀ L h' (own' ++ rest) → (∀ p ∈ rest, ∀ q ∈ own', p.1 ≠ q.1) → Q r { s with heap := h', toks := tk' })
    (h : ∀ g L' h₁ tk cells, Fr g L' h₁ (bindL (envOfC qual scope L' f cdv).kindOf binds fun _ => none) → News g L' h₁ (cells ++ own) → CellsAre (bindC (envOfC qual scope L' f cdv).kindOf binds fun _ => none) (cellsFrom (L' + 1) scope.names []) cells →
      Below A base (env :: outer) g → K.In g → Top p loose mean mg mb g → (∀ p ∈ own, p.1 < L') →
      wpAny (model prog w) (A.deeper (envOfC qual scope L' f cdv)) (execs body (envOfC qual scope L' f cdv))
        (fun fl s' => Left g L' Post s (match fl with | .ret v => v | _ => .none) s')
        (fun e s' => wpAny (model prog w) (A.deeper (envOfC qual scope L' f cdv)) (leaving (envOfC qual scope L' f cdv) e) (fun _ s'' => E e s'') (fun e' s'' => E e' s'') s')
        { s with heap := h₁, toks := tk })
    (hco : scope.isCoroutine = false) (hgen : scope.isGenerator = false) (hk : scope.kind = .function)
    (hnd : ((cellsFrom 0 scope.names []).map (·.1)).Nodup) : wpAny (model prog w) A (call (.ref f) vs kw) Q E s := by
  refine wpAny_call ?_
  have N1 : News h₀ L s.heap own := fun p hp => N p (List.mem_append_left _ hp)
  obtain ⟨FG, BG, st, lv⟩ := groundX (R := fun r s' => match r with | .ok (.ret v) => Q v s' | .ok _ => False | .error e => E e s') B F N1 hA hf hke
  refine codeAny_call_function (fd := fnOf name qual params body scope dV kV doc pm an cdv ct) (body := body) hroom ((X₀.keeps F.keep) _ _ ho) rfl hco hgen rfl (codeRec_of (X₀.keeps F.keep) hcd) (hbind _ _ _ _ ?_)
  refine wpAny_newFunctionEnv_cells hk (kindsX hkind _) fun env' he s' x => ?_
  subst he
  refine ⟨(T.nolimit.keeps F.keep).keeps x.toInCall.keep, codeAny_func ?_⟩
  obtain ⟨h₁, tk, rfl, _⟩ := x.done
  have hk₁ := x.toInCall.keep
  obtain ⟨cells, NC, Y⟩ := Cl.news (h₀ := s.heap) (Nat.le_refl _) fun n c hm => ⟨x.cell n c (lookup_of_mem_nodup (cellsFrom_names scope.names 0 (s.heap.objs.size + 1) [] [] rfl ▸ hnd) hm), x.above n c hm⟩
  refine wpAny_mono (h _ s.heap.objs.size h₁ tk cells ⟨x.toInCall.ns, fun b o e => hk₁ b o (of_hideAll _ e), Nat.le_of_eq (hideAll_size _ _)⟩ (fun p hp => ?_) Y BG (X₀.keeps st) (T.keeps st) (fun p hp => Heap.lt_size (N1 p hp).1)) (fun fl s' hl => lv _ _ ?_) fun _ _ y => y
  · rcases List.mem_append.mp hp with hp | hp
    · refine ⟨(NC p hp).1, (NC p hp).2.1, ?_⟩
      cases q : (hideAll s.heap (own.map (·.1))).get? p.1 with
      | none => rfl
      | some o => have := of_hideAll _ q; rw [(NC p hp).2.2] at this; cases this
    · exact ⟨hk₁ _ _ (N1 p hp).1, Nat.ne_of_lt (Heap.lt_size (N1 p hp).1), hideAll_none _ (List.mem_map_of_mem hp)⟩
  obtain ⟨m', own', h', tk', rfl, F', N', hp⟩ := hl
  refine ⟨_, m', own', F', N', fun F2 N2 => ?_⟩
  have hr : ∀ p ∈ rest, (hideAll s.heap (own.map (·.1))).get? p.1 = some p.2 := fun p hp => hideAll_get _ (N p (List.mem_append_right _ hp)).1 (fun q => by
    obtain ⟨q, hq, e⟩ := List.mem_map.mp q
    exact hdis p hp q hq e.symm)
  refine ret _ own' h' tk' hp F2 (fun p hp => ?_) (fun p hp q hq e => ?_)
  · rcases List.mem_append.mp hp with hp | hp
    · exact N2 p hp
    · exact ⟨F'.keep _ _ (hr p hp), (N p (List.mem_append_right _ hp)).2⟩
  · have := (N' q hq).2.2
    rw [← e, hr p hp] at this
    cases this
theorem enter_ownRC {env : Env} {outer : List Env} {name qual : Str} {params : Arguments} {body : List Stmt} {scope : Scope} {dV kV doc pm cdv ct oc : Value} {an od : Option Addr} {osl : Array (Option Value)} {f : Addr} {vs : List Value} {kw : List (Str × Value)} {binds : List (Str × Value)} {Post : Value → List (Addr × Obj) → Prop}
    (B : Below A₀ base outer h₀) (F : Fr h₀ L s.heap m) (X₀ : K.In h₀) (N : News h₀ L s.heap (own ++ rest)) (T : Top p loose mean mg mb h₀) (hdis : ∀ p ∈ rest, ∀ q ∈ own, p.1 ≠ q.1) (hA : A.frames = some (env :: outer)) (hf : env.frame = some L) (hke : env.scope.kind = .function)
    (ho : K.lookup f = some ⟨oc, od, .func (fnOf name qual params body scope dV kV doc pm an cdv ct), osl⟩) (hcd : codeIn K cdv qual = true) (hroom : A.depth < recursionLimit)
    (hbind : BindsTo s (fnOf name qual params body scope dV kV doc pm an cdv ct) ⟨vs, kw⟩ binds) (hkind : (binds.all fun y => scope.names.lookup y.1 == some .local || scope.names.lookup y.1 == some .cell) = true)
    (ret : ∀ r own' h' tk', Post r own' → Fr h₀ L h' m → News h₀ L h' (own' ++ rest) → (∀ p ∈ rest, ∀ q ∈ own', p.1 ≠ q.1) → Q r { s with heap := h', toks := tk' })
    (h : ∀ g L' h₁ tk cells, Fr g L' h₁ (bindL (envOfC qual scope L' f cdv).kindOf binds fun _ => none) → News g L' h₁ (cells ++ own) → CellsAre (bindC (envOfC qual scope L' f cdv).kindOf binds fun _ => none) (cellsFrom (L' + 1) scope.names []) cells →
      Below A base (env :: outer) g → K.In g → Top p loose mean mg mb g → (∀ p ∈ own, p.1 < L') →
      wpR (model prog w) (A.deeper (envOfC qual scope L' f cdv)) (execs body (envOfC qual scope L' f cdv))
        (fun fl s' => Left g L' Post s (match fl with | .ret v => v | _ => .none) s')
        (fun e s' => wpAny (model prog w) (A.deeper (envOfC qual scope L' f cdv)) (leaving (envOfC qual scope L' f cdv) e) (fun _ s'' => E e s'') (fun e' s'' => E e' s'') s')
        { s with heap := h₁, toks := tk })
    (hco : scope.isCoroutine = false) (hgen : scope.isGenerator = false) (hk : scope.kind = .function)
    (hnd : ((cellsFrom 0 scope.names []).map (·.1)).Nodup) : wpR (model prog w) A (call (.ref f) vs kw) Q E s := by
  refine wpR_call ?_
  have N1 : News h₀ L s.heap own := fun p hp => N p (List.mem_append_left _ hp)
  obtain ⟨FG, BG, st, lv⟩ := groundX (R := fun r s' => match r with | .ok (.ret v) => Q v s' | .ok _ => False | .error e => E e s') B F N1 hA hf hke
  refine codeR_call_function (fd := fnOf name qual params body scope dV kV doc pm an cdv ct) (body := body) hroom ((X₀.keeps F.keep) _ _ ho) rfl hco hgen rfl (codeRec_of (X₀.keeps F.keep) hcd) (hbind _ _ _ _ ?_)
  refine wpAny_newFunctionEnv_cells hk (kindsX hkind _) fun env' he s' x => ?_
  subst he
  refine ⟨(T.nolimit.keeps F.keep).keeps x.toInCall.keep, codeR_func ?_⟩
  obtain ⟨h₁, tk, rfl, _⟩ := x.done
  have hk₁ := x.toInCall.keep
  obtain ⟨cells, NC, Y⟩ := Cl.news (h₀ := s.heap) (Nat.le_refl _) fun n c hm => ⟨x.cell n c (lookup_of_mem_nodup (cellsFrom_names scope.names 0 (s.heap.objs.size + 1) [] [] rfl ▸ hnd) hm), x.above n c hm⟩
  refine wpR_mono (h _ s.heap.objs.size h₁ tk cells ⟨x.toInCall.ns, fun b o e => hk₁ b o (of_hideAll _ e), Nat.le_of_eq (hideAll_size _ _)⟩ (fun p hp => ?_) Y BG (X₀.keeps st) (T.keeps st) (fun p hp => Heap.lt_size (N1 p hp).1)) (fun fl s' hl => lv _ _ ?_) fun _ _ y => y
  · rcases List.mem_append.mp hp with hp | hp
    · refine ⟨(NC p hp).1, (NC p hp).2.1, ?_⟩
      cases q : (hideAll s.heap (own.map (·.1))).get? p.1 with
      | none => rfl
      | some o => have := of_hideAll _ q; rw [(NC p hp).2.2] at this; cases this
    · exact ⟨hk₁ _ _ (N1 p hp).1, Nat.ne_of_lt (Heap.lt_size (N1 p hp).1), hideAll_none _ (List.mem_map_of_mem hp)⟩
  obtain ⟨m', own', h', tk', rfl, F', N', hp⟩ := hl
  refine ⟨_, m', own', F', N', fun F2 N2 => ?_⟩
  have hr : ∀ p ∈ rest, (hideAll s.heap (own.map (·.1))).get? p.1 = some p.2 := fun p hp => hideAll_get _ (N p (List.mem_append_right _ hp)).1 (fun q => by
    obtain ⟨q, hq, e⟩ := List.mem_map.mp q
    exact hdis p hp q hq e.symm)
  refine ret _ own' h' tk' hp F2 (fun p hp => ?_) (fun p hp q hq e => ?_)
  · rcases List.mem_append.mp hp with hp | hp
    · exact N2 p hp
    · exact ⟨F'.keep _ _ (hr p hp), (N p (List.mem_append_right _ hp)).2⟩
  · have := (N' q hq).2.2
    rw [← e, hr p hp] at this
    cases this
end
end Mine
end
section -- CE, further
open PySem PySem.W PySem.Calls PyProof.Rows
set_option maxRecDepth 100000
set_option linter.unusedVariables false
namespace Mine
end Mine
end
section -- Pure
/-! plain lists: chunks, rows laid in order -/
set_option linter.unusedVariables false
namespace Mine
def chunk (w r : Nat) (l : List Int) : List Int := (l.drop (r * w)).take w
/-- every row of acc is the row of l laid in order -/
def Lay (w : Nat) (l acc : List Int) : Prop :=
  acc.length = l.length ∧ ∀ r, (chunk w r acc).Perm (chunk w r l) ∧ (chunk w r acc).Pairwise (· ≤ ·)
theorem Lay.nil (w : Nat) : Lay w [] [] := ⟨rfl, fun r => by simp [chunk]⟩
theorem chunk_length (w r : Nat) (l : List Int) : (chunk w r l).length = min w (l.length - r * w) := by simp [chunk]
theorem min_room {a w n : Nat} (h : a + w ≤ n) : min w (n - a) = w := Nat.min_eq_left (Nat.le_sub_of_add_le (Nat.add_comm a w ▸ h))
theorem chunk_len {w r : Nat} {l : List Int} (h : r * w + w ≤ l.length) : (chunk w r l).length = w := (chunk_length w r l).trans (min_room h)
theorem chunk_getD {w r i : Nat} {l : List Int} (h : i < w) : (chunk w r l).getD i 0 = l.getD (r * w + i) 0 := by
  simp [chunk, List.getD_eq_getElem?_getD, List.getElem?_take, h]
theorem succ_le {w r q : Nat} (h : r < q) : r * w + w ≤ q * w := by
  have := Nat.mul_le_mul_right w h
  rwa [Nat.succ_mul] at this
theorem chunk_app_lt {w r q : Nat} {a b : List Int} (ha : a.length = q * w) (h : r < q) : chunk w r (a ++ b) = chunk w r a := by
  have h1 := succ_le (w := w) h
  unfold chunk
  rw [List.drop_append_of_le_length (ha ▸ Nat.le_trans (Nat.le_add_right _ _) h1), List.take_append_of_le_length (by rw [List.length_drop, ha]; exact Nat.le_sub_of_add_le (Nat.add_comm (r * w) w ▸ h1))]
theorem chunk_app_ge {w k q : Nat} {a b : List Int} (ha : a.length = q * w) : chunk w (q + k) (a ++ b) = chunk w k b := by
  unfold chunk
  rw [Nat.add_mul, ← List.drop_drop, List.drop_left' ha]
theorem chunk_over {w k : Nat} {b : List Int} (h : b.length ≤ w) : chunk w (k + 1) b = [] := by
  unfold chunk
  rw [List.drop_eq_nil_of_le (Nat.le_trans h (Nat.le_mul_of_pos_left w (Nat.succ_pos k))), List.take_nil]
theorem chunk_first {w : Nat} {b : List Int} (h : b.length ≤ w) : chunk w 0 b = b := by
  unfold chunk
  rw [Nat.zero_mul, List.drop_zero, List.take_of_length_le h]
theorem mem_take {a : Nat} {b : List Int} {y : Int} (h : y ∈ b.take a) : ∃ i, i < a ∧ i < b.length ∧ b.getD i 0 = y := by
  obtain ⟨i, hi, rfl⟩ := List.mem_iff_getElem.mp h
  rw [List.length_take] at hi
  have h1 := Nat.lt_of_lt_of_le hi (Nat.min_le_right _ _)
  exact ⟨i, Nat.lt_of_lt_of_le hi (Nat.min_le_left _ _), h1, by rw [List.getElem_take, List.getD_eq_getElem?_getD, List.getElem?_eq_getElem h1]; rfl⟩
theorem mem_drop {a : Nat} {b : List Int} {y : Int} (h : y ∈ b.drop a) : ∃ i, a + i < b.length ∧ b.getD (a + i) 0 = y := by
  obtain ⟨i, hi, rfl⟩ := List.mem_iff_getElem.mp h
  rw [List.length_drop] at hi
  have h1 := Nat.add_lt_of_lt_sub' hi
  exact ⟨i, h1, by rw [List.getElem_drop, List.getD_eq_getElem?_getD, List.getElem?_eq_getElem h1]; rfl⟩
theorem getD_right {a b : List Int} {c i : Nat} (ha : a.length = c) : (a ++ b).getD (c + i) 0 = b.getD i 0 := by
  rw [List.getD_eq_getElem?_getD, List.getElem?_append_right (ha ▸ Nat.le_add_right _ _), ha, Nat.add_sub_cancel_left, ← List.getD_eq_getElem?_getD]
theorem Lay.put {w q a : Nat} {A B A' B' : List Int} {x : Int} (hA : A.length = q * w) (hA' : A'.length = q * w) (h : Lay w (A' ++ B') (A ++ B)) (hw : B.length < w) (ha : a ≤ B.length)
    (h3 : ∀ i, i < a → i < B.length → B.getD i 0 ≤ x) (h4 : ∀ i, a + i < B.length → x < B.getD (a + i) 0) : Lay w (A' ++ (B' ++ [x])) (A ++ (B.take a ++ x :: B.drop a)) := by
  obtain ⟨hl, hr⟩ := h
  have hb : B.length = B'.length := by rw [List.length_append, List.length_append, hA, hA'] at hl; exact Nat.add_left_cancel hl
  have hC : (B.take a ++ x :: B.drop a).length = B.length + 1 := by
    rw [List.length_append, List.length_cons, List.length_take, List.length_drop, Nat.min_eq_left ha, ← Nat.add_assoc, Nat.add_sub_cancel' ha]
  have hD : (B' ++ [x]).length = B.length + 1 := by rw [List.length_append, hb]; rfl
  have e1 : (A ++ (B.take a ++ x :: B.drop a)).length = q * w + (B.length + 1) := List.length_append.trans (by rw [hA, hC])
  have e2 : (A' ++ (B' ++ [x])).length = q * w + (B.length + 1) := List.length_append.trans (by rw [hA', hD])
  refine ⟨e1.trans e2.symm, fun r => ?_⟩
  rcases Nat.lt_or_ge r q with hq | hq
  · have := hr r
    rw [chunk_app_lt hA hq, chunk_app_lt hA' hq] at this
    rw [chunk_app_lt hA hq, chunk_app_lt hA' hq]
    exact this
  · obtain ⟨k, rfl⟩ := Nat.exists_eq_add_of_le hq
    rw [chunk_app_ge hA, chunk_app_ge hA']
    cases k with
    | succ k => rw [chunk_over (hC ▸ hw), chunk_over (hD ▸ hw)]; exact ⟨.refl _, .nil⟩
    | zero =>
      have h0 := hr (q + 0)
      rw [chunk_app_ge hA, chunk_app_ge hA', chunk_first (Nat.le_of_lt hw), chunk_first (hb ▸ Nat.le_of_lt hw)] at h0
      rw [chunk_first (hC ▸ hw), chunk_first (hD ▸ hw)]
      obtain ⟨hp, hs⟩ := h0
      constructor
      · refine List.perm_middle.trans ?_
        rw [List.take_append_drop]
        exact (List.Perm.cons x hp).trans (List.perm_append_singleton x _).symm
      · rw [List.pairwise_append, List.pairwise_cons]
        refine ⟨hs.sublist (List.take_sublist _ _), ⟨fun y hy => ?_, hs.sublist (List.drop_sublist _ _)⟩, fun y hy z hz => ?_⟩
        · obtain ⟨i, hi, rfl⟩ := mem_drop hy
          exact Int.le_of_lt (h4 i hi)
        · obtain ⟨i, hi, hi', rfl⟩ := mem_take hy
          have hyx := h3 i hi hi'
          rcases List.mem_cons.mp hz with rfl | hz
          · exact hyx
          · obtain ⟨j, hj, rfl⟩ := mem_drop hz
            exact Int.le_trans hyx (Int.le_of_lt (h4 j hj))
theorem Lay.step {w p : Nat} {l acc : List Int} {x : Int} (hw : 0 < w) (h : Lay w l acc) (h1 : acc.length - acc.length % w ≤ p) (h2 : p ≤ acc.length)
    (h3 : ∀ i, acc.length - acc.length % w ≤ i → i < p → acc.getD i 0 ≤ x) (h4 : ∀ i, p ≤ i → i < acc.length → x < acc.getD i 0) :
    Lay w (l ++ [x]) (acc.take p ++ x :: acc.drop p) := by
  have hdm := Nat.div_add_mod acc.length w
  have hml := Nat.mod_lt acc.length hw
  have hc : acc.length - acc.length % w = acc.length / w * w := by rw [Nat.mul_comm]; exact Nat.sub_eq_of_eq_add hdm.symm
  rw [hc] at h1 h3
  generalize acc.length / w = q at *
  have hcl : q * w ≤ acc.length := Nat.le_trans h1 h2
  have hcl' : q * w ≤ l.length := h.1 ▸ hcl
  obtain ⟨a, rfl⟩ := Nat.exists_eq_add_of_le h1
  have hA : (acc.take (q * w)).length = q * w := by rw [List.length_take, Nat.min_eq_left hcl]
  have hA' : (l.take (q * w)).length = q * w := by rw [List.length_take, Nat.min_eq_left hcl']
  have hB : (acc.drop (q * w)).length = acc.length % w := by rw [List.length_drop]; exact Nat.sub_eq_of_eq_add (by rw [Nat.add_comm, Nat.mul_comm]; exact hdm.symm)
  have hg : ∀ i, acc.getD (q * w + i) 0 = (acc.drop (q * w)).getD i 0 := fun i => by
    have := getD_right (b := acc.drop (q * w)) (i := i) hA
    rwa [List.take_append_drop] at this
  have := Lay.put (q := q) (w := w) (a := a) (A := acc.take (q * w)) (B := acc.drop (q * w)) (A' := l.take (q * w)) (B' := l.drop (q * w)) (x := x) hA hA'
    (by rw [List.take_append_drop, List.take_append_drop]; exact h) (hB ▸ hml) (by rw [List.length_drop]; exact Nat.le_sub_of_add_le (Nat.add_comm a (q * w) ▸ h2))
    (fun i hi _ => hg i ▸ h3 _ (Nat.le_add_right _ _) (Nat.add_lt_add_left hi _))
    (fun i hi => by rw [← hg, ← Nat.add_assoc]; exact h4 _ (Nat.le_add_right _ _) (by rw [List.length_drop] at hi; rw [Nat.add_assoc]; exact Nat.add_lt_of_lt_sub' hi))
  rw [← List.append_assoc, List.take_append_drop, ← List.append_assoc, ← List.take_add, List.drop_drop] at this
  exact this
theorem chunk_succ (w r : Nat) (l : List Int) : chunk w (r + 1) l = chunk w r (l.drop w) := by
  unfold chunk
  rw [List.drop_drop]
  congr 2
  rw [Nat.add_mul, Nat.one_mul, Nat.add_comm]
theorem chunk_zero (w : Nat) (l : List Int) : chunk w 0 l = l.take w := by simp [chunk]
theorem Lay.perm {w : Nat} (hw : 0 < w) : ∀ (n : Nat) (l acc : List Int), l.length ≤ n → Lay w l acc → acc.Perm l
  | 0, l, acc, hn, h => by
    have e1 : l.length = 0 := Nat.le_zero.mp hn
    rw [List.eq_nil_of_length_eq_zero e1, List.eq_nil_of_length_eq_zero (h.1.trans e1)]
  | n + 1, l, acc, hn, h => by
    rcases Nat.eq_zero_or_pos l.length with h0 | h0
    · rw [List.eq_nil_of_length_eq_zero h0, List.eq_nil_of_length_eq_zero (h.1.trans h0)]
    · rw [← List.take_append_drop w l, ← List.take_append_drop w acc]
      have p0 := (h.2 0).1
      rw [chunk_zero, chunk_zero] at p0
      refine p0.append (Lay.perm hw n _ _ (by rw [List.length_drop]; exact Nat.sub_le_of_le_add (Nat.le_trans hn (Nat.add_le_add_left hw n))) ⟨by rw [List.length_drop, List.length_drop, h.1], fun r => ?_⟩)
      rw [← chunk_succ, ← chunk_succ]
      exact h.2 (r + 1)
end Mine
end
section -- BY
open PySem PySem.W PySem.Calls PyProof.Rows
set_option maxRecDepth 100000
set_option linter.unusedVariables false
namespace Mine
theorem by_split : splitId "bytes.__len__" = some ("bytes", "__len__") := by decide +kernel
theorem by_sub : isSubtype (.type "bytes") (.type "bytes") = pure true := by rw [isSubtype_type]; kernel_rfl
theorem ints_of_items {b : Array UInt8} {acc : Array Value} (h : ItemsOf (fun i v => ∃ c u, b[i]? = some c ∧ v = Value.int (c.toNat : Int) u) acc b.size) : IntsAre acc.toList (KBw.bInts b) := by
  have key : ∀ (l : List UInt8) (vs : List Value), vs.length = l.length → (∀ (j : Nat) (v : Value), vs[j]? = some v → ∃ (c : UInt8) (u : Tok), l[j]? = some c ∧ v = Value.int (c.toNat : Int) u) → IntsAre vs (l.map fun c => (c.toNat : Int)) := by
    intro l
    induction l with
    | nil => intro vs h1 _; cases vs with | nil => exact .nil | cons v vs => simp at h1
    | cons c l ih =>
      intro vs h1 h2
      cases vs with
      | nil => simp at h1
      | cons v vs =>
        obtain ⟨c', u, e1, e2⟩ := h2 0 v rfl
        simp at e1; subst e1; subst e2
        exact .cons _ _ (ih vs (by simpa using h1) fun j v hj => by simpa using h2 (j + 1) v (by simpa using hj))
  exact key b.toList acc.toList (by simpa using h.1) fun j v hj => by simpa using h.2 j v (by simpa using hj)
section
variable {prog : Program} {w : World} {A : Around} {E : Value → Shared → Prop} {s : Shared} {R : Result → Shared → Prop} {b : Array UInt8} {t : Tok}
theorem hint_bytes {Q : Bool → Shared → Prop} (h : Q false s) : wpAny (model prog w) A (Builtin.List.listLengthHint (.bytes b t)) Q E s := by
  unfold Builtin.List.listLengthHint
  refine wpAny_bind (wpAny_specialOf (typeIs_bytes s b t) FB.slot_bytes_len.lookup ?_)
  dsimp only
  rw [by_split]
  dsimp only
  refine wpAny_bind (wpAny_isInstance (typeIs_bytes s b t) by_sub ?_)
  refine bm_if_false rfl ?_
  refine bm_if_true (by decide +kernel) ?_
  exact wpAny_bind (wpAny_typeOf (typeIs_bytes s b t) (wpAny_pure h))
theorem extend_bytes {S : Addr} {res : Value} {c₀ : Nat} (hh : A.handled = none) (hS : s.heap.get? S = some { cls := .type "list", data := .seq #[] c₀ }) (hz : b.size ≤ sizeLine)
    (hR : ∀ h' tk vs' c', (∀ a o, a ≠ S → s.heap.get? a = some o → h'.get? a = some o) → h'.get? S = some (listOf (List.toArray vs') c') → IntsAre vs' (KBw.bInts b) → R (.ok (.ret res)) { s with heap := h', toks := tk }) :
    wpAny (model prog w) A.in1 (Builtin.List.listExtendWith (.ref S) (.bytes b t) res)
      (fun fin s' => match fin with | .done f => R (.ok f) s' | .again c' => c'.quiet = true ∧ codeAny (model prog w) A c' R s') (fun e s' => R (.error e) s') s := by
  unfold Builtin.List.listExtendWith
  refine wpAny_bind (wpAny_typeOf (typeIs_bytes s b t) ?_)
  refine bm_if_false (by rfl) ?_
  refine wpAny_bind (KBw.pyIter_bytes ?_)
  refine wpAny_bind (wpAny_holding (hint_bytes ?_))
  refine bm_if_false (by decide +kernel) ?_
  have hlt : S < s.heap.objs.size := Heap.lt_size hS
  have W := (KBw.walks (prog := prog) (w := w) (A := A.in1) hh s.heap.objs.size b t).toS
  refine wpAny_pure ⟨plainId_quiet F.plain_extend_loop _, codeAny_extend_loopS W hz S (by simp; exact Nat.ne_of_lt hlt) _ b.size 0 _ _ _ rfl (Nat.zero_le _) ⟨_, Heap.get?_push_size _ rfl, rfl, rfl⟩ (Heap.get?_push_of_some _ hS) (ItemsOf.nil _) fun s' acc' c' hm hS' hacc => ?_⟩
  obtain ⟨hp, gg, dd, tk, os⟩ := s'
  obtain ⟨m1, m2, m3, m4, m5⟩ := hm
  dsimp only at m1 m2 m3 m4 m5 hS'
  subst m2; subst m3; subst m4
  refine hR hp tk acc'.toList c' (fun a o ha e => m1 a o ?_ (Heap.get?_push_of_some _ e)) (by rw [Array.toArray_toList]; exact hS') (ints_of_items hacc)
  intro hmem
  rcases List.mem_cons.mp hmem with h | h
  · exact ha h
  · rw [List.mem_singleton] at h
    subst h
    exact Nat.lt_irrefl _ (Heap.lt_size e)
theorem collect_bytes {Q : List Value → Shared → Prop} (hh : A.handled = none) (hz : b.size ≤ sizeLine)
    (h : ∀ h' tk vs', (∀ a o, s.heap.get? a = some o → h'.get? a = some o) → s.heap.objs.size < h'.objs.size → IntsAre vs' (KBw.bInts b) → Q vs' { s with heap := h', toks := tk }) :
    wpAny (model prog w) A (collect (.bytes b t)) Q E s := by
  unfold collect
  refine wpAny_bind (wpAny_runValue (codeAny_builtin F.entry_proto_collect ?_))
  rw [Around.under_plainId F.plain_proto_collect _]
  show wpAny _ A.in1 (newList [] >>= fun l => again (.builtin "list.__iadd__" ⟨[l, .bytes b t], []⟩)) _ _ s
  refine wpAny_bind (wpAny_newObj_type ?_)
  refine wpAny_pure ⟨plainId_quiet F.plain_list_iadd _, codeAny_builtin F.entry_list_iadd ?_⟩
  rw [Around.under_plainId F.plain_list_iadd _]
  show wpAny _ A.in1 (Builtin.List.listExtendWith (.ref s.heap.objs.size) (.bytes b t) (.ref s.heap.objs.size)) _ _ _
  have hS₁ : (s.heap.push { cls := .type "list", data := .seq ([] : List Value).toArray }).get? s.heap.objs.size = some { cls := .type "list", data := .seq #[] 0 } := Heap.get?_push_size _ rfl
  refine extend_bytes (R := fun r s' => match r with
    | .ok (.ret v) => wpAny (model prog w) A (match v with
      | .ref a => (do match (← load a).data with | .seq xs _ => pure xs.toList | _ => unsupported "internal:collect")
      | _ => unsupported "internal:collect") Q E s'
    | .ok _ => False
    | .error e => E e s') (s := { s with heap := s.heap.push { cls := .type "list", data := .seq ([] : List Value).toArray } }) hh hS₁ hz fun h' tk vs' c' hk hS hI => ?_
  show wpAny _ A (load s.heap.objs.size >>= _) _ _ _
  refine wpAny_bind (wpAny_load hS ?_)
  refine wpAny_pure ?_
  exact h h' tk vs' (fun a o e => hk a o (Nat.ne_of_lt (Heap.lt_size e)) (Heap.get?_push_of_some _ e)) (Heap.lt_size hS) hI
theorem sorted_bytes {h₀ : Heap} {L : Addr} {m : Str → Option Value} {news : List (Addr × Obj)} {ks : List Int} {Q : Value → Shared → Prop} (F : Fr h₀ L s.heap m) (N : News h₀ L s.heap news) (hh : A.handled = none) (hb : KBw.bInts b = ks) (h64 : ks.length < 64)
    (h : ∀ D h' tk vs' ns' e, Fr h₀ L h' m → News h₀ L h' ((D, listOf (List.toArray vs') e) :: news) → (∀ p ∈ news, p.1 < D) → IntsAre vs' ns' → ns'.Perm ks → ns'.Pairwise (· ≤ ·) → Q (.ref D) { s with heap := h', toks := tk }) :
    wpAny (model prog w) A (call (.builtin "sorted") [.bytes b t]) Q E s := by
  have hbs : b.size = ks.length := by rw [← hb, KBw.ints_length]
  refine Calls.call_function_entry kind_sorted plain_sorted entry_sorted (args_sorted1 _) ?_
  unfold Builtin.«sorted»
  refine wpAny_bind (m := checkCount "sorted" 1 1 _) (wpAny_pure ?_)
  refine wpAny_bind (collect_bytes hh (by rw [sizeLine_eq]; omega) fun h1 tk vs hk hlt hI => ?_)
  rw [hb] at hI
  have hvl := IntsAre.length hI
  refine wpAny_bind (wpAny_newList ?_ (by rw [sizeLine_eq]; omega))
  have hoL : (h1.push (seqObj "list" vs.toArray 0)).get? h1.objs.size = some (seqObj "list" vs.toArray 0) := Heap.get?_push_size _ rfl
  show wpAny _ _ _ _ _ { s with heap := h1.push (seqObj "list" vs.toArray 0), toks := tk }
  refine wpAny_bind (wpAny_holding (wpAny_call_entry slot_list_sort ⟨_, hoL, rfl⟩ entry_list_sort (list_sort_tree hoL hI (by omega) fun out ns' a1 a2 a3 => ⟨_, rfl, ?_⟩) (args_list_sort _)))
  obtain ⟨e, he⟩ := sortedHeap_at (out := out) hoL
  have old : ∀ a o, s.heap.get? a = some o → (sortedHeap (h1.push (seqObj "list" vs.toArray 0)) h1.objs.size vs out).get? a = some o := fun a o ea => by
    have e1 := hk a o ea
    have l1 := Heap.lt_size e1
    rw [sortedHeap_old (Nat.ne_of_lt l1) (by rw [size_push']; exact Nat.lt_succ_of_lt l1)]
    exact Heap.get?_push_of_some _ e1
  exact wpAny_pure ⟨_, rfl, h _ _ _ out.toList ns' e (F.kept old) (N.kept_cons F old (Nat.le_of_lt hlt) (by rw [Array.toArray_toList]; exact he)) (fun p hp => Nat.lt_trans (Heap.lt_size (N p hp).1) hlt) a1 a2 a3⟩
theorem list_bytes {h₀ : Heap} {L : Addr} {m : Str → Option Value} {news : List (Addr × Obj)} {ks : List Int} {Q : Value → Shared → Prop} (F : Fr h₀ L s.heap m) (N : News h₀ L s.heap news) (hh : A.handled = none) (hb : KBw.bInts b = ks) (hk : ks.length < 1000)
    (h : ∀ D h' tk vs' e, Fr h₀ L h' m → News h₀ L h' ((D, listOf (List.toArray vs') e) :: news) → (∀ p ∈ news, p.1 < D) → IntsAre vs' ks → Q (.ref D) { s with heap := h', toks := tk }) :
    wpAny (model prog w) A (call (.type "list") [.bytes b t]) Q E s := by
  have hbs : b.size = ks.length := by rw [← hb, KBw.ints_length]
  refine callType_codes (Q₁ := fun obj s₁ => obj = .ref s.heap.objs.size ∧ s₁ = { s with heap := s.heap.push { cls := .type "list", data := .seq #[] } }) PySem.F.called_list (PySem.F.typeCall_list_1 _) PySem.F.entry_list_init
    (code_list_new _ ⟨rfl, rfl⟩) fun obj s₁ h₁ => ?_
  obtain ⟨rfl, rfl⟩ := h₁
  have hS : (s.heap.push { cls := .type "list", data := .seq #[] }).get? s.heap.objs.size = some { cls := .type "list", data := .seq #[] } := Heap.get?_push_size _ rfl
  refine ⟨⟨_, hS, rfl⟩, PySem.F.args_list_init_2 _ _, ?_⟩
  show wpAny _ A.in1.in1 (do let old ← Builtin.List.listItems (.ref s.heap.objs.size); Builtin.List.listUpdate (.ref s.heap.objs.size) (fun _ => #[]); letGo old.toList.reverse; Builtin.List.listExtendWith (.ref s.heap.objs.size) (.bytes b t) .none) _ _ _
  refine wpAny_bind ?_
  unfold Builtin.List.listItems
  refine wpAny_bind (wpAny_seqItems hS rfl (wpAny_pure ?_))
  show wpAny _ A.in1.in1 (updateSeq s.heap.objs.size (fun _ => #[]) >>= fun _ => letGo (#[] : Array Value).toList.reverse >>= fun _ => Builtin.List.listExtendWith (.ref s.heap.objs.size) (.bytes b t) .none) _ _ _
  refine wpAny_bind (wpAny_updateSeq hS rfl ?_)
  have hS₂ := Heap.get?_update_self (Obj.mapSeq (fun _ => (#[] : Array Value))) hS rfl
  refine wpAny_bind (wpAny_letGo ?_)
  refine extend_bytes (R := wants (fun r s₂ => r = .none ∧ Q (.ref s.heap.objs.size) s₂) E) (s := Shared.mk _ _ _ _ _) hh hS₂ (by rw [sizeLine_eq]; omega) fun h' tk vs' c' hk' hS' hI => ⟨rfl, ?_⟩
  have old : ∀ a o, s.heap.get? a = some o → h'.get? a = some o := fun a o e => by
    have hne : a ≠ s.heap.objs.size := Nat.ne_of_lt (Heap.lt_size e)
    exact hk' a o hne ((Heap.get?_update_other _ _ (Ne.symm hne)).trans (Heap.get?_push_of_some _ e))
  rw [hb] at hI
  exact h _ h' tk vs' c' (F.kept old) (N.kept_cons F old (Nat.le_refl _) hS') (fun p hp => Heap.lt_size (N p hp).1) hI
theorem min_bytes {h₀ : Heap} {L : Addr} {m : Str → Option Value} {news : List (Addr × Obj)} {ks : List Int} {Q : Value → Shared → Prop} (F : Fr h₀ L s.heap m) (N : News h₀ L s.heap news) (hh : A.handled = none) (hb : KBw.bInts b = ks) (hk : 0 < ks.length)
    (h : ∀ h' tk v tv, Fr h₀ L h' m → News h₀ L h' news → v ∈ ks → (∀ x ∈ ks, v ≤ x) → Q (.int v tv) { s with heap := h', toks := tk }) :
    wpAny (model prog w) A (call (.builtin "min") [.bytes b t]) Q E s := by
  have hbs : b.size = ks.length := by rw [← hb, KBw.ints_length]
  have hval : ∀ i v, (∃ c u, b[i]? = some c ∧ v = Value.int (c.toNat : Int) u) → ∃ t, v = .int (ks.getD i 0) t := by
    rintro i v ⟨c, u, h1, rfl⟩
    have := KBw.ints_get h1
    rw [hb] at this
    exact ⟨u, by rw [List.getD_eq_getElem?_getD, this]; rfl⟩
  refine call_min_walk (KBw.pyIter_bytes ⟨_, _, _, _, _, _, _, rfl, KBw.walks (A := A.in1) hh _ b t, ⟨_, Heap.get?_push_size _ rfl, rfl, rfl⟩, ?_, by omega, CmpOf.ints_lt (fun i => ks.getD i 0) hval, ?_⟩)
  · intro b hb; rw [List.mem_singleton.mp hb]; rw [Heap.size_push]; exact Nat.lt_succ_self _
  · intro v h' tk hP hold
    obtain ⟨tv, rfl⟩ := hval _ _ hP
    have old : ∀ a o, s.heap.get? a = some o → h'.get? a = some o := fun a o e => hold a o (by rw [List.mem_singleton]; exact Nat.ne_of_lt (Heap.lt_size e)) (Heap.get?_push_of_some _ e)
    obtain ⟨a1, a2⟩ := argBest_lt (fun i => ks.getD i 0) (b.size - 1)
    refine h h' tk _ tv (F.kept old) (N.grown old) ?_ fun x hx => ?_
    · rw [List.getD_eq_getElem?_getD, List.getElem?_eq_getElem (by omega)]
      exact List.getElem_mem _
    · obtain ⟨i, hi, rfl⟩ := List.mem_iff_getElem.mp hx
      have := a2 i (by omega)
      rw [List.getD_eq_getElem?_getD (l := ks) (i := i), List.getElem?_eq_getElem hi] at this
      exact this
theorem max_bytes {h₀ : Heap} {L : Addr} {m : Str → Option Value} {news : List (Addr × Obj)} {ks : List Int} {Q : Value → Shared → Prop} (F : Fr h₀ L s.heap m) (N : News h₀ L s.heap news) (hh : A.handled = none) (hb : KBw.bInts b = ks) (hk : 0 < ks.length)
    (h : ∀ h' tk v tv, Fr h₀ L h' m → News h₀ L h' news → v ∈ ks → (∀ x ∈ ks, x ≤ v) → Q (.int v tv) { s with heap := h', toks := tk }) :
    wpAny (model prog w) A (call (.builtin "max") [.bytes b t]) Q E s := by
  have hbs : b.size = ks.length := by rw [← hb, KBw.ints_length]
  have hval : ∀ i v, (∃ c u, b[i]? = some c ∧ v = Value.int (c.toNat : Int) u) → ∃ t, v = .int (ks.getD i 0) t := by
    rintro i v ⟨c, u, h1, rfl⟩
    have := KBw.ints_get h1
    rw [hb] at this
    exact ⟨u, by rw [List.getD_eq_getElem?_getD, this]; rfl⟩
  refine call_max_walk (KBw.pyIter_bytes ⟨_, _, _, _, _, _, _, rfl, KBw.walks (A := A.in1) hh _ b t, ⟨_, Heap.get?_push_size _ rfl, rfl, rfl⟩, ?_, by omega, CmpOf.ints_gt (fun i => ks.getD i 0) hval, ?_⟩)
  · intro b hb; rw [List.mem_singleton.mp hb]; rw [Heap.size_push]; exact Nat.lt_succ_self _
  · intro v h' tk hP hold
    obtain ⟨tv, rfl⟩ := hval _ _ hP
    have old : ∀ a o, s.heap.get? a = some o → h'.get? a = some o := fun a o e => hold a o (by rw [List.mem_singleton]; exact Nat.ne_of_lt (Heap.lt_size e)) (Heap.get?_push_of_some _ e)
    obtain ⟨a1, a2⟩ := argBest_gt (fun i => ks.getD i 0) (b.size - 1)
    refine h h' tk _ tv (F.kept old) (N.grown old) ?_ fun x hx => ?_
    · rw [List.getD_eq_getElem?_getD, List.getElem?_eq_getElem (by omega)]
      exact List.getElem_mem _
    · obtain ⟨i, hi, rfl⟩ := List.mem_iff_getElem.mp hx
      have := a2 i (by omega)
      rw [List.getD_eq_getElem?_getD (l := ks) (i := i), List.getElem?_eq_getElem hi] at this
      exact this
end
end Mine
end
section -- LC
open PySem PySem.W PySem.Calls PyProof.Rows
set_option maxRecDepth 100000
set_option linter.unusedVariables false
namespace Mine
open PyProof.Rows.LCg
section
variable {prog : Program} {w : World} {A : Around} {E : Value → Shared → Prop} {s : Shared} {h₀ : Heap} {L : Addr} {m : Str → Option Value} {env : Env}
/-- the turns of a comprehension, by what holds between them -/
theorem comp_all {elt : Expr} {x : Str} {scope : Scope} {cl : List (Str × Addr)} {S : List (Addr × Obj) → Prop} {P : Nat → Value → Prop} {Fin : List Value → List (Addr × Obj) → Prop} {n : Nat} {news : List (Addr × Obj)} (T : Nat → List Value → Prop) (h0 : T 0 []) (hS : S news)
    (turn : ∀ i ys, i < n → T i ys → ∀ v I oI C oC D m₂ h tk (E' : Value → Shared → Prop), P i v → NsObj oC m₂ → m₂ x = some v → Fr h₀ L h m → News h₀ L h ((I, oI) :: (C, oC) :: (D, lst ys) :: news) → Off3 I C D news → ((@Ne Nat I C) ∧ (@Ne Nat I D) ∧ (@Ne Nat C D)) →
      wpAny (model prog w) A (eval elt (compEnvC scope cl C env)) (fun y s₂ => ∃ h' tk', s₂ = { s with heap := h', toks := tk' } ∧ Fr h₀ L h' m ∧ News h₀ L h' ((I, oI) :: (C, oC) :: (D, lst ys) :: news) ∧ T (i + 1) (ys ++ [y])) E' { s with heap := h, toks := tk })
    (fin : ∀ ys, T n ys → Fin ys news) : CompRest prog w A h₀ L m env elt x scope cl s S P Fin n 0 [] news := by
  have main : ∀ k i ys, i + k = n → T i ys → CompRest prog w A h₀ L m env elt x scope cl s S P Fin k i ys news := by
    intro k
    induction k with
    | zero => intro i ys e hT; have : i = n := by omega
              subst this; exact fin ys hT
    | succ k ih =>
      intro i ys e hT
      refine CompRest.succ ?_
      intro v I oI C oC D m₂ h tk E' hP hC hx F N off ne
      refine wpAny_mono (turn i ys (by omega) hT v I oI C oC D m₂ h tk E' hP hC hx F N off ne) ?_ (fun _ _ x => x)
      rintro y s₂ ⟨h', tk', rfl, F', N', hT'⟩
      exact ⟨h', tk', news, rfl, F', N', off, hS, ih (i + 1) (ys ++ [y]) (by omega) hT'⟩
  exact main n 0 [] (by omega) h0
theorem ListComp_W {elt iter : Expr} {x : Str} {px : Pos} {scope : Scope} {cl : List (Str × Addr)} {pos : Pos} {Q : Value → Shared → Prop} (F₀ : Fr h₀ L s.heap m)
    (hclos : closureFor scope env = pure cl) (hcell : ∀ y ∈ scope.names, y.2 ≠ .cell) (hkind : scope.kind = .function)
    (hnames : ∀ y ∈ scope.names, y.2 = .local → scope.names.lookup y.1 = some .local) (hx : scope.names.lookup x = some .local)
    (h : wpAny (model prog w) A (eval iter env) (fun xv s₁ =>
      (∃ b t news, xv = .bytes b t ∧ A.handled = none ∧ Fr h₀ L s₁.heap m ∧ News h₀ L s₁.heap news ∧ b.size ≤ sizeLine ∧
        ∀ s₂ : Shared, (∃ h, s₂ = { s₁ with heap := h }) → CompRest prog w A h₀ L m env elt x scope cl s₂ (fun _ => True) (fun i v => ∃ c u, b[i]? = some c ∧ v = .int (c.toNat : Int) u) (FinE h₀ L m s₂ Q) b.size 0 [] news) ∨
      (∃ r a b c t u v n news, xv = .ref r ∧ A.handled = none ∧ Fr h₀ L s₁.heap m ∧ News h₀ L s₁.heap news ∧ IsRange s₁.heap r a b c t u v ∧ Builtin.Range.small a b c = true ∧ Builtin.Range.rangeSize a b c = ((n : Nat) : Int) ∧ n ≤ sizeLine ∧
        ∀ s₂ : Shared, (∃ h, s₂ = { s₁ with heap := h }) → CompRest prog w A h₀ L m env elt x scope cl s₂ (fun _ => True) (fun i v => ∃ t, v = .int (a + (i : Int) * c) t) (FinE h₀ L m s₂ Q) n 0 [] news)) E s)
    (hs : ∀ x, foldedSetIterable iter env x = pure x := by intro _; rfl) :
    wpAny (model prog w) A (eval (.ListComp elt [⟨.Name x px, iter, [], 0⟩] scope pos) env) Q E s := by
  rw [eval_ListComp]
  refine wpAny_comprehension_free (use := none) rfl hs hclos hkind hnames (wpAny_mono h (fun xv s₁ h₁ => ?_) fun _ _ e => e)
  rcases h₁ with ⟨b, t, news, rfl, hh, F, N, hsz, R⟩ | ⟨r, a, b, c, t, u, v, n, news, rfl, hh, F, N, hr, hsm, hn, hsz, R⟩
  · refine KBw.pyIter_bytes ?_
    refine block_U (KBw.walks hh s₁.heap.objs.size b t) hsz (fun i h st => by obtain ⟨o, e, _⟩ := st; exact ⟨o, e⟩) ?_ hcell hkind hx ⟨_, Heap.get?_push_size _ rfl, rfl, rfl⟩ (fun b hb => ?_)
      (F.keeps fun _ _ e => Heap.get?_push_of_some _ e) (N.grown fun _ _ e => Heap.get?_push_of_some _ e) (Nat.ne_of_lt F.ns.lt) (next_is_new F) (fun p hp => Nat.ne_of_lt (Heap.lt_size (N p hp).1)) trivial (R _ ⟨_, rfl⟩) ?_
    · intro i h h' o nw st e e' _ _ _
      obtain ⟨o', e2, r⟩ := st
      rw [e] at e2; cases e2
      exact ⟨o, e', r⟩
    · rw [List.mem_singleton.mp hb]
      show s₁.heap.objs.size < (s₁.heap.push _).objs.size
      rw [Heap.size_push]; exact Nat.lt_succ_self _
    · intro D C h tk m' ys news' F' N' o1 hn hC₀ hD₀ hCL hDL hCD offC fin
      refine ⟨m', hn, fun h'' hs'' => fin D h'' tk (F'.change hs'' hCL hC₀) (fun p hp => ?_) o1⟩
      refine ⟨hs''.extBut _ _ ?_ (N' p hp).1, (N' p hp).2⟩
      rcases List.mem_cons.mp hp with rfl | hp
      · exact Ne.symm hCD
      · exact offC p hp
  · refine wpAny_pyIter_range hr hsm ?_
    refine block_U (Walks.range hh _ a c n) hsz (fun i h st => ⟨_, st⟩) ?_ hcell hkind hx (by show IsRangeIter _ _ _ _ _; rw [hn]; simpa using Heap.get?_push_size _ rfl) (fun b hb => ?_)
      (F.keeps fun _ _ e => Heap.get?_push_of_some _ e) (N.grown fun _ _ e => Heap.get?_push_of_some _ e) (Nat.ne_of_lt F.ns.lt) (next_is_new F) (fun p hp => Nat.ne_of_lt (Heap.lt_size (N p hp).1)) trivial (R _ ⟨_, rfl⟩) ?_
    · intro i h h' o nw st e e' _ _ _
      have st' : h.get? _ = some _ := st
      show h'.get? _ = some _
      rw [e', ← e]; exact st'
    · rw [List.mem_singleton.mp hb]
      show s₁.heap.objs.size < (s₁.heap.push _).objs.size
      rw [Heap.size_push]; exact Nat.lt_succ_self _
    · intro D C h tk m' ys news' F' N' o1 hn hC₀ hD₀ hCL hDL hCD offC fin
      refine ⟨m', hn, fun h'' hs'' => fin D h'' tk (F'.change hs'' hCL hC₀) (fun p hp => ?_) o1⟩
      refine ⟨hs''.extBut _ _ ?_ (N' p hp).1, (N' p hp).2⟩
      rcases List.mem_cons.mp hp with rfl | hp
      · exact Ne.symm hCD
      · exact offC p hp
theorem Assign_ListComp_S {elt iter : Expr} {x y : Str} {px py : Pos} {scope : Scope} {cl : List (Str × Addr)} {pos spos : Pos} {Q : Flow → Shared → Prop} (F₀ : Fr h₀ L s.heap m) (hLe : env.locals = L)
    (hsw : swapsWith (.ListComp elt [⟨.Name x px, iter, [], 0⟩] scope pos) (some (.Name y py)) spos.line env = pure true)
    (hclos : closureFor scope env = pure cl) (hcell : ∀ z ∈ scope.names, z.2 ≠ .cell) (hkind : scope.kind = .function)
    (hnames : ∀ z ∈ scope.names, z.2 = .local → scope.names.lookup z.1 = some .local) (hx : scope.names.lookup x = some .local)
    (hy : env.kindOf y = some .local) (hp : (env.scope.kind == .class || (env.scope.kind == .module && env.locals != env.globals)) = false)
    (h : wpAny (model prog w) A (eval iter env) (fun xv s₁ =>
      (∃ r a b c t u v n news, xv = .ref r ∧ A.handled = none ∧ Fr h₀ L s₁.heap m ∧ News h₀ L s₁.heap news ∧ IsRange s₁.heap r a b c t u v ∧ Builtin.Range.small a b c = true ∧ Builtin.Range.rangeSize a b c = ((n : Nat) : Int) ∧ n ≤ sizeLine ∧
        ∀ s₂ : Shared, (∃ h, s₂ = { s₁ with heap := h }) → CompRest prog w A h₀ L m env elt x scope cl s₂ (fun _ => True) (fun i v => ∃ t, v = .int (a + (i : Int) * c) t) (FinA h₀ L m s₂ y Q) n 0 [] news)) E s)
    (hs : ∀ x, foldedSetIterable iter env x = pure x := by intro _; rfl) :
    wpAny (model prog w) A (exec (.Assign [.Name y py] (.ListComp elt [⟨.Name x px, iter, [], 0⟩] scope pos) spos) env) Q E s := by
  subst hLe
  rw [exec_Assign_Name_used _ _ _ _ hsw]
  refine wpAny_bind (wpAny_standAt (wpAny_bind ?_))
  show wpAny _ A (do let _ ← comprehension (.ListComp elt [⟨.Name x px, iter, [], 0⟩] scope pos) scope env _ (newList []) false (eval iter env) (some (assign (.Name y py) env))) _ _ s
  refine wpAny_bind (wpAny_mono (wpAny_comprehension_free (use := some (assign (.Name y py) env)) (Q := fun _ s' => Q .next s') rfl hs hclos hkind hnames
    (wpAny_mono h (fun xv s₁ h₁ => ?_) fun _ _ e => e)) (fun _ s' hq => wpAny_pure (wpAny_pure hq)) fun _ _ e => e)
  obtain ⟨r, a, b, c, t, u, v, n, news, rfl, hh, F, N, hr, hsm, hn, hsz, R⟩ := h₁
  refine wpAny_pyIter_range hr hsm ?_
  refine block_U (Walks.range hh _ a c n) hsz (fun i h st => ⟨_, st⟩) ?_ hcell hkind hx (by show IsRangeIter _ _ _ _ _; rw [hn]; simpa using Heap.get?_push_size _ rfl) (fun b hb => ?_)
      (F.keeps fun _ _ e => Heap.get?_push_of_some _ e) (N.grown fun _ _ e => Heap.get?_push_of_some _ e) (Nat.ne_of_lt F.ns.lt) (next_is_new F) (fun p hp => Nat.ne_of_lt (Heap.lt_size (N p hp).1)) trivial (R _ ⟨_, rfl⟩) ?_
  · intro i h h' o nw st e e' _ _ _
    have st' : h.get? _ = some _ := st
    show h'.get? _ = some _
    rw [e', ← e]; exact st'
  · rw [List.mem_singleton.mp hb]
    show s₁.heap.objs.size < (s₁.heap.push _).objs.size
    rw [Heap.size_push]; exact Nat.lt_succ_self _
  · intro D C h' tk m' ys news' F' N' o1 hn hC₀ hD₀ hCL hDL hCD offC fin
    show wpAny _ A (assign (.Name y py) env (.ref D)) _ _ _
    refine wpAny_assign_Name (wpAny_storeName_local hy F'.ns (fun h₂ hn₂ hs₂ => ?_) hp)
    have hL₀ : h₀.get? env.locals = none := Heap.get?_none_of_le F'.above
    have F₂ : Fr h₀ env.locals h₂ (fun z => if z = y then some (.ref D) else m z) := ⟨hn₂, fun b o e => hs₂.extBut b o (fun q => by rw [q, hL₀] at e; cases e) (F'.keep b o e), F'.above⟩
    refine ⟨m', hn.sameBut hs₂ hCL, fun h'' hs'' => fin D h'' _ (F₂.change hs'' hCL hC₀) (fun p hp => ?_) o1⟩
    have z : h₂.get? p.1 = some p.2 := hs₂.extBut _ _ (N' p hp).2.1 (N' p hp).1
    refine ⟨hs''.extBut _ _ ?_ z, (N' p hp).2⟩
    rcases List.mem_cons.mp hp with rfl | hp
    · exact Ne.symm hCD
    · exact offC p hp
end
end Mine
end
section -- LC, further
open PySem PySem.W PySem.Calls PyProof.Rows
set_option maxRecDepth 100000
set_option linter.unusedVariables false
namespace Mine
end Mine
end
section -- LT
open PySem PySem.W PySem.Calls PyProof.Rows
set_option maxRecDepth 100000
set_option linter.unusedVariables false
namespace Mine
open PyProof.Rows.LCg LCt
theorem ints_at {vs : List Value} {ns : List Int} (h : IntsAre vs ns) : ∀ {i : Nat} {v : Value}, vs[i]? = some v → ∃ t, v = .int (ns.getD i 0) t := by
  induction h with
  | nil => intro i v e; simp at e
  | cons n t h ih =>
    intro i v e
    cases i with
    | zero => simp at e; exact ⟨t, e.symm⟩
    | succ i => simp at e; simpa using ih e
theorem take_filter_succ (p : Int → Bool) (ns : List Int) (i : Nat) (hi : i < ns.length) : (ns.take (i + 1)).filter p = (ns.take i).filter p ++ (if p (ns.getD i 0) then [ns.getD i 0] else []) := by
  rw [List.take_add_one, List.getElem?_eq_getElem hi, List.filter_append, List.getD_eq_getElem?_getD, List.getElem?_eq_getElem hi]
  simp only [Option.toList_some, Option.getD_some]
  cases hp : p ns[i] <;> simp [hp]
section
variable {prog : Program} {w : World} {A : Around} {E : Value → Shared → Prop} {s : Shared} {h₀ : Heap} {L : Addr} {m : Str → Option Value} {env : Env}
/-- a comprehension that picks ints by a test -/
theorem comp_pick {ct elt : Expr} {x : Str} {scope : Scope} {cl : List (Str × Addr)} {Fin : List Value → List (Addr × Obj) → Prop} {its : List Value} {ns : List Int} {ax : Addr} {news : List (Addr × Obj)} (p : Int → Bool) (hI : IntsAre its ns) (hS : SrcAt h₀ ax its.toArray news)
    (turn : ∀ i t I oI C oC D ys m₂ h tk (E' : Value → Shared → Prop), i < ns.length → NsObj oC m₂ → m₂ x = some (.int (ns.getD i 0) t) → Fr h₀ L h m → News h₀ L h ((I, oI) :: (C, oC) :: (D, lst ys) :: news) → Off3 I C D news → ((@Ne Nat I C) ∧ (@Ne Nat I D) ∧ (@Ne Nat C D)) →
      wpAny (model prog w) A (isTrue ct (compEnvC scope cl C env) (eval ct (compEnvC scope cl C env))) (fun ok s' => ok = p (ns.getD i 0) ∧ ∃ h' tk', s' = { s with heap := h', toks := tk' } ∧ Fr h₀ L h' m ∧ News h₀ L h' ((I, oI) :: (C, oC) :: (D, lst ys) :: news)) E' { s with heap := h, toks := tk })
    (item : ∀ i t I oI C oC D ys m₂ h tk (E' : Value → Shared → Prop), i < ns.length → NsObj oC m₂ → m₂ x = some (.int (ns.getD i 0) t) → Fr h₀ L h m → News h₀ L h ((I, oI) :: (C, oC) :: (D, lst ys) :: news) → Off3 I C D news → ((@Ne Nat I C) ∧ (@Ne Nat I D) ∧ (@Ne Nat C D)) →
      wpAny (model prog w) A (eval elt (compEnvC scope cl C env)) (fun y s' => (∃ u, y = .int (ns.getD i 0) u) ∧ ∃ h' tk', s' = { s with heap := h', toks := tk' } ∧ Fr h₀ L h' m ∧ News h₀ L h' ((I, oI) :: (C, oC) :: (D, lst ys) :: news)) E' { s with heap := h, toks := tk })
    (fin : ∀ ys, IntsAre ys (ns.filter p) → Fin ys news) : CompRestT prog w A h₀ L m env ct elt x scope cl s (SrcAt h₀ ax its.toArray) (fun i v => its.toArray[i]? = some v) Fin its.toArray.size 0 [] news := by
  have hl := IntsAre.length hI
  have main : ∀ k i ys, i + k = ns.length → IntsAre ys ((ns.take i).filter p) → CompRestT prog w A h₀ L m env ct elt x scope cl s (SrcAt h₀ ax its.toArray) (fun i v => its.toArray[i]? = some v) Fin k i ys news := by
    intro k
    induction k with
    | zero =>
      intro i ys e hT
      refine CompRestT.zero (fin ys ?_)
      rw [List.take_of_length_le (by omega)] at hT
      exact hT
    | succ k ih =>
      intro i ys e hT
      have hi : i < ns.length := by omega
      refine CompRestT.succ ?_
      intro v I oI C oC D m₂ h tk E' hP hC hx F N off ne
      obtain ⟨t, rfl⟩ := ints_at hI (i := i) (v := v) (by simpa using hP)
      refine wpAny_mono (turn i t I oI C oC D ys m₂ h tk E' hi hC hx F N off ne) (fun ok s' q => ?_) fun _ _ x => x
      obtain ⟨rfl, h', tk', rfl, F', N'⟩ := q
      have hts := take_filter_succ p ns i hi
      cases hp : p (ns.getD i 0) with
      | true =>
        rw [if_pos rfl]
        rw [hp, if_pos rfl] at hts
        refine wpAny_mono (item i t I oI C oC D ys m₂ h' tk' E' hi hC hx F' N' off ne) (fun y s' q => ?_) fun _ _ x => x
        obtain ⟨⟨u, rfl⟩, h'', tk'', rfl, F'', N''⟩ := q
        exact ⟨h'', tk'', news, rfl, F'', N'', off, hS, ih (i + 1) (ys ++ [.int (ns.getD i 0) u]) (by omega) (by rw [hts]; exact hT.append (.cons _ _ .nil))⟩
      | false =>
        rw [if_neg (by simp)]
        rw [hp, if_neg (by simp), List.append_nil] at hts
        exact ⟨h', tk', news, rfl, F', N', off, hS, ih (i + 1) ys (by omega) (by rw [hts]; exact hT)⟩
  have e : its.toArray.size = ns.length := by simpa using hl
  rw [e]
  exact main ns.length 0 [] (by omega) .nil
end
end Mine
end
section -- JN
open PySem PySem.W PySem.Calls PyProof.Rows
set_option maxRecDepth 100000
set_option linter.unusedVariables false
namespace Mine
open Builtin in
theorem jn_take {b : Array UInt8} {t : Tok} {id : String} : Bytes.takeBufferQuiet? id (.bytes b t) 0 = pure (some (b, none)) := by
  unfold Bytes.takeBufferQuiet? Bytes.takeBuffer?
  rw [KBy.special_eq KBy.look_buffer, KBy.own_buffer]
  have h0 : ((0 : Int) == Bytes.fullReadOnly) = false := by decide +kernel
  rw [h0]
  show _ = _
  rw [show Bytes.buffer? id (.bytes b t) false = pure (some b) from KBy.buffer_eq]
  rfl
theorem jn_letGo {M : Model} {A : Around} {E : Value → Shared → Prop} {s : Shared} {keep : List Value} {Q : Unit → Shared → Prop} : ∀ (l : List (Array UInt8 × Tok)), Q () s → wpAny M A (Builtin.Bytes.joinLetGo (l.map fun p => (Value.bytes p.1 p.2, none)) keep) Q E s
  | [], h => wpAny_pure h
  | p :: l, h => by
    rw [List.map_cons, Builtin.Bytes.joinLetGo]
    · show wpAny M A (letGo _ _ >>= fun _ => _) Q E s
      exact wpAny_bind (wpAny_letGo (jn_letGo l h))
    · intro _ e; cases e
def bsum : List (Array UInt8 × Tok) → Nat
  | [] => 0
  | p :: l => p.1.size + bsum l
def bvals (l : List (Array UInt8 × Tok)) : List Value := l.map fun p => .bytes p.1 p.2
theorem bsum_fold (ps : List (Array UInt8 × Tok)) : ∀ k : Nat, (ps.map (·.1)).foldl (fun x1 x2 => x1 + x2.size) k = k + bsum ps := by
  induction ps with
  | nil => intro k; rfl
  | cons p ps ih => intro k; rw [List.map_cons, List.foldl_cons, ih]; simp [bsum]; omega
theorem joined_eq (ps : List (Array UInt8 × Tok)) : (Builtin.Bytes.joined #[] (ps.map (·.1))).toList = (ps.map fun p => p.1.toList).flatten := by
  have key : ∀ (l : List (Array UInt8)) (k : Nat) (acc : Array UInt8), ((l.zipIdx k).foldl (fun out (p, i) => (if i > 0 then out ++ (#[] : Array UInt8) else out) ++ p) acc).toList = acc.toList ++ (l.map fun p => p.toList).flatten := by
    intro l
    induction l with
    | nil => intro k acc; simp
    | cons p l ih =>
      intro k acc
      rw [List.zipIdx_cons, List.foldl_cons, ih]
      simp
  have := key (ps.map (·.1)) 0 #[]
  unfold Builtin.Bytes.joined
  rw [this, List.map_map]; rfl
theorem joined_size (ps : List (Array UInt8 × Tok)) : (Builtin.Bytes.joined #[] (ps.map (·.1))).size = bsum ps := by
  rw [← Array.length_toList, joined_eq]
  induction ps with
  | nil => rfl
  | cons p ps ih => simp [bsum] at ih ⊢; omega
theorem joined_ints (ps : List (Array UInt8 × Tok)) : KBw.bInts (Builtin.Bytes.joined #[] (ps.map (·.1))) = (ps.map fun p => KBw.bInts p.1).flatten := by
  show ((Builtin.Bytes.joined #[] (ps.map (·.1))).toList.map _) = _
  rw [joined_eq, List.map_flatten, List.map_map]; rfl
theorem jn_code {prog : Program} {w : World} {A : Around} {Q : Value → Shared → Prop} {E : Value → Shared → Prop} {s : Shared} {l : Addr} {n : Nat} {ps : List (Array UInt8 × Tok)} {t : Tok} (hS : s.heap.get? l = some (listOf (bvals ps).toArray n)) (h2 : 2 ≤ ps.length) (hz : bsum ps < 1000)
   (hQ : ∀ t k, Q (.bytes (Builtin.Bytes.joined #[] (ps.map (·.1))) t) { s with toks := k }) :
    wpAny (model prog w) A.in1 (Builtin.«bytes.join» ⟨[.bytes #[] t, .ref l], []⟩) (fun fin s' => ∃ v, fin = .done (.ret v) ∧ Q v s') E s := by
  have hT : s.TypeIs (.ref l) "list" := ⟨_, hS, rfl⟩
  unfold Builtin.«bytes.join» Builtin.Bytes.joinM
  show wpAny _ _ (Builtin.Bytes.joinItems (.ref l) >>= _) _ _ _
  unfold Builtin.Bytes.joinItems
  refine wpAny_bind (wpAny_bind (wpAny_typeOf hT ?_))
  refine bm_if_true (by decide) ?_
  refine wpAny_pure ?_
  refine wpAny_bind (wpAny_seqItems hS rfl ?_)
  have hlen : (bvals ps).length = ps.length := by simp [bvals]
  generalize hitems : (bvals ps).toArray = items
  dsimp only
  refine bm_if_true (by decide) ?_
  have hsz : ¬ items.size = 1 := by
    rw [← hitems]; simp; omega
  unfold Builtin.Bytes.joinM.match_1
  rw [dif_neg hsz]
  subst hitems
  dsimp only
  rw [Std.Legacy.Range.forIn_eq_forIn_range']
  simp only [Std.Legacy.Range.size, List.size_toArray, Nat.sub_zero, Nat.add_sub_cancel, Nat.div_one, hlen]
  refine wpAny_bind (wpAny_forIn_list _ (fun rest b s' => s' = s ∧ ∃ i, i ≤ ps.length ∧ rest = List.range' i (ps.length - i) ∧ b.1 = ((ps.take i).map (·.1)).toArray ∧ b.2 = (ps.take i).map fun p => (Value.bytes p.1 p.2, none)) _ ?_ ?_ _ _ ⟨rfl, 0, Nat.zero_le _, rfl, rfl, rfl⟩)
  · rintro i rest ⟨b1, b2⟩ s' ⟨rfl, j, hj, e1, e2, e3⟩
    dsimp only at e2 e3
    subst e2; subst e3
    have hjl : j < ps.length := by
      rcases Nat.lt_or_ge j ps.length with h | h
      · exact h
      · rw [show ps.length - j = 0 by omega] at e1; cases e1
    rw [show ps.length - j = (ps.length - (j + 1)) + 1 by omega, List.range'_succ] at e1
    injection e1 with e4 e5
    subst e4
    dsimp only
    refine wpAny_bind (wpAny_seqItems hS rfl ?_)
    dsimp only
    have hany : ((ps.take i).map fun p => (Value.bytes p.1 p.2, (none : Option Value))).any (fun x => x.fst.onHeap) = false := by
      rw [List.any_eq_false]; intro x hx; rw [List.mem_map] at hx; obtain ⟨p, _, rfl⟩ := hx; exact Bool.false_ne_true
    refine bm_if_false (by rw [hany]; rfl) ?_
    have hx : (bvals ps).toArray.getD i Value.none = .bytes ps[i].1 ps[i].2 := by simp [bvals, Array.getD, hjl]
    rw [hx]
    refine wpAny_bind (wpAny_holding (wpAny_of_eq jn_take ?_))
    dsimp only
    refine wpAny_bind (wpAny_seqItems hS rfl ?_)
    dsimp only
    refine bm_if_false (by simp [hlen]) ?_
    refine wpAny_pure ⟨rfl, i + 1, hjl, ?_, ?_, ?_⟩
    · rw [e5]
    · rw [List.take_succ_eq_append_getElem hjl, List.map_append]
      show Array.push _ _ = _
      rw [List.push_toArray]; rfl
    · rw [List.take_succ_eq_append_getElem hjl, List.map_append]; rfl
  · rintro ⟨b1, b2⟩ s' ⟨rfl, j, hj, e1, e2, e3⟩
    have hjl : j = ps.length := by
      have := congrArg List.length e1
      simp at this; omega
    subst hjl
    rw [List.take_length] at e2 e3
    dsimp only at e2 e3 ⊢
    subst e2; subst e3
    show wpAny _ _ (pure #[] >>= _) _ _ _
    refine wpAny_bind (wpAny_pure ?_)
    refine bm_if_false (KBy.tooLong_not ?_) ?_
    · rw [← Array.foldl_toList]
      show (ps.map (·.1)).foldl _ (0 * _) ≤ _
      rw [Nat.zero_mul, bsum_fold]; omega
    refine wpAny_bind (wpAny_mkBytes ?_ ?_)
    refine wpAny_bind (wpAny_holding (wpAny_point ?_))
    refine wpAny_bind (jn_letGo _ ?_)
    exact wpAny_pure ⟨_, rfl, hQ _ _⟩
    show (Builtin.Bytes.joined #[] (ps.map (·.1))).size ≤ _
    rw [joined_size, sizeLine_eq]; omega
theorem jn_look : Slot "bytes" "join" "bytes.join" :=
  .of (owner := "bytes") (n := "join") (by rw [typeLookup_type, builtinLookup_eq_fast]; kernel_rfl) (by decide +kernel) (by decide +kernel) (by decide +kernel)
    (by first | exact .inl (by decide +kernel) | exact .inr (by decide +kernel)) (by rw [isSubtype_type]; kernel_rfl)
theorem jn_type : typeOf (.builtin "bytes.join") = pure (.type "method_descriptor") := by show builtinType _ = _; rw [builtinType_eq_fast]; kernel_rfl
theorem jn_entry : entryFor table "bytes.join" = some Builtin.«bytes.join» := entryFor_of_tree (by kernel_rfl)
theorem jn_args (a b : Value) : argsOk "bytes.join" ⟨[a, b], []⟩ := by
  unfold argsOk; rw [signature?_of (id := "bytes.join") (n := ['n', 'i', 'o', 'j']) (o := ['s', 'e', 't', 'y', 'b']) (by kernel_rfl) FB.owner_bytes]; kernel_rfl
section
variable {prog : Program} {w : World} {A : Around} {E : Value → Shared → Prop} {s : Shared}
theorem jn_method {M : Model} {b : Array UInt8} {t : Tok} {pl : Sem Bool} {Q : Value × List Value → Shared → Prop} (h : Q (.builtin "bytes.join", [.bytes b t]) s) : wpAny M A (getMethod (.bytes b t) "join" pl) Q E s := by
  with_reducible exact KBd.method_of (.bytes b t) (typeIs_bytes _ _ _) jn_look jn_type KBd.noRef h
theorem jn_call {l : Addr} {n : Nat} {ps : List (Array UInt8 × Tok)} {t : Tok} {Q : Value → Shared → Prop} (hS : s.heap.get? l = some (listOf (bvals ps).toArray n)) (h2 : 2 ≤ ps.length) (hz : bsum ps < 1000)
   (hQ : ∀ b t k, KBw.bInts b = (ps.map fun p => KBw.bInts p.1).flatten → Q (.bytes b t) { s with toks := k }) :
    wpAny (model prog w) A (call (.builtin "bytes.join") [.bytes #[] t, .ref l]) Q E s := by
  refine wpAny_call_entry jn_look (typeIs_bytes _ _ _) jn_entry (jn_code hS h2 hz fun t k => hQ _ t k (joined_ints ps)) (jn_args _ _)
end
end Mine
end
section -- IA
open PySem PySem.W PySem.Calls PyProof.Rows
set_option maxRecDepth 100000
set_option linter.unusedVariables false
namespace Mine
theorem ia_look : typeLookup (.type "list") (dunderI "add") = pure (some (.builtin "list.__iadd__")) := by rw [typeLookup_type, builtinLookup_eq_fast]; kernel_rfl
theorem ia_noFill : fillsNumberSlot (.type "list") "add" = pure false := PySem.noFill_list_add
theorem ia_seq : seqSlot? (.type "list") (dunderI "add") = pure (some (.builtin "list.__iadd__")) := PySem.seqSlot_of ia_look (by decide +kernel)
theorem ia_notFills : fillsInplaceSlot (.type "list") "add" (Operator.Add == .Add) = pure false := by
  unfold fillsInplaceSlot
  show (typeLookup (.type "list") (dunderI "add") >>= fun fi => pure (fi.isSome && !isSeqSlot fi)) = pure false
  rw [ia_look]
  show (pure (true && !isSeqSlot (some (.builtin "list.__iadd__"))) : Sem Bool) = _
  rw [show isSeqSlot (some (.builtin "list.__iadd__")) = true by decide +kernel]; rfl
section
variable {prog : Program} {w : World} {A : Around} {E : Value → Shared → Prop} {s : Shared}
theorem iadd_to {a b : Value} {Q : Value → Shared → Prop} (ha : s.TypeIs a "list") (hb : s.TypeIs b "list") (hc : wpAny (model prog w) A (call (.builtin "list.__iadd__") [a, b]) Q E s) : wpAny (model prog w) A (inplaceOp .Add a b) Q E s := by
  unfold inplaceOp
  refine wpAny_holding ?_
  refine wpAny_bind (wpAny_typeOf ha (wpAny_bind (wpAny_of_eq ia_notFills ?_)))
  show wpAny _ A (if false = true then _ else _) Q E s
  rw [if_neg Bool.false_ne_true]
  refine wpAny_bind (wpAny_binaryOp1_none (nm := "add") ha hb ia_noFill ?_)
  refine wpAny_bind (wpAny_of_eq ia_seq ?_)
  exact wpAny_bind (wpAny_rule hc)
theorem iadd_K {h₀ : Heap} {L D b : Addr} {m : Str → Option Value} {news news' : List (Addr × Obj)} {l l2 : List Value} {n n2 : Nat} {Q : Value → Shared → Prop} (F : Fr h₀ L s.heap m) (N : News h₀ L s.heap news) (hb : (b, listOf l2.toArray n2) ∈ news) (hne : 0 < l2.length)
    (U : Upd D (listOf l.toArray n) (listOf (l ++ l2).toArray (n + 1)) news news') (hz : l.length + l2.length < 1000)
    (h : ∀ h', Fr h₀ L h' m → News h₀ L h' news' → Q (.ref D) { s with heap := h' }) : wpAny (model prog w) A (inplaceOp .Add (.ref D) (.ref b)) Q E s := by
  obtain ⟨pre, post, rfl, rfl, a, c⟩ := U.split
  have z := N (D, listOf l.toArray n) (List.mem_append.mpr (.inr (.head _)))
  have zb := N _ hb
  have hTa : s.TypeIs (.ref D) "list" := ⟨_, z.1, rfl⟩
  have hTb : s.TypeIs (.ref b) "list" := ⟨_, zb.1, rfl⟩
  refine iadd_to hTa hTb (wpAny_call_entry PySem.F.slot_list_iadd hTa PySem.F.entry_list_iadd ?_ (PySem.F.args_list_iadd_2 _ _))
  show wpAny _ _ (Builtin.List.listExtendWith (.ref D) (.ref b) (.ref D)) _ _ s
  unfold Builtin.List.listExtendWith
  refine wpAny_bind (wpAny_typeOf hTb ?_)
  have ht : (Value.type "list" == Value.type "list") = true := by rfl
  rw [if_pos (by rw [ht]; simp)]
  refine wpAny_bind (listItems_at zb.1 rfl ?_)
  refine wpAny_bind (listItems_at z.1 rfl ?_)
  rw [if_neg (by
    have e : Builtin.List.listTooLong (l.toArray.size + l2.toArray.size) = false := by
      unfold Builtin.List.listTooLong; rw [decide_eq_false_iff_not, sizeLine_eq]; simp; omega
    rw [e]; simp)]
  refine wpAny_bind (listUpdate_at z.1 rfl ?_ (by rw [sizeLine_eq]; simp; omega) (by rw [sizeLine_eq]; simp; omega))
  refine wpAny_pure ⟨_, rfl, h _ (F.change (Heap.SameBut.update ..) z.2.1 z.2.2) (kl_turn _ N a c ?_ ?_)⟩
  · simp
  · simp; intro e; rw [e] at hne; exact Nat.lt_irrefl _ hne
end
end Mine
end
section -- B1
open PySem PySem.W PySem.Calls PyProof.Rows
set_option linter.unusedVariables false
set_option maxRecDepth 100000
set_option maxHeartbeats 8000000
namespace Mine
theorem fdiv2 (n : Int) : 2 * n.fdiv 2 ≤ n ∧ n < 2 * n.fdiv 2 + 2 := by
  rw [Int.fdiv_eq_ediv_of_nonneg _ (by decide)]; omega
theorem mid_lo {a b : Int} (h : a < b) : a ≤ (a + b).fdiv 2 := by
  have := (fdiv2 (a + b)).2
  generalize (a + b).fdiv 2 = c at *
  omega
theorem mid_hi {a b : Int} (h : a < b) : (a + b).fdiv 2 < b := by
  have := (fdiv2 (a + b)).1
  generalize (a + b).fdiv 2 = c at *
  omega
theorem bisR_hi {ns : List Int} {x lo hi lo' hi' : Int} (h0 : 0 ≤ lo) (hs : ∀ i j : Nat, lo ≤ i → i < j → (j : Int) < hi → ns.getD i 0 ≤ ns.getD j 0) (p1 : lo ≤ lo') (p2 : lo' ≤ hi') (p3 : hi' ≤ hi)
    (p4 : ∀ i : Nat, lo ≤ i → i < lo' → ns.getD i 0 ≤ x) (p5 : ∀ i : Nat, hi' ≤ i → i < hi → x < ns.getD i 0) (hlt : lo' < hi') (hx : x < ns.getD ((lo' + hi').fdiv 2).toNat 0) :
    lo ≤ lo' ∧ lo' ≤ (lo' + hi').fdiv 2 ∧ (lo' + hi').fdiv 2 ≤ hi ∧ (∀ i : Nat, lo ≤ i → i < lo' → ns.getD i 0 ≤ x) ∧ (∀ i : Nat, (lo' + hi').fdiv 2 ≤ i → i < hi → x < ns.getD i 0) := by
  have m1 := mid_lo hlt
  have m2 := mid_hi hlt
  generalize (lo' + hi').fdiv 2 = c at *
  obtain ⟨n, rfl⟩ := Int.eq_ofNat_of_zero_le (Int.le_trans h0 (Int.le_trans p1 m1))
  refine ⟨p1, m1, Int.le_trans (Int.le_of_lt m2) p3, p4, fun i h1 h2 => ?_⟩
  rcases Nat.lt_or_eq_of_le (Int.ofNat_le.mp h1) with h3 | h3
  · exact Int.lt_of_lt_of_le hx (hs n i (Int.le_trans p1 m1) h3 h2)
  · exact h3 ▸ hx
theorem bisR_lo {ns : List Int} {x lo hi lo' hi' : Int} (h0 : 0 ≤ lo) (hs : ∀ i j : Nat, lo ≤ i → i < j → (j : Int) < hi → ns.getD i 0 ≤ ns.getD j 0) (p1 : lo ≤ lo') (p2 : lo' ≤ hi') (p3 : hi' ≤ hi)
    (p4 : ∀ i : Nat, lo ≤ i → i < lo' → ns.getD i 0 ≤ x) (p5 : ∀ i : Nat, hi' ≤ i → i < hi → x < ns.getD i 0) (hlt : lo' < hi') (hx : ¬ x < ns.getD ((lo' + hi').fdiv 2).toNat 0) :
    lo ≤ (lo' + hi').fdiv 2 + 1 ∧ (lo' + hi').fdiv 2 + 1 ≤ hi' ∧ hi' ≤ hi ∧ (∀ i : Nat, lo ≤ i → i < (lo' + hi').fdiv 2 + 1 → ns.getD i 0 ≤ x) ∧ (∀ i : Nat, hi' ≤ i → i < hi → x < ns.getD i 0) := by
  have m1 := mid_lo hlt
  have m2 := mid_hi hlt
  generalize (lo' + hi').fdiv 2 = c at *
  obtain ⟨n, rfl⟩ := Int.eq_ofNat_of_zero_le (Int.le_trans h0 (Int.le_trans p1 m1))
  have hx := Int.not_lt.mp hx
  refine ⟨Int.le_of_lt (Int.lt_add_one_of_le (Int.le_trans p1 m1)), m2, p3, fun i h1 h2 => ?_, p5⟩
  rcases Nat.lt_or_eq_of_le (Int.ofNat_le.mp (Int.le_of_lt_add_one h2)) with h3 | h3
  · exact Int.le_trans (hs i n h1 h3 (Int.lt_of_lt_of_le m2 p3)) hx
  · exact h3 ▸ hx
theorem bis_meas {lo' hi' : Int} (hlt : lo' < hi') : (((lo' + hi').fdiv 2) - lo').toNat < (hi' - lo').toNat ∧ (hi' - ((lo' + hi').fdiv 2 + 1)).toNat < (hi' - lo').toNat :=
  ⟨(Int.toNat_lt_toNat (Int.sub_pos_of_lt hlt)).mpr (Int.sub_lt_sub_right (mid_hi hlt) lo'), (Int.toNat_lt_toNat (Int.sub_pos_of_lt hlt)).mpr (Int.sub_lt_sub_left (Int.lt_add_one_of_le (mid_lo hlt)) hi')⟩
theorem bisR_c (w : World) (mean : ExcName → Option Value) (mg mb : Str → Option Value) (a : Addr) (its : List Value) (ns : List Int) (nn : Nat) (hI : IntsAre its ns) (hlen : ns.length < 1000) (x lo hi : Int) (t0 t1 t2 : Tok) (h0 : 0 ≤ lo) (h1 : lo ≤ hi) (h2 : hi ≤ ns.length)
   (hs : ∀ i j : Nat, lo ≤ i → i < j → (j : Int) < hi → ns.getD i 0 ≤ ns.getD j 0) :
   Claim w mean mg mb 2 39 [(a, listOf its.toArray nn)] [.ref a, .int x t0, .int lo t1, .int hi t2] [] (fun r own' => own' = [(a, listOf its.toArray nn)] ∧ ∃ k t, r = .int k t ∧ lo ≤ k ∧ k ≤ hi ∧ (∀ i : Nat, lo ≤ i → i < k → ns.getD i 0 ≤ x) ∧ (∀ i : Nat, k ≤ i → i < hi → x < ns.getD i 0)) := by
  unfold Claim
  k_fill
  w_top off
  intro dp un gd cn cs ca ccd cl outer A₀ base h₀ L m rest s Q E hB hF hK hN hT hk hdis hdp hun hret
  k_dflt (refine' enter_own (binds := [(Str.ofString "a", .ref a), (Str.ofString "x", .int x t0), (Str.ofString "lo", .int lo t1), (Str.ofString "hi", .int hi t2), (Str.ofString "key", .none)]) ?k1 ?k2 ?k3 ?k4 ?k5 ?kd ?kA ?kF ?kK ?k6 ?k7 ?k8 ?k9 ?kB ?kR ?_ ?c2 ?c3 ?c4 ?c5; (((case kA => exact rfl); (case kF => exact rfl); (case kK => assumption); (case k1 => k_asm); (case k2 => k_asm); (case k3 => k_asm); (case k4 => k_asm); (case k5 => k_asm); (case kd => assumption); (case k6 => k_is); (case k7 => k_is); (case k8 => first | exact room0 (by assumption) | ktr_room); (case k9 => first | exact BindsTo.of_eq rfl | exact kp_binds (by k_in) (fun _ => rfl)); (case c5 => decide); (case kB => exact locs rfl); (case c2 => exact rfl); (case c3 => exact rfl); (case c4 => exact rfl); (case kR => assumption))))
  intro g L' h' F' N' B' X' T' l'
  clear hret hB hF hK hN hT hdis
  try dsimp only
  refine hideA ?_
  intro Q0 hQ0
  try k_fold
  (repeat' ((fail_if_success (first | with_reducible show wpAny _ _ (PySem.exec (Stmt.Assign _ (Expr.ListComp _ _ _ _) _) _) _ _ _ | with_reducible show wpAny _ _ (PySem.eval (Expr.ListComp _ _ _ _) _) _ _ _ | with_reducible show wpAny _ _ (PySem.setItem _ _ _) _ _ _ | with_reducible show KswEnd _ _ _ _ _ _ _ _ _ _ _ _ | with_reducible show wpAny _ _ (PySem.call (Value.type "bytes") _ _) _ _ _ | with_reducible show wpAny _ _ (PySem.call (Value.ref _) _ _) _ _ _ | with_reducible show wpAny _ _ (exec (Stmt.While _ _ _ _) _) _ _ _ | with_reducible show wpAny _ _ (pyIter _) _ _ _)); (first | ((with_reducible show wpAny _ _ (PySem.execs (_ :: _) _) _ _ _); (first | ((first | with_reducible show wpAny _ _ _ _ _ (PySem.Shared.mk _ _ _ (_ + _) _) | with_reducible show wpAny _ _ _ _ _ (PySem.Shared.mk _ _ _ (PySem.Shared.toks _) _)); (try dsimp only); refine normG s rfl ?_; intro tkN8; (try clear tkN9); rename Nat => tkN9) | dsimp only)) | (k_unfold; (try dsimp only)) | (k_end; wrow_close) | walk1 | (dsimp only; walk1) | (leave1; walk_say "STEP leave1"; try dsimp only) | fail "no step")))
  refine ksw_while (σ := Int × Tok × Int × Tok) (fun _ => [(a, listOf its.toArray nn)]) (fun c => [(Str.ofString "lo", .int c.1 c.2.1), (Str.ofString "hi", .int c.2.2.1 c.2.2.2)]) (fun _ => True) [Str.ofString "mid"]
    (fun c => lo ≤ c.1 ∧ c.1 ≤ c.2.2.1 ∧ c.2.2.1 ≤ hi ∧ (∀ i : Nat, lo ≤ i → i < c.1 → ns.getD i 0 ≤ x) ∧ (∀ i : Nat, c.2.2.1 ≤ i → i < hi → x < ns.getD i 0)) (fun c => (c.2.2.1 - c.1).toNat) (lo, t1, hi, t2) (by k_asm) (by k_asm) trivial (by kst_all) ?_ ?_
  · refine ⟨Int.le_refl _, h1, Int.le_refl _, fun i h3 h4 => ?_, fun i h3 h4 => ?_⟩ <;> exact absurd h3 (Int.not_le.mpr h4)
  · rintro ⟨lo', tl, hi', th⟩ u h tk _ ⟨p1, p2, p3, p4, p5⟩ F N
    dsimp only at *
    (repeat' ((fail_if_success (first | with_reducible show wpAny _ _ (PySem.exec (Stmt.Assign _ (Expr.ListComp _ _ _ _) _) _) _ _ _ | with_reducible show wpAny _ _ (PySem.eval (Expr.ListComp _ _ _ _) _) _ _ _ | with_reducible show wpAny _ _ (PySem.setItem _ _ _) _ _ _ | with_reducible show KswEnd _ _ _ _ _ _ _ _ _ _ _ _ | with_reducible show wpAny _ _ (PySem.call (Value.type "bytes") _ _) _ _ _ | with_reducible show wpAny _ _ (PySem.call (Value.ref _) _ _) _ _ _ | with_reducible show wpAny _ _ (exec (Stmt.While _ _ _ _) _) _ _ _ | with_reducible show wpAny _ _ (pyIter _) _ _ _)); (first | ((with_reducible show wpAny _ _ (PySem.execs (_ :: _) _) _ _ _); (first | ((first | with_reducible show wpAny _ _ _ _ _ (PySem.Shared.mk _ _ _ (_ + _) _) | with_reducible show wpAny _ _ _ _ _ (PySem.Shared.mk _ _ _ (PySem.Shared.toks _) _)); (try dsimp only); refine normG s rfl ?_; intro tkN8; (try clear tkN9); rename Nat => tkN9) | dsimp only)) | (k_unfold; (try dsimp only)) | (k_end; wrow_close) | walk1 | (dsimp only; walk1) | (leave1; walk_say "STEP leave1"; try dsimp only) | fail "no step")))
    · refine ksw_end (lo', tl, (lo' + hi').fdiv 2, _) (by assumption) (by assumption) (fun p hp => hp) trivial (by kst_all) (by ((intro z h2 h3; (simp only [List.forall_mem_cons, List.not_mem_nil, false_implies, implies_true, and_true, ne_eq] at h2); (simp only [List.contains_cons, List.contains_nil, Bool.or_false, Bool.or_eq_false_iff, beq_eq_false_iff_ne, ne_eq] at h3); (simp [kstB, h2, h3]; done)))) ?_ ?_
      · exact bisR_hi h0 hs p1 p2 p3 p4 p5 (by assumption) (by assumption)
      · exact (bis_meas (by assumption)).1
    · refine ksw_end ((lo' + hi').fdiv 2 + 1, _, hi', th) (by assumption) (by assumption) (fun p hp => hp) trivial (by kst_all) (by ((intro z h2 h3; (simp only [List.forall_mem_cons, List.not_mem_nil, false_implies, implies_true, and_true, ne_eq] at h2); (simp only [List.contains_cons, List.contains_nil, Bool.or_false, Bool.or_eq_false_iff, beq_eq_false_iff_ne, ne_eq] at h3); (simp [kstB, h2, h3]; done)))) ?_ ?_
      · exact bisR_lo h0 hs p1 p2 p3 p4 p5 (by assumption) (by assumption)
      · exact (bis_meas (by assumption)).2
    · refine hQ0 _ _ (Left.intro (by assumption) (by assumption) (fun p hp => hp) ⟨rfl, _, _, rfl, p1, Int.le_trans p2 p3, p4, ?_⟩)
      intro i h3 h4
      exact p5 i (Int.le_trans (Int.not_lt.mp (by assumption)) h3) h4
end Mine
end
section -- B2
open PySem PySem.W PySem.Calls PyProof.Rows
set_option linter.unusedVariables false
set_option maxRecDepth 100000
set_option maxHeartbeats 8000000
namespace Mine
theorem ins_c (w : World) (mean : ExcName → Option Value) (mg mb : Str → Option Value) (a : Addr) (its : List Value) (ns : List Int) (nn : Nat) (hI : IntsAre its ns) (hlen : ns.length < 999) (x lo hi : Int) (t0 t1 t2 : Tok) (h0 : 0 ≤ lo) (h1 : lo ≤ hi) (h2 : hi ≤ ns.length)
   (hs : ∀ i j : Nat, lo ≤ i → i < j → (j : Int) < hi → ns.getD i 0 ≤ ns.getD j 0) :
   Claim w mean mg mb 3 30 [(a, listOf its.toArray nn)] [.ref a, .int x t0, .int lo t1, .int hi t2] [] (fun r own' => r = .none ∧ ∃ k : Nat, lo ≤ k ∧ k ≤ hi ∧ (∀ i : Nat, lo ≤ i → i < k → ns.getD i 0 ≤ x) ∧ (∀ i : Nat, k ≤ i → i < hi → x < ns.getD i 0) ∧
     ∃ its' nn', own' = [(a, listOf its'.toArray nn')] ∧ IntsAre its' (ns.take k ++ x :: ns.drop k)) := by
  unfold Claim
  k_fill
  w_top off
  intro dp un gd cn cs ca ccd cl outer A₀ base h₀ L m rest s Q E hB hF hK hN hT hk hdis hdp hun hret
  k_dflt (refine' enter_own (binds := [(Str.ofString "a", .ref a), (Str.ofString "x", .int x t0), (Str.ofString "lo", .int lo t1), (Str.ofString "hi", .int hi t2), (Str.ofString "key", .none)]) ?k1 ?k2 ?k3 ?k4 ?k5 ?kd ?kA ?kF ?kK ?k6 ?k7 ?k8 ?k9 ?kB ?kR ?_ ?c2 ?c3 ?c4 ?c5; (((case kA => exact rfl); (case kF => exact rfl); (case kK => assumption); (case k1 => k_asm); (case k2 => k_asm); (case k3 => k_asm); (case k4 => k_asm); (case k5 => k_asm); (case kd => assumption); (case k6 => k_is); (case k7 => k_is); (case k8 => first | exact room0 (by assumption) | ktr_room); (case k9 => first | exact BindsTo.of_eq rfl | exact kp_binds (by k_in) (fun _ => rfl)); (case c5 => decide); (case kB => exact locs rfl); (case c2 => exact rfl); (case c3 => exact rfl); (case c4 => exact rfl); (case kR => assumption))))
  intro g L' h' F' N' B' X' T' l'
  clear hret hB hF hK hN hT hdis
  try dsimp only
  refine hideA ?_
  intro Q0 hQ0
  try k_fold
  (repeat' ((fail_if_success (first | with_reducible show wpAny _ _ (PySem.exec (Stmt.Assign _ (Expr.ListComp _ _ _ _) _) _) _ _ _ | with_reducible show wpAny _ _ (PySem.eval (Expr.ListComp _ _ _ _) _) _ _ _ | with_reducible show wpAny _ _ (PySem.setItem _ _ _) _ _ _ | with_reducible show KswEnd _ _ _ _ _ _ _ _ _ _ _ _ | with_reducible show wpAny _ _ (PySem.call (Value.type "bytes") _ _) _ _ _ | with_reducible show wpAny _ _ (PySem.call (Value.ref _) _ _) _ _ _ | with_reducible show wpAny _ _ (exec (Stmt.While _ _ _ _) _) _ _ _ | with_reducible show wpAny _ _ (pyIter _) _ _ _)); (first | ((with_reducible show wpAny _ _ (PySem.execs (_ :: _) _) _ _ _); (first | ((first | with_reducible show wpAny _ _ _ _ _ (PySem.Shared.mk _ _ _ (_ + _) _) | with_reducible show wpAny _ _ _ _ _ (PySem.Shared.mk _ _ _ (PySem.Shared.toks _) _)); (try dsimp only); refine normG s rfl ?_; intro tkN8; (try clear tkN9); rename Nat => tkN9) | dsimp only)) | (k_unfold; (try dsimp only)) | (k_end; wrow_close) | walk1 | (dsimp only; walk1) | (leave1; walk_say "STEP leave1"; try dsimp only) | fail "no step")))
  refine hideA ?_
  intro QC1 hQC1
  k_dflt (refine' use_claim (bisR_c w mean mg mb a its ns nn hI (by omega) x lo hi t0 t1 t2 h0 h1 h2 hs) [] ?k1 ?k2 ?k3 ?k4 ?k5 ?k6 ?k7 ?k8 ?k9 ?k10 ?_; (((case k1 => k_asm); (case k2 => k_asm); (case k3 => k_asm); (case k4 => k_asm); (case k5 => k_asm); (case k6 => exact rfl); (case k7 => (((try simp only [List.append_nil, List.nil_append, List.cons_append, List.append_assoc]); first | exact (fun p hp => hp) | (simp only [List.forall_mem_cons, List.not_mem_nil, false_implies, implies_true, and_true, true_and]; (repeat' apply And.intro) <;> first | trivial | k_mem) | (simp; done)))); (case k8 => (((try simp only [List.append_nil, List.nil_append, List.cons_append, List.append_assoc]); first   | (simp only [List.forall_mem_cons, List.not_mem_nil, false_implies, implies_true, and_true, true_and, ne_eq]; done)   | ((simp only [List.forall_mem_cons, List.not_mem_nil, false_implies, implies_true, and_true, true_and]); (repeat' apply And.intro) <;> first | trivial | assumption | exact Ne.symm (by assumption) | k_ne)))); (case k9 => first | exact room1 (by assumption) (by decide) | ktr_room); (case k10 => first | exact units1 (by assumption) (by decide) | ktr_units))))
  rintro r own' h1' tk' ⟨rfl, k, t, rfl, q1, q2, q3, q4⟩ F1 N1 _
  refine hQC1 _ _ ?_
  clear hQC1
  first | refine normA s rfl ?_ | refine normR s rfl ?_ | skip
  simp only [List.append_nil] at N1
  (repeat' ((fail_if_success (first | with_reducible show wpAny _ _ (PySem.exec (Stmt.Assign _ (Expr.ListComp _ _ _ _) _) _) _ _ _ | with_reducible show wpAny _ _ (PySem.eval (Expr.ListComp _ _ _ _) _) _ _ _ | with_reducible show wpAny _ _ (PySem.setItem _ _ _) _ _ _ | with_reducible show KswEnd _ _ _ _ _ _ _ _ _ _ _ _ | with_reducible show wpAny _ _ (PySem.call (Value.type "bytes") _ _) _ _ _ | with_reducible show wpAny _ _ (PySem.call (Value.ref _) _ _) _ _ _ | with_reducible show wpAny _ _ (exec (Stmt.While _ _ _ _) _) _ _ _ | with_reducible show wpAny _ _ (pyIter _) _ _ _)); (first | ((with_reducible show wpAny _ _ (PySem.execs (_ :: _) _) _ _ _); (first | ((first | with_reducible show wpAny _ _ _ _ _ (PySem.Shared.mk _ _ _ (_ + _) _) | with_reducible show wpAny _ _ _ _ _ (PySem.Shared.mk _ _ _ (PySem.Shared.toks _) _)); (try dsimp only); refine normG s rfl ?_; intro tkN8; (try clear tkN9); rename Nat => tkN9) | dsimp only)) | (k_unfold; (try dsimp only)) | (k_end; wrow_close) | walk1 | (dsimp only; walk1) | (leave1; walk_say "STEP leave1"; try dsimp only) | fail "no step")))
  have hl := IntsAre.length hI
  refine kl_insert (l := its.take k.toNat ++ Value.int x t0 :: its.drop k.toNat) (n := nn) (by k_asm) (by k_asm) ?_ ?_ (by k_upd) ?_ ?_
  · unfold Builtin.List.listFitsIndex; simp only [Bool.and_eq_true, decide_eq_true_eq]; omega
  · unfold kl_ins
    have e : (if k < 0 then (k + ((its.toArray.toList.length : Nat) : Int)).toNat else min k.toNat its.toArray.toList.length) = k.toNat := by
      rw [if_neg (by omega)]; simp only [List.toList_toArray]; omega
    rw [e]
  · simp only [List.toList_toArray, sizeLine_eq]; omega
  · intro h5 F5 N5
    try dsimp only
    (repeat' ((fail_if_success (first | with_reducible show wpAny _ _ (PySem.exec (Stmt.Assign _ (Expr.ListComp _ _ _ _) _) _) _ _ _ | with_reducible show wpAny _ _ (PySem.eval (Expr.ListComp _ _ _ _) _) _ _ _ | with_reducible show wpAny _ _ (PySem.setItem _ _ _) _ _ _ | with_reducible show KswEnd _ _ _ _ _ _ _ _ _ _ _ _ | with_reducible show wpAny _ _ (PySem.call (Value.type "bytes") _ _) _ _ _ | with_reducible show wpAny _ _ (PySem.call (Value.ref _) _ _) _ _ _ | with_reducible show wpAny _ _ (exec (Stmt.While _ _ _ _) _) _ _ _ | with_reducible show wpAny _ _ (pyIter _) _ _ _)); (first | ((with_reducible show wpAny _ _ (PySem.execs (_ :: _) _) _ _ _); (first | ((first | with_reducible show wpAny _ _ _ _ _ (PySem.Shared.mk _ _ _ (_ + _) _) | with_reducible show wpAny _ _ _ _ _ (PySem.Shared.mk _ _ _ (PySem.Shared.toks _) _)); (try dsimp only); refine normG s rfl ?_; intro tkN8; (try clear tkN9); rename Nat => tkN9) | dsimp only)) | (k_unfold; (try dsimp only)) | (k_end; wrow_close) | walk1 | (dsimp only; walk1) | (leave1; walk_say "STEP leave1"; try dsimp only) | fail "no step")))
    refine hQ0 _ _ (Left.intro (by assumption) (by assumption) (fun p hp => hp) ⟨rfl, k.toNat, by omega, by omega, fun i h3 h4 => q3 i h3 (by omega), fun i h3 h4 => q4 i (by omega) h4, _, _, rfl, ?_⟩)
    exact IntsAre.append (IntsAre.take hI _) (.cons _ _ (IntsAre.drop hI _))
end Mine
end
section -- B3
open PySem PySem.W PySem.Calls PyProof.Rows
set_option linter.unusedVariables false
set_option linter.unusedSimpArgs false
set_option maxRecDepth 100000
set_option maxHeartbeats 8000000
namespace Mine
theorem fmod_nat (i w : Nat) : (i : Int).fmod (w : Int) = ((i % w : Nat) : Int) := by
  rw [Int.fmod_eq_emod_of_nonneg _ (by omega)]; omega
theorem sort_lt {l : List Int} (hs : l.Pairwise (· ≤ ·)) {i j : Nat} (hij : i < j) (hj : j < l.length) : l.getD i 0 ≤ l.getD j 0 := by
  rw [List.getD_eq_getElem?_getD, List.getD_eq_getElem?_getD, List.getElem?_eq_getElem (Nat.lt_trans hij hj), List.getElem?_eq_getElem hj]
  exact List.pairwise_iff_getElem.mp hs i j _ hj hij
theorem mid_getD {acc : List Int} {k : Nat} (h : k < acc.length) : (256 :: acc ++ [-1]).getD (k + 1) 0 = acc.getD k 0 := by
  rw [List.cons_append, List.getD_cons_succ, List.getD_eq_getElem?_getD, List.getElem?_append_left h, ← List.getD_eq_getElem?_getD]
theorem getD_mid {acc : List Int} {i : Nat} (ha : acc.length = i) : ∀ j : Nat, 1 ≤ j → j < 1 + i → (256 :: acc ++ [-1]).getD j 0 = acc.getD (j - 1) 0 := by
  intro j h1 h2
  obtain ⟨k, rfl⟩ := Nat.exists_eq_add_of_le' h1
  rw [Nat.add_sub_cancel]
  exact mid_getD (ha ▸ Nat.lt_of_add_lt_add_left (Nat.add_comm k 1 ▸ h2))
theorem ar_a {c m a : Int} (h : 1 + (c + m) - m ≤ a) : c + 1 ≤ a := by
  rwa [← Int.add_assoc, Int.add_sub_cancel, Int.add_comm] at h
theorem laid_sorted {W i : Nat} {l acc : List Int} (h0 : 0 < W) (h : Lay W l acc) (ha : acc.length = i) : ∀ a b : Nat, 1 + (i : Int) - (i % W : Nat) ≤ a → a < b → (b : Int) < 1 + i → (256 :: acc ++ [-1]).getD a 0 ≤ (256 :: acc ++ [-1]).getD b 0 := by
  intro a b h1 h2 h3
  have hdm := Nat.div_add_mod i W
  have hml := Nat.mod_lt i h0
  have hs := (h.2 (i / W)).2
  have hg : ∀ j, j < W → (chunk W (i / W) acc).getD j 0 = acc.getD (i / W * W + j) 0 := fun j hj => chunk_getD hj
  have hcl := chunk_length W (i / W) acc
  rw [Nat.mul_comm] at hdm
  clear h
  generalize chunk W (i / W) acc = C at *
  generalize i / W * W = c at *
  generalize i % W = m at *
  subst hdm
  rw [Int.natCast_add] at h1 h3
  have h5 : c + 1 ≤ a := Int.ofNat_le.mp (by rw [Int.natCast_add]; exact ar_a h1)
  have h6 : b ≤ c + m := Int.ofNat_le.mp (by rw [Int.natCast_add]; exact Int.le_of_lt_add_one (Int.add_comm 1 _ ▸ h3))
  obtain ⟨j, rfl⟩ := Nat.exists_eq_add_of_le h5
  obtain ⟨k, rfl⟩ := Nat.exists_eq_add_of_lt h2
  clear h1 h3 h2 h5
  have e1 : c + 1 + j = (c + j) + 1 := Nat.add_right_comm c 1 j
  have e2 : c + 1 + j + k + 1 = (c + (j + k + 1)) + 1 := by rw [e1, ← Nat.add_assoc, ← Nat.add_assoc, Nat.add_right_comm (c + j) 1 k]
  rw [e2] at h6
  have h7 : j + k + 1 < m := Nat.lt_of_add_lt_add_left h6
  have h8 : j < j + k + 1 := Nat.lt_of_le_of_lt (Nat.le_add_right j k) (Nat.lt_succ_self _)
  rw [e2, e1, mid_getD (ha ▸ Nat.add_lt_add_left (Nat.lt_trans h8 h7) c), mid_getD (ha ▸ Nat.add_lt_add_left h7 c), ← hg _ (Nat.lt_trans h8 (Nat.lt_trans h7 hml)), ← hg _ (Nat.lt_trans h7 hml)]
  refine sort_lt hs h8 ?_
  rw [hcl, ha, Nat.add_sub_cancel_left]
  exact Nat.lt_min.mpr ⟨Nat.lt_trans h7 hml, h7⟩
theorem laid_turn {W i p : Nat} {ks acc : List Int} {V : List Int → Prop} (h0 : 0 < W) (hi : i < ks.length) (h : Lay W (ks.take i) acc) (ha : acc.length = i) (h1 : 1 + i - i % W ≤ p) (h2 : p ≤ 1 + i)
    (h3 : ∀ j : Nat, 1 + i - i % W ≤ j → j < p → (256 :: acc ++ [-1]).getD j 0 ≤ ks.getD i 0) (h4 : ∀ j : Nat, p ≤ j → j < 1 + i → ks.getD i 0 < (256 :: acc ++ [-1]).getD j 0)
    (h5 : V (List.take p (256 :: acc ++ [-1]) ++ ks.getD i 0 :: List.drop p (256 :: acc ++ [-1]))) : ∃ acc, V (256 :: (acc ++ [-1])) ∧ Lay W (List.take (i + 1) ks) acc := by
  have hm := Nat.mod_le i W
  rw [Nat.add_sub_assoc hm] at h1 h3
  rw [Nat.add_comm 1 (i - i % W)] at h1 h3
  rw [Nat.add_comm 1 i] at h2 h4
  obtain ⟨q, rfl⟩ := Nat.exists_eq_add_of_le' (Nat.le_trans (Nat.le_add_left 1 _) h1)
  have h1 := Nat.le_of_add_le_add_right h1
  have h2 := Nat.le_of_add_le_add_right h2
  subst ha
  have hl : Lay W (ks.take acc.length ++ [ks.getD acc.length 0]) (acc.take q ++ ks.getD acc.length 0 :: acc.drop q) := by
    refine Lay.step h0 h h1 h2 (fun j h7 h8 => ?_) (fun j h7 h8 => ?_)
    · have := h3 (j + 1) (Nat.succ_le_succ h7) (Nat.succ_lt_succ h8)
      rwa [mid_getD (Nat.lt_of_lt_of_le h8 h2)] at this
    · have := h4 (j + 1) (Nat.succ_le_succ h7) (Nat.succ_lt_succ h8)
      rwa [mid_getD h8] at this
  refine ⟨acc.take q ++ ks.getD acc.length 0 :: acc.drop q, ?_, ?_⟩
  · rw [List.cons_append, List.take_succ_cons, List.drop_succ_cons, List.take_append_of_le_length h2, List.drop_append_of_le_length h2] at h5
    simpa using h5
  · have e : ks.take (acc.length + 1) = ks.take acc.length ++ [ks.getD acc.length 0] := by
      rw [List.take_add_one, List.getElem?_eq_getElem hi, List.getD_eq_getElem?_getD, List.getElem?_eq_getElem hi]; rfl
    rw [e]; exact hl
theorem pick_chunk {W i v : Nat} {l : List Int} (hv : i * W = v) (hlt : v + W ≤ l.length) : List.take (clipAt l.length ((v : Int) + (W : Int)) - min v l.length) (List.drop (min v l.length) l) = chunk W i l := by
  unfold chunk
  have e1 : clipAt l.length ((v : Int) + (W : Int)) = v + W := by
    have := clipAt_nat l.length (v + W)
    rw [Nat.min_eq_left hlt] at this
    rw [← this]; rfl
  rw [e1, Nat.min_eq_left (Nat.le_trans (Nat.le_add_right v W) hlt), hv, Nat.add_sub_cancel_left]
theorem laid_c (w : World) (mean : ExcName → Option Value) (mg mb : Str → Option Value) (b : Array UInt8) (ks : List Int) (hb : KBw.bInts b = ks) (hlen : ks.length < 100) (W : Nat) (t0 t1 : Tok) (h0 : 0 < W) (h1 : W < 100) :
   Claim w mean mg mb 4 60 [] [.bytes b t0, .int W t1] [] (fun r own' => own' = [] ∧ ∃ rb rs t, r = .bytes rb t ∧ KBw.bInts rb = rs ∧ Lay W ks rs) := by
  unfold Claim
  k_fill
  w_top off
  intro dp un gd cn cs ca ccd cl outer A₀ base h₀ L m rest s Q E hB hF hK hN hT hk hdis hdp hun hret
  k_dflt (refine' enter_own (binds := [(Str.ofString "cells", .bytes b t0), (Str.ofString "width", .int W t1)]) ?k1 ?k2 ?k3 ?k4 ?k5 ?kd ?kA ?kF ?kK ?k6 ?k7 ?k8 ?k9 ?kB ?kR ?_ ?c2 ?c3 ?c4 ?c5; (((case kA => exact rfl); (case kF => exact rfl); (case kK => assumption); (case k1 => k_asm); (case k2 => k_asm); (case k3 => k_asm); (case k4 => k_asm); (case k5 => k_asm); (case kd => assumption); (case k6 => k_is); (case k7 => k_is); (case k8 => first | exact room0 (by assumption) | ktr_room); (case k9 => first | exact BindsTo.of_eq rfl | exact kp_binds (by k_in) (fun _ => rfl)); (case c5 => decide); (case kB => exact locs rfl); (case c2 => exact rfl); (case c3 => exact rfl); (case c4 => exact rfl); (case kR => assumption))))
  intro g L' h' F' N' B' X' T' l'
  clear hret hB hF hK hN hT hdis
  try dsimp only
  refine hideA ?_
  intro Q0 hQ0
  try k_fold
  (repeat' ((fail_if_success (first | with_reducible show wpAny _ _ (PySem.exec (Stmt.Assign _ (Expr.ListComp _ _ _ _) _) _) _ _ _ | with_reducible show wpAny _ _ (PySem.eval (Expr.ListComp _ _ _ _) _) _ _ _ | with_reducible show wpAny _ _ (PySem.setItem _ _ _) _ _ _ | with_reducible show KswEnd _ _ _ _ _ _ _ _ _ _ _ _ | with_reducible show wpAny _ _ (PySem.call (Value.type "bytes") _ _) _ _ _ | with_reducible show wpAny _ _ (PySem.call (Value.ref _) _ _) _ _ _ | with_reducible show wpAny _ _ (exec (Stmt.While _ _ _ _) _) _ _ _ | with_reducible show wpAny _ _ (pyIter _) _ _ _)); (first | ((with_reducible show wpAny _ _ (PySem.execs (_ :: _) _) _ _ _); (first | ((first | with_reducible show wpAny _ _ _ _ _ (PySem.Shared.mk _ _ _ (_ + _) _) | with_reducible show wpAny _ _ _ _ _ (PySem.Shared.mk _ _ _ (PySem.Shared.toks _) _)); (try dsimp only); refine normG s rfl ?_; intro tkN8; (try clear tkN9); rename Nat => tkN9) | dsimp only)) | (k_unfold; (try dsimp only)) | (k_end; wrow_close) | walk1 | (dsimp only; walk1) | (leave1; walk_say "STEP leave1"; try dsimp only) | fail "no step")))
  rename IsRange _ _ _ _ _ _ _ _ => hR
  rename Fr _ _ _ _ => F5
  rename News _ _ _ _ => N5
  first | (refine normG s rfl ?_; intro tkR9) | (refine normH s rfl ?_; intro tkR9) | skip
  refine rng_loop (σ := List Value × Nat) (n := ks.length) (fun c => [(_, listOf c.1.toArray c.2)]) (fun _ => []) [] (fun i => (i : Int))
    (fun i c => ∃ acc, IntsAre c.1 (256 :: acc ++ [-1]) ∧ Lay W (ks.take i) acc) ([_, _], 0) (by intro i; omega) rfl hR (rs_small (by omega) (by omega) (by omega) (by omega) (by omega) (by omega)) (rs_one _) F5 N5 (by kst_all) ?_ ?_ ?_
  · exact ⟨[], .cons _ _ (.cons _ _ .nil), Lay.nil W⟩
  · rintro I it i ⟨its, nn⟩ t u h tk hi ⟨acc, hA, hLay⟩ hne F N
    clear hR F5 N5
    dsimp only [envOf] at *
    have ha : acc.length = i := by have := hLay.1; rw [List.length_take] at this; omega
    (repeat' ((fail_if_success (first | with_reducible show wpAny _ _ (PySem.exec (Stmt.Assign _ (Expr.ListComp _ _ _ _) _) _) _ _ _ | with_reducible show wpAny _ _ (PySem.eval (Expr.ListComp _ _ _ _) _) _ _ _ | with_reducible show wpAny _ _ (PySem.setItem _ _ _) _ _ _ | with_reducible show KswEnd _ _ _ _ _ _ _ _ _ _ _ _ | with_reducible show wpAny _ _ (PySem.call (Value.type "bytes") _ _) _ _ _ | with_reducible show wpAny _ _ (PySem.call (Value.ref _) _ _) _ _ _ | with_reducible show wpAny _ _ (exec (Stmt.While _ _ _ _) _) _ _ _ | with_reducible show wpAny _ _ (pyIter _) _ _ _)); (first | ((with_reducible show wpAny _ _ (PySem.execs (_ :: _) _) _ _ _); (first | ((first | with_reducible show wpAny _ _ _ _ _ (PySem.Shared.mk _ _ _ (_ + _) _) | with_reducible show wpAny _ _ _ _ _ (PySem.Shared.mk _ _ _ (PySem.Shared.toks _) _)); (try dsimp only); refine normG s rfl ?_; intro tkN8; (try clear tkN9); rename Nat => tkN9) | dsimp only)) | (k_unfold; (try dsimp only)) | (k_end; wrow_close) | walk1 | (dsimp only; walk1) | (leave1; walk_say "STEP leave1"; try dsimp only) | fail "no step")))
    simp only [List.forall_mem_cons, List.not_mem_nil, false_implies, implies_true, and_true, true_and] at hne
    have hf := fmod_nat i W
    have hmod := Nat.mod_le i W
    have hget : ∀ j : Nat, 1 ≤ j → j < 1 + i → (256 :: acc ++ [-1]).getD j 0 = acc.getD (j - 1) 0 := getD_mid ha
    have hel : ((256 :: acc ++ [-1]).length : Int) = i + 2 := by simp [ha]; omega
    simp only [hf, Int.toNat_natCast]
    refine hideA ?_
    intro QC1 hQC1
    k_dflt (refine' use_claim (ins_c w mean mg mb _ its (256 :: acc ++ [-1]) nn hA (by simp; omega) (ks.getD i 0) (1 + i - (i % W : Nat)) (1 + i) _ _ _ (by omega) (by omega) (by omega) (laid_sorted h0 hLay ha)) [(I, it)] ?k1 ?k2 ?k3 ?k4 ?k5 ?k6 ?k7 ?k8 ?k9 ?k10 ?_; (((case k1 => k_asm); (case k2 => k_asm); (case k3 => k_asm); (case k4 => k_asm); (case k5 => k_asm); (case k6 => exact rfl); (case k7 => (((try simp only [List.append_nil, List.nil_append, List.cons_append, List.append_assoc]); first | exact (fun p hp => hp) | (simp only [List.forall_mem_cons, List.not_mem_nil, false_implies, implies_true, and_true, true_and]; (repeat' apply And.intro) <;> first | trivial | k_mem) | (simp; done)))); (case k8 => (((try simp only [List.append_nil, List.nil_append, List.cons_append, List.append_assoc]); first   | (simp only [List.forall_mem_cons, List.not_mem_nil, false_implies, implies_true, and_true, true_and, ne_eq]; done)   | ((simp only [List.forall_mem_cons, List.not_mem_nil, false_implies, implies_true, and_true, true_and]); (repeat' apply And.intro) <;> first | trivial | assumption | exact Ne.symm (by assumption) | k_ne)))); (case k9 => first | exact room1 (by assumption) (by decide) | ktr_room); (case k10 => first | exact units1 (by assumption) (by decide) | ktr_units))))
    rintro r own' h6 tk6 ⟨rfl, p, q1, q2, q3, q4, its', nn', rfl, q5⟩ F6 N6 q6
    refine hQC1 _ _ ?_
    clear hQC1
    first | refine normA s rfl ?_ | refine normR s rfl ?_ | skip
    simp only [List.forall_mem_cons, List.not_mem_nil, false_implies, implies_true, and_true, true_and, List.cons_append, List.nil_append] at q6 N6
    (repeat' ((fail_if_success (first | with_reducible show wpAny _ _ (PySem.exec (Stmt.Assign _ (Expr.ListComp _ _ _ _) _) _) _ _ _ | with_reducible show wpAny _ _ (PySem.eval (Expr.ListComp _ _ _ _) _) _ _ _ | with_reducible show wpAny _ _ (PySem.setItem _ _ _) _ _ _ | with_reducible show KswEnd _ _ _ _ _ _ _ _ _ _ _ _ | with_reducible show wpAny _ _ (PySem.call (Value.type "bytes") _ _) _ _ _ | with_reducible show wpAny _ _ (PySem.call (Value.ref _) _ _) _ _ _ | with_reducible show wpAny _ _ (exec (Stmt.While _ _ _ _) _) _ _ _ | with_reducible show wpAny _ _ (pyIter _) _ _ _)); (first | ((with_reducible show wpAny _ _ (PySem.execs (_ :: _) _) _ _ _); (first | ((first | with_reducible show wpAny _ _ _ _ _ (PySem.Shared.mk _ _ _ (_ + _) _) | with_reducible show wpAny _ _ _ _ _ (PySem.Shared.mk _ _ _ (PySem.Shared.toks _) _)); (try dsimp only); refine normG s rfl ?_; intro tkN8; (try clear tkN9); rename Nat => tkN9) | dsimp only)) | (k_unfold; (try dsimp only)) | (k_end; wrow_close) | walk1 | (dsimp only; walk1) | (leave1; walk_say "STEP leave1"; try dsimp only) | fail "no step")))
    refine rng_end (its', nn') (by assumption) (by assumption) (by k_mem) (by (((try simp only [List.append_nil, List.nil_append, List.cons_append, List.append_assoc]); first | exact (fun p hp => hp) | (simp only [List.forall_mem_cons, List.not_mem_nil, false_implies, implies_true, and_true, true_and]; (repeat' apply And.intro) <;> first | trivial | k_mem) | (simp; done)))) (by (((try simp only [List.append_nil, List.nil_append, List.cons_append, List.append_assoc]); first   | (simp only [List.forall_mem_cons, List.not_mem_nil, false_implies, implies_true, and_true, true_and, ne_eq]; done)   | ((simp only [List.forall_mem_cons, List.not_mem_nil, false_implies, implies_true, and_true, true_and]); (repeat' apply And.intro) <;> first | trivial | assumption | exact Ne.symm (by assumption) | k_ne)))) (by kst_all) (by ((intro z h1 h2 h3; (simp only [List.forall_mem_cons, List.not_mem_nil, false_implies, implies_true, and_true, ne_eq] at h2); (simp only [List.contains_cons, List.contains_nil, Bool.or_false, Bool.or_eq_false_iff, beq_eq_false_iff_ne, ne_eq] at h3); (simp [kstB, h1, h2, h3]; done)))) ?_
    exact laid_turn (V := IntsAre its') h0 hi hLay ha (by omega) (by omega) (fun j h7 h8 => q3 j (by omega) h8) (fun j h7 h8 => q4 j h7 (by omega)) q5
  · rintro ⟨its, nn⟩ u h tk ⟨acc, hA, hLay⟩ F N
    clear hR F5 N5
    dsimp only [envOf] at *
    have ha : acc.length = ks.length := by have := hLay.1; rw [List.length_take] at this; omega
    rw [List.take_length] at hLay
    have hz := IntsAre.length hA
    have hin : KBa.In acc := fun n hn => by
      have hp := (Lay.perm h0 _ _ _ (Nat.le_refl _) hLay).mem_iff.mp hn
      subst hb
      exact KBw.ints_in hp
    have g0 : (256 :: acc ++ [-1]).getD (Int.toNat 0) 0 = 256 := rfl
    (repeat' ((fail_if_success (first | with_reducible show wpAny _ _ (PySem.exec (Stmt.Assign _ (Expr.ListComp _ _ _ _) _) _) _ _ _ | with_reducible show wpAny _ _ (PySem.eval (Expr.ListComp _ _ _ _) _) _ _ _ | with_reducible show wpAny _ _ (PySem.setItem _ _ _) _ _ _ | with_reducible show KswEnd _ _ _ _ _ _ _ _ _ _ _ _ | with_reducible show wpAny _ _ (PySem.call (Value.type "bytes") _ _) _ _ _ | with_reducible show wpAny _ _ (PySem.call (Value.ref _) _ _) _ _ _ | with_reducible show wpAny _ _ (exec (Stmt.While _ _ _ _) _) _ _ _ | with_reducible show wpAny _ _ (pyIter _) _ _ _)); (first | ((with_reducible show wpAny _ _ (PySem.execs (_ :: _) _) _ _ _); (first | ((first | with_reducible show wpAny _ _ _ _ _ (PySem.Shared.mk _ _ _ (_ + _) _) | with_reducible show wpAny _ _ _ _ _ (PySem.Shared.mk _ _ _ (PySem.Shared.toks _) _)); (try dsimp only); refine normG s rfl ?_; intro tkN8; (try clear tkN9); rename Nat => tkN9) | dsimp only)) | (k_unfold; (try dsimp only)) | (k_end; wrow_close) | walk1 | (dsimp only; walk1) | (leave1; walk_say "STEP leave1"; try dsimp only) | fail "no step")))
    · rename IntsAre _ (List.take _ _) => hI5
      have e : List.take ((256 :: acc ++ [-1]).length - 1 - 1) (List.drop 1 (256 :: acc ++ [-1])) = acc := by simp
      rw [e] at hI5
      refine KBa.make_K (by k_asm) (by k_asm) rfl (by kba_isList) hI5 hin (by omega) ?_
      intro h7 t7 k7 F7 N7 _
      (repeat' ((fail_if_success (first | with_reducible show wpAny _ _ (PySem.exec (Stmt.Assign _ (Expr.ListComp _ _ _ _) _) _) _ _ _ | with_reducible show wpAny _ _ (PySem.eval (Expr.ListComp _ _ _ _) _) _ _ _ | with_reducible show wpAny _ _ (PySem.setItem _ _ _) _ _ _ | with_reducible show KswEnd _ _ _ _ _ _ _ _ _ _ _ _ | with_reducible show wpAny _ _ (PySem.call (Value.type "bytes") _ _) _ _ _ | with_reducible show wpAny _ _ (PySem.call (Value.ref _) _ _) _ _ _ | with_reducible show wpAny _ _ (exec (Stmt.While _ _ _ _) _) _ _ _ | with_reducible show wpAny _ _ (pyIter _) _ _ _)); (first | ((with_reducible show wpAny _ _ (PySem.execs (_ :: _) _) _ _ _); (first | ((first | with_reducible show wpAny _ _ _ _ _ (PySem.Shared.mk _ _ _ (_ + _) _) | with_reducible show wpAny _ _ _ _ _ (PySem.Shared.mk _ _ _ (PySem.Shared.toks _) _)); (try dsimp only); refine normG s rfl ?_; intro tkN8; (try clear tkN9); rename Nat => tkN9) | dsimp only)) | (k_unfold; (try dsimp only)) | (k_end; wrow_close) | walk1 | (dsimp only; walk1) | (leave1; walk_say "STEP leave1"; try dsimp only) | fail "no step")))
      refine hQ0 _ _ (Left.intro (own' := []) (by assumption) (by assumption) (List.forall_mem_nil _) ⟨rfl, _, _, _, rfl, KBa.ints_make hin, hLay⟩)
    · exact absurd g0 (by assumption)
end Mine
end
section -- B4
open PySem PySem.W PySem.Calls PyProof.Rows
set_option linter.unusedVariables false
set_option linter.unusedSimpArgs false
set_option maxRecDepth 100000
set_option maxHeartbeats 8000000
namespace Mine
def srt (l : List Int) : List Int := l.mergeSort fun a b => decide (a ≤ b)
/-- the first i rows, each laid in order, every second one from its end -/
def bySort (W : Nat) (ks : List Int) (first i : Nat) : List Int := (List.range i).flatMap fun r => if (r + first) % 2 = 1 then (srt (chunk W r ks)).reverse else srt (chunk W r ks)
theorem srt_perm (l : List Int) : (srt l).Perm l := List.mergeSort_perm l _
theorem srt_sorted (l : List Int) : (srt l).Pairwise (· ≤ ·) := by
  have := List.pairwise_mergeSort (le := fun a b : Int => decide (a ≤ b)) (by simp; intro a b c; omega) (by simp; intro a b; omega) l
  unfold srt; simpa using this
theorem sorted_unique {a b : List Int} (h : a.Perm b) (ha : a.Pairwise (· ≤ ·)) (hb : b.Pairwise (· ≤ ·)) : a = b :=
  h.eq_of_pairwise (fun x y _ _ h1 h2 => Int.le_antisymm h1 h2) ha hb
theorem srt_eq {a l : List Int} (h : a.Perm l) (ha : a.Pairwise (· ≤ ·)) : a = srt l := sorted_unique (h.trans (srt_perm l).symm) ha (srt_sorted l)
theorem srt_length (l : List Int) : (srt l).length = l.length := (srt_perm l).length_eq
theorem bySort_succ (W : Nat) (ks : List Int) (first i : Nat) : bySort W ks first (i+1) = bySort W ks first i ++ (if (i + first) % 2 = 1 then (srt (chunk W i ks)).reverse else srt (chunk W i ks)) := by
  unfold bySort; rw [List.range_succ, List.flatMap_append]; simp
theorem bySort_length {W : Nat} {ks : List Int} {first : Nat} {i : Nat} (h : i * W ≤ ks.length) : (bySort W ks first i).length = i * W := by
  induction i with
  | zero => simp [bySort]
  | succ i ih =>
    rw [Nat.add_mul, Nat.one_mul] at h
    rw [bySort_succ, List.length_append, ih (by omega)]
    have : (chunk W i ks).length = W := chunk_len h
    have h2 := srt_length (chunk W i ks)
    have h3 : (i + 1) * W = i * W + W := by rw [Nat.add_mul, Nat.one_mul]
    split
    · rw [List.length_reverse]; omega
    · omega
theorem par_iff (i f : Nat) : (((i:Int)+(f:Int)).fmod 2 = 1) ↔ (i+f)%2=1 := by
  have h := fmod_nat (i + f) 2
  have e : ((i:Int)+(f:Int)) = ((i + f : Nat) : Int) := by omega
  rw [e, show (2 : Int) = ((2 : Nat) : Int) from rfl, h]; omega
theorem bySort_mem {W : Nat} {ks : List Int} {first i : Nat} {n : Int} (h : n ∈ bySort W ks first i) : n ∈ ks := by
  unfold bySort at h
  rw [List.mem_flatMap] at h
  obtain ⟨r, _, h⟩ := h
  have : n ∈ chunk W r ks := by
    split at h
    · exact (srt_perm _).mem_iff.mp (List.mem_reverse.mp h)
    · exact (srt_perm _).mem_iff.mp h
  unfold chunk at this
  exact List.mem_of_mem_drop (List.mem_of_mem_take this)
theorem sorting_c (w : World) (mean : ExcName → Option Value) (mg mb : Str → Option Value) (b : Array UInt8) (ks : List Int) (hb : KBw.bInts b = ks) (R W first : Nat) (hlen : ks.length = R * W) (h100 : ks.length < 64) (hR : 0 < R) (t0 t1 t2 : Tok) (h0 : 0 < W) (h1 : W < 100) (hf : first < 2) :
   Claim w mean mg mb 2 74 [] [.bytes b t0, .int W t1, .int first t2] [] (fun r own' => own' = [] ∧ ∃ rb t, r = .bytes rb t ∧ KBw.bInts rb = bySort W ks first R) := by
  unfold Claim
  k_fill
  w_top off
  intro dp un gd cn cs ca ccd cl outer A₀ base h₀ L m rest s Q E hB hF hK hN hT hk hdis hdp hun hret
  k_dflt (refine' enter_own (binds := [(Str.ofString "cells", .bytes b t0), (Str.ofString "width", .int W t1), (Str.ofString "first", .int first t2)]) ?k1 ?k2 ?k3 ?k4 ?k5 ?kd ?kA ?kF ?kK ?k6 ?k7 ?k8 ?k9 ?kB ?kR ?_ ?c2 ?c3 ?c4 ?c5; (((case kA => exact rfl); (case kF => exact rfl); (case kK => assumption); (case k1 => k_asm); (case k2 => k_asm); (case k3 => k_asm); (case k4 => k_asm); (case k5 => k_asm); (case kd => assumption); (case k6 => k_is); (case k7 => k_is); (case k8 => first | exact room0 (by assumption) | ktr_room); (case k9 => first | exact BindsTo.of_eq rfl | exact kp_binds (by k_in) (fun _ => rfl)); (case c5 => decide); (case kB => exact locs rfl); (case c2 => exact rfl); (case c3 => exact rfl); (case c4 => exact rfl); (case kR => assumption))))
  intro g L' h' F' N' B' X' T' l'
  clear hret hB hF hK hN hT hdis
  try dsimp only
  refine hideA ?_
  intro Q0 hQ0
  try k_fold
  have hpos : 0 < ks.length := by rw [hlen]; exact Nat.mul_pos hR h0
  (repeat' ((fail_if_success (first | with_reducible show wpAny _ _ (PySem.exec (Stmt.Assign _ (Expr.ListComp _ _ _ _) _) _) _ _ _ | with_reducible show wpAny _ _ (PySem.eval (Expr.ListComp _ _ _ _) _) _ _ _ | with_reducible show wpAny _ _ (PySem.setItem _ _ _) _ _ _ | with_reducible show KswEnd _ _ _ _ _ _ _ _ _ _ _ _ | with_reducible show wpAny _ _ (PySem.call (Value.type "bytes") _ _) _ _ _ | with_reducible show wpAny _ _ (PySem.call (Value.ref _) _ _) _ _ _ | with_reducible show wpAny _ _ (exec (Stmt.While _ _ _ _) _) _ _ _ | with_reducible show wpAny _ _ (pyIter _) _ _ _)); (first | ((with_reducible show wpAny _ _ (PySem.execs (_ :: _) _) _ _ _); (first | ((first | with_reducible show wpAny _ _ _ _ _ (PySem.Shared.mk _ _ _ (_ + _) _) | with_reducible show wpAny _ _ _ _ _ (PySem.Shared.mk _ _ _ (PySem.Shared.toks _) _)); (try dsimp only); refine normG s rfl ?_; intro tkN8; (try clear tkN9); rename Nat => tkN9) | dsimp only)) | (k_unfold; (try dsimp only)) | (k_end; wrow_close) | walk1 | (dsimp only; walk1) | (leave1; walk_say "STEP leave1"; try dsimp only) | fail "no step")))
  rename IsRange _ _ _ _ _ _ _ _ => hR1
  rename Fr _ _ _ _ => F5
  rename News _ _ _ _ => N5
  have hsz : Builtin.Range.rangeSize 0 (ks.length : Int) (W : Int) = (R : Int) := by rw [hlen]; exact rs_size (f := 0) h0
  first | (refine normG s rfl ?_; intro tkR9) | (refine normH s rfl ?_; intro tkR9) | skip
  refine rng_loop (σ := List Value × Nat) (n := R) (fun c => [(_, listOf c.1.toArray c.2)]) (fun _ => [(Str.ofString "due", .ref _)]) [Str.ofString "part"] (fun i => ((i * W : Nat) : Int))
    (fun i c => IntsAre c.1 (bySort W ks first i)) ([], 0) (by intro i; rw [Int.natCast_mul]; omega) rfl hR1 (rs_small (by omega) (by omega) (by omega) (by omega) (by omega) (by omega)) hsz F5 N5 (by kst_all) ?_ ?_ ?_
  · exact .nil
  · rintro I it i ⟨its, nn⟩ t u h tk hi hP hne F N
    clear hR1 F5 N5
    dsimp only [envOf] at *
    simp only [List.forall_mem_cons, List.not_mem_nil, false_implies, implies_true, and_true, true_and] at hne
    have hlt : i * W + W ≤ ks.length := by
      have : (i + 1) * W ≤ R * W := Nat.mul_le_mul_right _ hi
      rw [Nat.add_mul, Nat.one_mul] at this; omega
    have hdiv : ((i * W : Nat) : Int).fdiv (W : Int) = i := by
      rw [Int.fdiv_eq_ediv_of_nonneg _ (by omega), Int.natCast_mul, Int.mul_ediv_cancel _ (by omega)]
    generalize hv : i * W = v at *
    (repeat' ((fail_if_success (first | with_reducible show wpAny _ _ (PySem.exec (Stmt.Assign _ (Expr.ListComp _ _ _ _) _) _) _ _ _ | with_reducible show wpAny _ _ (PySem.eval (Expr.ListComp _ _ _ _) _) _ _ _ | with_reducible show wpAny _ _ (PySem.setItem _ _ _) _ _ _ | with_reducible show KswEnd _ _ _ _ _ _ _ _ _ _ _ _ | with_reducible show wpAny _ _ (PySem.call (Value.type "bytes") _ _) _ _ _ | with_reducible show wpAny _ _ (PySem.call (Value.ref _) _ _) _ _ _ | with_reducible show wpAny _ _ (exec (Stmt.While _ _ _ _) _) _ _ _ | with_reducible show wpAny _ _ (pyIter _) _ _ _)); (first | ((with_reducible show wpAny _ _ (PySem.execs (_ :: _) _) _ _ _); (first | ((first | with_reducible show wpAny _ _ _ _ _ (PySem.Shared.mk _ _ _ (_ + _) _) | with_reducible show wpAny _ _ _ _ _ (PySem.Shared.mk _ _ _ (PySem.Shared.toks _) _)); (try dsimp only); refine normG s rfl ?_; intro tkN8; (try clear tkN9); rename Nat => tkN9) | dsimp only)) | (k_unfold; (try dsimp only)) | (k_end; wrow_close) | walk1 | (dsimp only; walk1) | (leave1; walk_say "STEP leave1"; try dsimp only) | fail "no step")))
    rename KBw.bInts (KBy.picked _ _ _) = _ => hpk
    have hck := pick_chunk hv hlt
    rw [hck] at hpk
    have hcl : (chunk W i ks).length = W := chunk_len (hv.symm ▸ hlt)
    refine sorted_bytes (by k_asm) (by k_asm) rfl hpk (by omega) ?_
    intro D9 h9 tk9 vs9 ns9 e9 F9 N9 l9 hI9 hp9 hs9
    have hl9 := IntsAre.length hI9
    have hl9b := hp9.length_eq
    simp only [List.forall_mem_cons, List.not_mem_nil, false_implies, implies_true, and_true, true_and] at l9
    obtain ⟨l9a, l9b⟩ := l9
    have n1 : @LT.lt Nat _ _ _ := l9a
    have n2 : @LT.lt Nat _ _ _ := l9b
    have n3 : @Ne Nat _ _ := hne
    (repeat' ((fail_if_success (first | with_reducible show wpAny _ _ (PySem.exec (Stmt.Assign _ (Expr.ListComp _ _ _ _) _) _) _ _ _ | with_reducible show wpAny _ _ (PySem.eval (Expr.ListComp _ _ _ _) _) _ _ _ | with_reducible show wpAny _ _ (PySem.setItem _ _ _) _ _ _ | with_reducible show KswEnd _ _ _ _ _ _ _ _ _ _ _ _ | with_reducible show wpAny _ _ (PySem.call (Value.type "bytes") _ _) _ _ _ | with_reducible show wpAny _ _ (PySem.call (Value.ref _) _ _) _ _ _ | with_reducible show wpAny _ _ (exec (Stmt.While _ _ _ _) _) _ _ _ | with_reducible show wpAny _ _ (pyIter _) _ _ _)); (first | ((with_reducible show wpAny _ _ (PySem.execs (_ :: _) _) _ _ _); (first | ((first | with_reducible show wpAny _ _ _ _ _ (PySem.Shared.mk _ _ _ (_ + _) _) | with_reducible show wpAny _ _ _ _ _ (PySem.Shared.mk _ _ _ (PySem.Shared.toks _) _)); (try dsimp only); refine normG s rfl ?_; intro tkN8; (try clear tkN9); rename Nat => tkN9) | dsimp only)) | (k_unfold; (try dsimp only)) | (k_end; wrow_close) | walk1 | (dsimp only; walk1) | (leave1; walk_say "STEP leave1"; try dsimp only) | fail "no step")))
    · rename ((_ : Int) + _).fmod 2 = 1 => hcond
      rw [hdiv, par_iff] at hcond
      rename IntsAre _ ns9.reverse => hI8
      have hl8 := IntsAre.length hI8
      have hlr : ns9.reverse.length = ns9.length := List.length_reverse
      have hzz := IntsAre.length hP
      have hzy := bySort_length (first := first) (i := i) (W := W) (ks := ks) (by omega)
      dsimp only
      refine iadd_K (by k_asm) (by k_asm) (by k_mem) (by omega) (by k_upd) (by omega) ?_
      intro h7 F7 N7
      (repeat' ((fail_if_success (first | with_reducible show wpAny _ _ (PySem.exec (Stmt.Assign _ (Expr.ListComp _ _ _ _) _) _) _ _ _ | with_reducible show wpAny _ _ (PySem.eval (Expr.ListComp _ _ _ _) _) _ _ _ | with_reducible show wpAny _ _ (PySem.setItem _ _ _) _ _ _ | with_reducible show KswEnd _ _ _ _ _ _ _ _ _ _ _ _ | with_reducible show wpAny _ _ (PySem.call (Value.type "bytes") _ _) _ _ _ | with_reducible show wpAny _ _ (PySem.call (Value.ref _) _ _) _ _ _ | with_reducible show wpAny _ _ (exec (Stmt.While _ _ _ _) _) _ _ _ | with_reducible show wpAny _ _ (pyIter _) _ _ _)); (first | ((with_reducible show wpAny _ _ (PySem.execs (_ :: _) _) _ _ _); (first | ((first | with_reducible show wpAny _ _ _ _ _ (PySem.Shared.mk _ _ _ (_ + _) _) | with_reducible show wpAny _ _ _ _ _ (PySem.Shared.mk _ _ _ (PySem.Shared.toks _) _)); (try dsimp only); refine normG s rfl ?_; intro tkN8; (try clear tkN9); rename Nat => tkN9) | dsimp only)) | (k_unfold; (try dsimp only)) | (k_end; wrow_close) | walk1 | (dsimp only; walk1) | (leave1; walk_say "STEP leave1"; try dsimp only) | fail "no step")))
      refine rng_end (its ++ _, nn + 1) (by assumption) (by assumption) (by k_mem) (by (((try simp only [List.append_nil, List.nil_append, List.cons_append, List.append_assoc]); first | exact (fun p hp => hp) | (simp only [List.forall_mem_cons, List.not_mem_nil, false_implies, implies_true, and_true, true_and]; (repeat' apply And.intro) <;> first | trivial | k_mem) | (simp; done)))) (by (((try simp only [List.append_nil, List.nil_append, List.cons_append, List.append_assoc]); first   | (simp only [List.forall_mem_cons, List.not_mem_nil, false_implies, implies_true, and_true, true_and, ne_eq]; done)   | ((simp only [List.forall_mem_cons, List.not_mem_nil, false_implies, implies_true, and_true, true_and]); (repeat' apply And.intro) <;> first | trivial | assumption | exact Ne.symm (by assumption) | k_ne)))) (by kst_all) (by ((intro z h1 h2 h3; (simp only [List.forall_mem_cons, List.not_mem_nil, false_implies, implies_true, and_true, ne_eq] at h2); (simp only [List.contains_cons, List.contains_nil, Bool.or_false, Bool.or_eq_false_iff, beq_eq_false_iff_ne, ne_eq] at h3); (simp [kstB, h1, h2, h3]; done)))) ?_
      rw [bySort_succ, if_pos hcond, ← srt_eq hp9 hs9]
      exact hP.append hI8
    · rename ¬ ((_ : Int) + _).fmod 2 = 1 => hcond
      rw [hdiv, ne_eq, par_iff] at hcond
      have hzz := IntsAre.length hP
      have hzy := bySort_length (first := first) (i := i) (W := W) (ks := ks) (by omega)
      dsimp only
      refine iadd_K (by k_asm) (by k_asm) (by k_mem) (by omega) (by k_upd) (by omega) ?_
      intro h7 F7 N7
      (repeat' ((fail_if_success (first | with_reducible show wpAny _ _ (PySem.exec (Stmt.Assign _ (Expr.ListComp _ _ _ _) _) _) _ _ _ | with_reducible show wpAny _ _ (PySem.eval (Expr.ListComp _ _ _ _) _) _ _ _ | with_reducible show wpAny _ _ (PySem.setItem _ _ _) _ _ _ | with_reducible show KswEnd _ _ _ _ _ _ _ _ _ _ _ _ | with_reducible show wpAny _ _ (PySem.call (Value.type "bytes") _ _) _ _ _ | with_reducible show wpAny _ _ (PySem.call (Value.ref _) _ _) _ _ _ | with_reducible show wpAny _ _ (exec (Stmt.While _ _ _ _) _) _ _ _ | with_reducible show wpAny _ _ (pyIter _) _ _ _)); (first | ((with_reducible show wpAny _ _ (PySem.execs (_ :: _) _) _ _ _); (first | ((first | with_reducible show wpAny _ _ _ _ _ (PySem.Shared.mk _ _ _ (_ + _) _) | with_reducible show wpAny _ _ _ _ _ (PySem.Shared.mk _ _ _ (PySem.Shared.toks _) _)); (try dsimp only); refine normG s rfl ?_; intro tkN8; (try clear tkN9); rename Nat => tkN9) | dsimp only)) | (k_unfold; (try dsimp only)) | (k_end; wrow_close) | walk1 | (dsimp only; walk1) | (leave1; walk_say "STEP leave1"; try dsimp only) | fail "no step")))
      refine rng_end (its ++ _, nn + 1) (by assumption) (by assumption) (by k_mem) (by (((try simp only [List.append_nil, List.nil_append, List.cons_append, List.append_assoc]); first | exact (fun p hp => hp) | (simp only [List.forall_mem_cons, List.not_mem_nil, false_implies, implies_true, and_true, true_and]; (repeat' apply And.intro) <;> first | trivial | k_mem) | (simp; done)))) (by (((try simp only [List.append_nil, List.nil_append, List.cons_append, List.append_assoc]); first   | (simp only [List.forall_mem_cons, List.not_mem_nil, false_implies, implies_true, and_true, true_and, ne_eq]; done)   | ((simp only [List.forall_mem_cons, List.not_mem_nil, false_implies, implies_true, and_true, true_and]); (repeat' apply And.intro) <;> first | trivial | assumption | exact Ne.symm (by assumption) | k_ne)))) (by kst_all) (by ((intro z h1 h2 h3; (simp only [List.forall_mem_cons, List.not_mem_nil, false_implies, implies_true, and_true, ne_eq] at h2); (simp only [List.contains_cons, List.contains_nil, Bool.or_false, Bool.or_eq_false_iff, beq_eq_false_iff_ne, ne_eq] at h3); (simp [kstB, h1, h2, h3]; done)))) ?_
      rw [bySort_succ, if_neg hcond, ← srt_eq hp9 hs9]
      exact hP.append hI9
  · rintro ⟨its, nn⟩ u h tk hP F N
    clear hR1 F5 N5
    dsimp only [envOf] at *
    have hz := IntsAre.length hP
    have hzy := bySort_length (first := first) (i := R) (W := W) (ks := ks) (by omega)
    have hin : KBa.In (bySort W ks first R) := fun n hn => by
      have hp := bySort_mem hn
      subst hb
      exact KBw.ints_in hp
    (repeat' ((fail_if_success (first | with_reducible show wpAny _ _ (PySem.exec (Stmt.Assign _ (Expr.ListComp _ _ _ _) _) _) _ _ _ | with_reducible show wpAny _ _ (PySem.eval (Expr.ListComp _ _ _ _) _) _ _ _ | with_reducible show wpAny _ _ (PySem.setItem _ _ _) _ _ _ | with_reducible show KswEnd _ _ _ _ _ _ _ _ _ _ _ _ | with_reducible show wpAny _ _ (PySem.call (Value.type "bytes") _ _) _ _ _ | with_reducible show wpAny _ _ (PySem.call (Value.ref _) _ _) _ _ _ | with_reducible show wpAny _ _ (exec (Stmt.While _ _ _ _) _) _ _ _ | with_reducible show wpAny _ _ (pyIter _) _ _ _)); (first | ((with_reducible show wpAny _ _ (PySem.execs (_ :: _) _) _ _ _); (first | ((first | with_reducible show wpAny _ _ _ _ _ (PySem.Shared.mk _ _ _ (_ + _) _) | with_reducible show wpAny _ _ _ _ _ (PySem.Shared.mk _ _ _ (PySem.Shared.toks _) _)); (try dsimp only); refine normG s rfl ?_; intro tkN8; (try clear tkN9); rename Nat => tkN9) | dsimp only)) | (k_unfold; (try dsimp only)) | (k_end; wrow_close) | walk1 | (dsimp only; walk1) | (leave1; walk_say "STEP leave1"; try dsimp only) | fail "no step")))
    refine KBa.make_K (by k_asm) (by k_asm) rfl (by kba_isList) hP hin (by omega) ?_
    intro h7 t7 k7 F7 N7 _
    (repeat' ((fail_if_success (first | with_reducible show wpAny _ _ (PySem.exec (Stmt.Assign _ (Expr.ListComp _ _ _ _) _) _) _ _ _ | with_reducible show wpAny _ _ (PySem.eval (Expr.ListComp _ _ _ _) _) _ _ _ | with_reducible show wpAny _ _ (PySem.setItem _ _ _) _ _ _ | with_reducible show KswEnd _ _ _ _ _ _ _ _ _ _ _ _ | with_reducible show wpAny _ _ (PySem.call (Value.type "bytes") _ _) _ _ _ | with_reducible show wpAny _ _ (PySem.call (Value.ref _) _ _) _ _ _ | with_reducible show wpAny _ _ (exec (Stmt.While _ _ _ _) _) _ _ _ | with_reducible show wpAny _ _ (pyIter _) _ _ _)); (first | ((with_reducible show wpAny _ _ (PySem.execs (_ :: _) _) _ _ _); (first | ((first | with_reducible show wpAny _ _ _ _ _ (PySem.Shared.mk _ _ _ (_ + _) _) | with_reducible show wpAny _ _ _ _ _ (PySem.Shared.mk _ _ _ (PySem.Shared.toks _) _)); (try dsimp only); refine normG s rfl ?_; intro tkN8; (try clear tkN9); rename Nat => tkN9) | dsimp only)) | (k_unfold; (try dsimp only)) | (k_end; wrow_close) | walk1 | (dsimp only; walk1) | (leave1; walk_say "STEP leave1"; try dsimp only) | fail "no step")))
    refine hQ0 _ _ (Left.intro (own' := []) (by assumption) (by assumption) (List.forall_mem_nil _) ⟨rfl, _, _, rfl, KBa.ints_make hin⟩)
end Mine
end
section -- S1
open PySem PySem.W PySem.Calls PyProof.Rows
set_option linter.unusedVariables false
set_option linter.unusedSimpArgs false
set_option maxRecDepth 100000
set_option maxHeartbeats 8000000
namespace Mine
/-- the first i rows of r are l's, turned about -/
def SwapTo (W : Nat) (l : List Int) (i : Nat) (r : List Int) : Prop := r.length = l.length ∧ ∀ a j, a < i → j < W → r.getD (a * W + j) 0 = l.getD (a * W + (W - 1 - j)) 0
/-- and of row i the last j cells -/
def SwapIn (W : Nat) (l : List Int) (i j : Nat) (r : List Int) : Prop := SwapTo W l i r ∧ ∀ k, k < j → r.getD (i * W + (W - 1 - k)) 0 = l.getD (i * W + k) 0
theorem SwapTo.zero (W : Nat) (l : List Int) : SwapTo W l 0 (KBw.bInts (Array.replicate l.length 0)) := ⟨by simp [KBw.bInts], fun a j h => absurd h (Nat.not_lt_zero _)⟩
theorem SwapIn.zero {W i : Nat} {l r : List Int} (h : SwapTo W l i r) : SwapIn W l i 0 r := ⟨h, fun k h => absurd h (Nat.not_lt_zero _)⟩
theorem set_ints (c : Array UInt8) (k : Nat) (v : Int) (h0 : 0 ≤ v) (h1 : v < 256) : KBw.bInts (c.setIfInBounds k v.toNat.toUInt8) = (KBw.bInts c).set k v := by
  unfold KBw.bInts
  rw [Array.toList_setIfInBounds, List.map_set]
  congr 1
  exact byte_back h0 h1
theorem getD_set (l : List Int) (k i : Nat) (v : Int) : (l.set k v).getD i 0 = if k = i ∧ i < l.length then v else l.getD i 0 := by
  rw [List.getD_eq_getElem?_getD, List.getElem?_set, List.getD_eq_getElem?_getD]
  by_cases h : k = i
  · subst h
    by_cases h2 : k < l.length
    · simp [h2]
    · simp [h2, List.getElem?_eq_none (Nat.le_of_not_lt h2)]
  · simp [h]
theorem toNat_flip {c W j : Nat} (h : j < W) : ((c : Int) + (W : Int) - 1 - (j : Int)).toNat = c + (W - 1 - j) := by
  obtain ⟨k, rfl⟩ := Nat.exists_eq_add_of_lt h
  have e : (c : Int) + ((j + k + 1 : Nat) : Int) - 1 - (j : Int) = ((c + k : Nat) : Int) := by omega
  rw [e, Int.toNat_natCast, Nat.add_sub_cancel, Nat.add_sub_cancel_left]
theorem SwapIn.step {W i j : Nat} {l : List Int} {c : Array UInt8} (h : SwapIn W l i j (KBw.bInts c)) (hj : j < W) (hlt : i * W + W ≤ l.length) (h0 : 0 ≤ l.getD (((i * W : Nat) : Int) + (j : Int)).toNat 0) (h1 : l.getD (((i * W : Nat) : Int) + (j : Int)).toNat 0 < 256) :
    SwapIn W l i (j + 1) (KBw.bInts (c.setIfInBounds (((i * W : Nat) : Int) + (W : Int) - 1 - (j : Int)).toNat (l.getD (((i * W : Nat) : Int) + (j : Int)).toNat 0).toNat.toUInt8)) := by
  rw [set_ints _ _ _ h0 h1, toNat_flip hj, show (((i * W : Nat) : Int) + (j : Int)).toNat = i * W + j from rfl]
  obtain ⟨⟨h2, h3⟩, h4⟩ := h
  refine ⟨⟨by rw [List.length_set]; exact h2, fun a b ha hb => ?_⟩, fun k hk => ?_⟩
  · have := succ_le (w := W) ha
    rw [getD_set, if_neg fun q => absurd q.1 (Nat.ne_of_gt (Nat.lt_of_lt_of_le (Nat.lt_of_lt_of_le (Nat.add_lt_add_left hb _) this) (Nat.le_add_right _ _))), h3 a b ha hb]
  · rw [getD_set]
    by_cases e : k = j
    · subst e
      rw [if_pos ⟨rfl, Nat.lt_of_lt_of_le (Nat.add_lt_add_left (Nat.lt_of_le_of_lt (Nat.sub_le _ _) (Nat.sub_one_lt_of_lt hj)) _) (h2 ▸ hlt)⟩]
    · have hkj := Nat.lt_of_le_of_ne (Nat.le_of_lt_succ hk) e
      rw [if_neg fun q => absurd (Nat.add_left_cancel q.1) (Nat.ne_of_lt (Nat.sub_lt_sub_left (Nat.lt_of_lt_of_le hkj (Nat.le_sub_one_of_lt hj)) hkj)), h4 k hkj]
theorem SwapIn.row {W i : Nat} {l r : List Int} (h : SwapIn W l i W r) : SwapTo W l (i + 1) r := by
  obtain ⟨⟨h2, h3⟩, h4⟩ := h
  refine ⟨h2, fun a j ha hj => ?_⟩
  by_cases e : a = i
  · subst e
    have := h4 (W - 1 - j) (Nat.lt_of_le_of_lt (Nat.sub_le _ _) (Nat.sub_one_lt_of_lt hj))
    rw [Nat.sub_sub_self (Nat.le_sub_one_of_lt hj)] at this
    exact this
  · exact h3 a j (Nat.lt_of_le_of_ne (Nat.le_of_lt_succ ha) e) hj
end Mine
end
section -- S1, further
open PySem PySem.W PySem.Calls PyProof.Rows
set_option linter.unusedVariables false
set_option linter.unusedSimpArgs false
set_option maxRecDepth 100000
set_option maxHeartbeats 8000000
namespace Mine
theorem swap_c (w : World) (mean : ExcName → Option Value) (mg mb : Str → Option Value) (b : Array UInt8) (ks : List Int) (hb : KBw.bInts b = ks) (R W : Nat) (hlen : ks.length = R * W) (h100 : ks.length < 100) (hR : 0 < R) (t0 t1 : Tok) (h0 : 0 < W) (h1 : W < 100) :
   ClaimR w mean mg mb 2 21 [] [.bytes b t0, .int W t1] [] (fun r own' => own' = [] ∧ ∃ rb rs t, r = .bytes rb t ∧ KBw.bInts rb = rs ∧ SwapTo W ks R rs) := by
  unfold ClaimR
  k_fill
  w_top off
  intro dp un gd cn cs ca ccd cl outer A₀ base h₀ L m rest s Q E hB hF hK hN hT hk hdis hdp hun hret
  k_dflt (refine' enter_ownR (binds := [(Str.ofString "data", .bytes b t0), (Str.ofString "width", .int W t1)]) ?k1 ?k2 ?k3 ?k4 ?k5 ?kd ?kA ?kF ?kK ?k6 ?k7 ?k8 ?k9 ?kB ?kR ?_ ?c2 ?c3 ?c4 ?c5; (((case kA => exact rfl); (case kF => exact rfl); (case kK => assumption); (case k1 => k_asm); (case k2 => k_asm); (case k3 => k_asm); (case k4 => k_asm); (case k5 => k_asm); (case kd => assumption); (case k6 => k_is); (case k7 => k_is); (case k8 => first | exact room0 (by assumption) | ktr_room); (case k9 => first | exact BindsTo.of_eq rfl | exact kp_binds (by k_in) (fun _ => rfl)); (case c5 => decide); (case kB => exact locs rfl); (case c2 => exact rfl); (case c3 => exact rfl); (case c4 => exact rfl); (case kR => assumption))))
  intro g L' h' F' N' B' X' T' l'
  clear hret hB hF hK hN hT hdis
  try dsimp only
  refine hideR ?_
  intro Q0 hQ0
  have hpos : 0 < ks.length := by rw [hlen]; exact Nat.mul_pos hR h0
  refine execs_R (assign_R (Call_R ?_) ?_)
  rotate_left
  · rfl
  (repeat' ((fail_if_success (first | with_reducible show wpR _ _ _ _ _ _ | with_reducible show wpAny _ _ (PySem.exec (Stmt.Assign _ (Expr.ListComp _ _ _ _) _) _) _ _ _ | with_reducible show wpAny _ _ (PySem.eval (Expr.ListComp _ _ _ _) _) _ _ _ | with_reducible show wpAny _ _ (PySem.setItem _ _ _) _ _ _ | with_reducible show KswEnd _ _ _ _ _ _ _ _ _ _ _ _ | with_reducible show wpAny _ _ (PySem.call (Value.type "bytes") _ _) _ _ _ | with_reducible show wpAny _ _ (PySem.call (Value.ref _) _ _) _ _ _ | with_reducible show wpAny _ _ (exec (Stmt.While _ _ _ _) _) _ _ _ | with_reducible show wpAny _ _ (pyIter _) _ _ _)); (first | ((with_reducible show wpAny _ _ (PySem.execs (_ :: _) _) _ _ _); (first | ((first | with_reducible show wpAny _ _ _ _ _ (PySem.Shared.mk _ _ _ (_ + _) _) | with_reducible show wpAny _ _ _ _ _ (PySem.Shared.mk _ _ _ (PySem.Shared.toks _) _)); (try dsimp only); refine normG s rfl ?_; intro tkN8; (try clear tkN9); rename Nat => tkN9) | dsimp only)) | (k_unfold; (try dsimp only)) | (k_end; wrow_close) | walk1 | (dsimp only; walk1) | (leave1; walk_say "STEP leave1"; try dsimp only) | fail "no step")))
  refine callWith_type_R1 ?_
  (repeat' ((fail_if_success (first | with_reducible show wpR _ _ _ _ _ _ | with_reducible show wpAny _ _ (PySem.exec (Stmt.Assign _ (Expr.ListComp _ _ _ _) _) _) _ _ _ | with_reducible show wpAny _ _ (PySem.eval (Expr.ListComp _ _ _ _) _) _ _ _ | with_reducible show wpAny _ _ (PySem.setItem _ _ _) _ _ _ | with_reducible show KswEnd _ _ _ _ _ _ _ _ _ _ _ _ | with_reducible show wpAny _ _ (PySem.call (Value.type "bytes") _ _) _ _ _ | with_reducible show wpAny _ _ (PySem.call (Value.ref _) _ _) _ _ _ | with_reducible show wpAny _ _ (exec (Stmt.While _ _ _ _) _) _ _ _ | with_reducible show wpAny _ _ (pyIter _) _ _ _)); (first | ((with_reducible show wpAny _ _ (PySem.execs (_ :: _) _) _ _ _); (first | ((first | with_reducible show wpAny _ _ _ _ _ (PySem.Shared.mk _ _ _ (_ + _) _) | with_reducible show wpAny _ _ _ _ _ (PySem.Shared.mk _ _ _ (PySem.Shared.toks _) _)); (try dsimp only); refine normG s rfl ?_; intro tkN8; (try clear tkN9); rename Nat => tkN9) | dsimp only)) | (k_unfold; (try dsimp only)) | (k_end; wrow_close) | walk1 | (dsimp only; walk1) | (leave1; walk_say "STEP leave1"; try dsimp only) | fail "no step")))

  refine ba_make_K (by k_asm) (by k_asm) hpos (by omega) ?_
  intro D h2 F2 N2 l2
  dsimp only
  (repeat' ((fail_if_success (first | with_reducible show wpR _ _ _ _ _ _ | with_reducible show wpAny _ _ (PySem.exec (Stmt.Assign _ (Expr.ListComp _ _ _ _) _) _) _ _ _ | with_reducible show wpAny _ _ (PySem.eval (Expr.ListComp _ _ _ _) _) _ _ _ | with_reducible show wpAny _ _ (PySem.setItem _ _ _) _ _ _ | with_reducible show KswEnd _ _ _ _ _ _ _ _ _ _ _ _ | with_reducible show wpAny _ _ (PySem.call (Value.type "bytes") _ _) _ _ _ | with_reducible show wpAny _ _ (PySem.call (Value.ref _) _ _) _ _ _ | with_reducible show wpAny _ _ (exec (Stmt.While _ _ _ _) _) _ _ _ | with_reducible show wpAny _ _ (pyIter _) _ _ _)); (first | ((with_reducible show wpAny _ _ (PySem.execs (_ :: _) _) _ _ _); (first | ((first | with_reducible show wpAny _ _ _ _ _ (PySem.Shared.mk _ _ _ (_ + _) _) | with_reducible show wpAny _ _ _ _ _ (PySem.Shared.mk _ _ _ (PySem.Shared.toks _) _)); (try dsimp only); refine normG s rfl ?_; intro tkN8; (try clear tkN9); rename Nat => tkN9) | dsimp only)) | (k_unfold; (try dsimp only)) | (k_end; wrow_close) | walk1 | (dsimp only; walk1) | (leave1; walk_say "STEP leave1"; try dsimp only) | fail "no step")))
  refine wpR_any ?_
  (repeat' ((fail_if_success (first | with_reducible show wpR _ _ _ _ _ _ | with_reducible show wpAny _ _ (PySem.exec (Stmt.Assign _ (Expr.ListComp _ _ _ _) _) _) _ _ _ | with_reducible show wpAny _ _ (PySem.eval (Expr.ListComp _ _ _ _) _) _ _ _ | with_reducible show wpAny _ _ (PySem.setItem _ _ _) _ _ _ | with_reducible show KswEnd _ _ _ _ _ _ _ _ _ _ _ _ | with_reducible show wpAny _ _ (PySem.call (Value.type "bytes") _ _) _ _ _ | with_reducible show wpAny _ _ (PySem.call (Value.ref _) _ _) _ _ _ | with_reducible show wpAny _ _ (exec (Stmt.While _ _ _ _) _) _ _ _ | with_reducible show wpAny _ _ (pyIter _) _ _ _)); (first | ((with_reducible show wpAny _ _ (PySem.execs (_ :: _) _) _ _ _); (first | ((first | with_reducible show wpAny _ _ _ _ _ (PySem.Shared.mk _ _ _ (_ + _) _) | with_reducible show wpAny _ _ _ _ _ (PySem.Shared.mk _ _ _ (PySem.Shared.toks _) _)); (try dsimp only); refine normG s rfl ?_; intro tkN8; (try clear tkN9); rename Nat => tkN9) | dsimp only)) | (k_unfold; (try dsimp only)) | (k_end; wrow_close) | walk1 | (dsimp only; walk1) | (leave1; walk_say "STEP leave1"; try dsimp only) | fail "no step")))
  rename IsRange _ _ _ _ _ _ _ _ => hR1
  rename Fr _ _ _ _ => F5
  rename News _ _ _ _ => N5
  have hsz : Builtin.Range.rangeSize 0 (ks.length : Int) (W : Int) = (R : Int) := by rw [hlen]; exact rs_size (f := 0) h0
  first | (refine normG s rfl ?_; intro tkR9) | (refine normH s rfl ?_; intro tkR9) | skip
  refine rng_loop (σ := Array UInt8) (n := R) (fun c => [(D, baOf c)]) (fun _ => []) [Str.ofString "j"] (fun i => ((i * W : Nat) : Int))
    (fun i c => SwapTo W ks i (KBw.bInts c)) (Array.replicate ks.length 0) (by intro i; rw [Int.natCast_mul]; omega) rfl hR1 (rs_small (by omega) (by omega) (by omega) (by omega) (by omega) (by omega)) hsz F5 N5 (by kst_all) ?_ ?_ ?_
  · exact SwapTo.zero _ _
  · rintro I it i c t u h tk hi hP hne F N
    clear hR1 F5 N5
    dsimp only [envOf] at *
    (repeat' ((fail_if_success (first | with_reducible show wpR _ _ _ _ _ _ | with_reducible show wpAny _ _ (PySem.exec (Stmt.Assign _ (Expr.ListComp _ _ _ _) _) _) _ _ _ | with_reducible show wpAny _ _ (PySem.eval (Expr.ListComp _ _ _ _) _) _ _ _ | with_reducible show wpAny _ _ (PySem.setItem _ _ _) _ _ _ | with_reducible show KswEnd _ _ _ _ _ _ _ _ _ _ _ _ | with_reducible show wpAny _ _ (PySem.call (Value.type "bytes") _ _) _ _ _ | with_reducible show wpAny _ _ (PySem.call (Value.ref _) _ _) _ _ _ | with_reducible show wpAny _ _ (exec (Stmt.While _ _ _ _) _) _ _ _ | with_reducible show wpAny _ _ (pyIter _) _ _ _)); (first | ((with_reducible show wpAny _ _ (PySem.execs (_ :: _) _) _ _ _); (first | ((first | with_reducible show wpAny _ _ _ _ _ (PySem.Shared.mk _ _ _ (_ + _) _) | with_reducible show wpAny _ _ _ _ _ (PySem.Shared.mk _ _ _ (PySem.Shared.toks _) _)); (try dsimp only); refine normG s rfl ?_; intro tkN8; (try clear tkN9); rename Nat => tkN9) | dsimp only)) | (k_unfold; (try dsimp only)) | (k_end; wrow_close) | walk1 | (dsimp only; walk1) | (leave1; walk_say "STEP leave1"; try dsimp only) | fail "no step")))
    rename IsRange _ _ _ _ _ _ _ _ => hR2
    rename Fr _ _ _ _ => F6
    rename News _ _ _ _ => N6
    first | (refine normG s rfl ?_; intro tkR9) | (refine normH s rfl ?_; intro tkR9) | skip
    refine rng_loop (σ := Array UInt8) (n := W) (fun c => [(I, it), (D, baOf c)]) (fun _ => []) [] (fun j => (j : Int))
      (fun j c => SwapIn W ks i j (KBw.bInts c)) c (by intro i; omega) rfl hR2 (rs_small (by omega) (by omega) (by omega) (by omega) (by omega) (by omega)) (rs_one _) F6 N6 (by kst_all) ?_ ?_ ?_
    · exact SwapIn.zero hP
    · rintro I2 it2 j c2 t2 u2 h2' tk2 hj hP2 hne2 F7 N7
      clear hR2 F6 N6
      dsimp only [envOf] at *
      simp only [List.forall_mem_cons, List.not_mem_nil, false_implies, implies_true, and_true, true_and] at hne hne2
      obtain ⟨hne3, hne4⟩ := hne2
      have n1 : @Ne Nat D I := hne
      have n2 : @Ne Nat I I2 := hne3
      have n3 : @Ne Nat D I2 := hne4
      have hlt : i * W + W ≤ ks.length := by
        have : (i + 1) * W ≤ R * W := Nat.mul_le_mul_right _ hi
        rw [Nat.add_mul, Nat.one_mul] at this; omega
      generalize hv : i * W = v at *
      (repeat' ((fail_if_success (first | with_reducible show wpR _ _ _ _ _ _ | with_reducible show wpAny _ _ (PySem.exec (Stmt.Assign _ (Expr.ListComp _ _ _ _) _) _) _ _ _ | with_reducible show wpAny _ _ (PySem.eval (Expr.ListComp _ _ _ _) _) _ _ _ | with_reducible show wpAny _ _ (PySem.setItem _ _ _) _ _ _ | with_reducible show KswEnd _ _ _ _ _ _ _ _ _ _ _ _ | with_reducible show wpAny _ _ (PySem.call (Value.type "bytes") _ _) _ _ _ | with_reducible show wpAny _ _ (PySem.call (Value.ref _) _ _) _ _ _ | with_reducible show wpAny _ _ (exec (Stmt.While _ _ _ _) _) _ _ _ | with_reducible show wpAny _ _ (pyIter _) _ _ _)); (first | ((with_reducible show wpAny _ _ (PySem.execs (_ :: _) _) _ _ _); (first | ((first | with_reducible show wpAny _ _ _ _ _ (PySem.Shared.mk _ _ _ (_ + _) _) | with_reducible show wpAny _ _ _ _ _ (PySem.Shared.mk _ _ _ (PySem.Shared.toks _) _)); (try dsimp only); refine normG s rfl ?_; intro tkN8; (try clear tkN9); rename Nat => tkN9) | dsimp only)) | (k_unfold; (try dsimp only)) | (k_end; wrow_close) | walk1 | (dsimp only; walk1) | (leave1; walk_say "STEP leave1"; try dsimp only) | fail "no step")))
      have hc2 : c2.size = ks.length := by have := hP2.1.1; rw [KBw.ints_length] at this; exact this
      refine ba_set_K (by k_asm) (by k_asm) (by k_upd) (by omega) (by omega) (by omega) (by assumption) (by assumption) ?_
      intro h8 F8 N8
      dsimp only
      (repeat' ((fail_if_success (first | with_reducible show wpR _ _ _ _ _ _ | with_reducible show wpAny _ _ (PySem.exec (Stmt.Assign _ (Expr.ListComp _ _ _ _) _) _) _ _ _ | with_reducible show wpAny _ _ (PySem.eval (Expr.ListComp _ _ _ _) _) _ _ _ | with_reducible show wpAny _ _ (PySem.setItem _ _ _) _ _ _ | with_reducible show KswEnd _ _ _ _ _ _ _ _ _ _ _ _ | with_reducible show wpAny _ _ (PySem.call (Value.type "bytes") _ _) _ _ _ | with_reducible show wpAny _ _ (PySem.call (Value.ref _) _ _) _ _ _ | with_reducible show wpAny _ _ (exec (Stmt.While _ _ _ _) _) _ _ _ | with_reducible show wpAny _ _ (pyIter _) _ _ _)); (first | ((with_reducible show wpAny _ _ (PySem.execs (_ :: _) _) _ _ _); (first | ((first | with_reducible show wpAny _ _ _ _ _ (PySem.Shared.mk _ _ _ (_ + _) _) | with_reducible show wpAny _ _ _ _ _ (PySem.Shared.mk _ _ _ (PySem.Shared.toks _) _)); (try dsimp only); refine normG s rfl ?_; intro tkN8; (try clear tkN9); rename Nat => tkN9) | dsimp only)) | (k_unfold; (try dsimp only)) | (k_end; wrow_close) | walk1 | (dsimp only; walk1) | (leave1; walk_say "STEP leave1"; try dsimp only) | fail "no step")))
      refine rng_end (c2.setIfInBounds _ _) (by assumption) (by assumption) (by k_mem) (by (((try simp only [List.append_nil, List.nil_append, List.cons_append, List.append_assoc]); first | exact (fun p hp => hp) | (simp only [List.forall_mem_cons, List.not_mem_nil, false_implies, implies_true, and_true, true_and]; (repeat' apply And.intro) <;> first | trivial | k_mem) | (simp; done)))) (by (((try simp only [List.append_nil, List.nil_append, List.cons_append, List.append_assoc]); first   | (simp only [List.forall_mem_cons, List.not_mem_nil, false_implies, implies_true, and_true, true_and, ne_eq]; done)   | ((simp only [List.forall_mem_cons, List.not_mem_nil, false_implies, implies_true, and_true, true_and]); (repeat' apply And.intro) <;> first | trivial | assumption | exact Ne.symm (by assumption) | k_ne)))) (by kst_all) (by ((intro z h1 h2 h3; (simp only [List.forall_mem_cons, List.not_mem_nil, false_implies, implies_true, and_true, ne_eq] at h2); (simp only [List.contains_cons, List.contains_nil, Bool.or_false, Bool.or_eq_false_iff, beq_eq_false_iff_ne, ne_eq] at h3); (simp [kstB, h1, h2, h3]; done)))) ?_
      subst hv
      exact SwapIn.step hP2 hj hlt (by assumption) (by assumption)
    · rintro c2 u2 h2' tk2 hP2 F7 N7
      clear hR2 F6 N6
      dsimp only [envOf] at *
      (repeat' ((fail_if_success (first | with_reducible show wpR _ _ _ _ _ _ | with_reducible show wpAny _ _ (PySem.exec (Stmt.Assign _ (Expr.ListComp _ _ _ _) _) _) _ _ _ | with_reducible show wpAny _ _ (PySem.eval (Expr.ListComp _ _ _ _) _) _ _ _ | with_reducible show wpAny _ _ (PySem.setItem _ _ _) _ _ _ | with_reducible show KswEnd _ _ _ _ _ _ _ _ _ _ _ _ | with_reducible show wpAny _ _ (PySem.call (Value.type "bytes") _ _) _ _ _ | with_reducible show wpAny _ _ (PySem.call (Value.ref _) _ _) _ _ _ | with_reducible show wpAny _ _ (exec (Stmt.While _ _ _ _) _) _ _ _ | with_reducible show wpAny _ _ (pyIter _) _ _ _)); (first | ((with_reducible show wpAny _ _ (PySem.execs (_ :: _) _) _ _ _); (first | ((first | with_reducible show wpAny _ _ _ _ _ (PySem.Shared.mk _ _ _ (_ + _) _) | with_reducible show wpAny _ _ _ _ _ (PySem.Shared.mk _ _ _ (PySem.Shared.toks _) _)); (try dsimp only); refine normG s rfl ?_; intro tkN8; (try clear tkN9); rename Nat => tkN9) | dsimp only)) | (k_unfold; (try dsimp only)) | (k_end; wrow_close) | walk1 | (dsimp only; walk1) | (leave1; walk_say "STEP leave1"; try dsimp only) | fail "no step")))
      dsimp only [RngPost]
      simp only [List.forall_mem_cons, List.not_mem_nil, false_implies, implies_true, and_true, true_and] at hne
      refine rng_end c2 (by assumption) (by assumption) (by k_mem) (by (((try simp only [List.append_nil, List.nil_append, List.cons_append, List.append_assoc]); first | exact (fun p hp => hp) | (simp only [List.forall_mem_cons, List.not_mem_nil, false_implies, implies_true, and_true, true_and]; (repeat' apply And.intro) <;> first | trivial | k_mem) | (simp; done)))) (by (((try simp only [List.append_nil, List.nil_append, List.cons_append, List.append_assoc]); first   | (simp only [List.forall_mem_cons, List.not_mem_nil, false_implies, implies_true, and_true, true_and, ne_eq]; done)   | ((simp only [List.forall_mem_cons, List.not_mem_nil, false_implies, implies_true, and_true, true_and]); (repeat' apply And.intro) <;> first | trivial | assumption | exact Ne.symm (by assumption) | k_ne)))) (by kst_all) (by ((intro z h1 h2 h3; (simp only [List.forall_mem_cons, List.not_mem_nil, false_implies, implies_true, and_true, ne_eq] at h2); (simp only [List.contains_cons, List.contains_nil, Bool.or_false, Bool.or_eq_false_iff, beq_eq_false_iff_ne, ne_eq] at h3); (simp [kstB, h1, h2, h3]; done)))) ?_
      exact SwapIn.row hP2
  · rintro c u h tk hP F N
    clear hR1 F5 N5
    dsimp only [envOf] at *
    (repeat' ((fail_if_success (first | with_reducible show wpR _ _ _ _ _ _ | with_reducible show wpAny _ _ (PySem.exec (Stmt.Assign _ (Expr.ListComp _ _ _ _) _) _) _ _ _ | with_reducible show wpAny _ _ (PySem.eval (Expr.ListComp _ _ _ _) _) _ _ _ | with_reducible show wpAny _ _ (PySem.setItem _ _ _) _ _ _ | with_reducible show KswEnd _ _ _ _ _ _ _ _ _ _ _ _ | with_reducible show wpAny _ _ (PySem.call (Value.type "bytes") _ _) _ _ _ | with_reducible show wpAny _ _ (PySem.call (Value.ref _) _ _) _ _ _ | with_reducible show wpAny _ _ (exec (Stmt.While _ _ _ _) _) _ _ _ | with_reducible show wpAny _ _ (pyIter _) _ _ _)); (first | ((with_reducible show wpAny _ _ (PySem.execs (_ :: _) _) _ _ _); (first | ((first | with_reducible show wpAny _ _ _ _ _ (PySem.Shared.mk _ _ _ (_ + _) _) | with_reducible show wpAny _ _ _ _ _ (PySem.Shared.mk _ _ _ (PySem.Shared.toks _) _)); (try dsimp only); refine normG s rfl ?_; intro tkN8; (try clear tkN9); rename Nat => tkN9) | dsimp only)) | (k_unfold; (try dsimp only)) | (k_end; wrow_close) | walk1 | (dsimp only; walk1) | (leave1; walk_say "STEP leave1"; try dsimp only) | fail "no step")))
    have hc2 : c.size = ks.length := by have := hP.1; rw [KBw.ints_length] at this; exact this
    refine ba_bytes (News.get (by k_asm) (by k_mem)) (by rw [sizeLine_eq]; omega) ?_
    intro t7 k7
    (repeat' ((fail_if_success (first | with_reducible show wpR _ _ _ _ _ _ | with_reducible show wpAny _ _ (PySem.exec (Stmt.Assign _ (Expr.ListComp _ _ _ _) _) _) _ _ _ | with_reducible show wpAny _ _ (PySem.eval (Expr.ListComp _ _ _ _) _) _ _ _ | with_reducible show wpAny _ _ (PySem.setItem _ _ _) _ _ _ | with_reducible show KswEnd _ _ _ _ _ _ _ _ _ _ _ _ | with_reducible show wpAny _ _ (PySem.call (Value.type "bytes") _ _) _ _ _ | with_reducible show wpAny _ _ (PySem.call (Value.ref _) _ _) _ _ _ | with_reducible show wpAny _ _ (exec (Stmt.While _ _ _ _) _) _ _ _ | with_reducible show wpAny _ _ (pyIter _) _ _ _)); (first | ((with_reducible show wpAny _ _ (PySem.execs (_ :: _) _) _ _ _); (first | ((first | with_reducible show wpAny _ _ _ _ _ (PySem.Shared.mk _ _ _ (_ + _) _) | with_reducible show wpAny _ _ _ _ _ (PySem.Shared.mk _ _ _ (PySem.Shared.toks _) _)); (try dsimp only); refine normG s rfl ?_; intro tkN8; (try clear tkN9); rename Nat => tkN9) | dsimp only)) | (k_unfold; (try dsimp only)) | (k_end; wrow_close) | walk1 | (dsimp only; walk1) | (leave1; walk_say "STEP leave1"; try dsimp only) | fail "no step")))
    refine hQ0 _ _ (Left.intro (own' := []) (by assumption) (by assumption) (List.forall_mem_nil _) ⟨rfl, _, _, _, rfl, rfl, hP⟩)
end Mine
end
section -- TF
open PySem PySem.W PySem.Calls PyProof.Rows
set_option linter.unusedVariables false
set_option linter.unusedSimpArgs false
set_option maxRecDepth 100000
set_option maxHeartbeats 8000000
namespace Mine
theorem Lay.srt {W : Nat} {ks rs : List Int} (h : Lay W ks rs) (r : Nat) : chunk W r rs = Mine.srt (chunk W r ks) := srt_eq (h.2 r).1 (h.2 r).2
theorem SwapTo.rev {W R : Nat} {l r : List Int} (h : SwapTo W l R r) (hlen : l.length = R * W) (i : Nat) (hi : i < R) : chunk W i r = (chunk W i l).reverse := by
  have hlt : i * W + W ≤ l.length := hlen ▸ succ_le hi
  have l1 : (chunk W i l).length = W := chunk_len hlt
  have l2 : (chunk W i r).length = W := chunk_len (h.1 ▸ hlt)
  apply List.ext_getElem (by rw [List.length_reverse, l1, l2])
  intro j h1 h2
  have hj : j < W := l2 ▸ h1
  have hk : W - 1 - j < W := Nat.lt_of_le_of_lt (Nat.sub_le _ _) (Nat.sub_one_lt_of_lt hj)
  rw [List.getElem_reverse]
  have e1 := h.2 i j hi hj
  rw [← chunk_getD hj, ← chunk_getD hk] at e1
  simp only [List.getD_eq_getElem?_getD] at e1
  rw [List.getElem?_eq_getElem h1, List.getElem?_eq_getElem (l1.symm ▸ hk)] at e1
  simp only [Option.getD_some] at e1
  rw [e1]
  congr 1
  rw [l1]
theorem bvals_snoc (its : List (Array UInt8 × Tok)) (a : Array UInt8) (t : Tok) : bvals its ++ [.bytes a t] = bvals (its ++ [(a, t)]) := by simp [bvals]
theorem bsum_ints (ps : List (Array UInt8 × Tok)) : bsum ps = (ps.map fun p => KBw.bInts p.1).flatten.length := by
  induction ps with
  | nil => rfl
  | cons p ps ih => simp only [bsum, List.map_cons, List.flatten_cons, List.length_append, KBw.ints_length, ih]
end Mine
end
section -- TF, further
open PySem PySem.W PySem.Calls PyProof.Rows
set_option linter.unusedVariables false
set_option linter.unusedSimpArgs false
set_option maxRecDepth 100000
set_option maxHeartbeats 8000000
namespace Mine
theorem fro_c (w : World) (mean : ExcName → Option Value) (mg mb : Str → Option Value) (b : Array UInt8) (ks : List Int) (hb : KBw.bInts b = ks) (R W : Nat) (hlen : ks.length = R * W) (h100 : ks.length < 64) (hR : 1 < R) (t0 t1 : Tok) (h0 : 0 < W) (h1 : W < 100) :
   ClaimR w mean mg mb 5 67 [] [.bytes b t0, .int W t1] [] (fun r own' => own' = [] ∧ ∃ rb t, r = .bytes rb t ∧ KBw.bInts rb = bySort W ks 0 R) := by
  unfold ClaimR
  k_fill
  w_top off
  intro dp un gd cn cs ca ccd cl outer A₀ base h₀ L m rest s Q E hB hF hK hN hT hk hdis hdp hun hret
  k_dflt (refine' enter_ownR (binds := [(Str.ofString "cells", .bytes b t0), (Str.ofString "width", .int W t1)]) ?k1 ?k2 ?k3 ?k4 ?k5 ?kd ?kA ?kF ?kK ?k6 ?k7 ?k8 ?k9 ?kB ?kR ?_ ?c2 ?c3 ?c4 ?c5; (((case kA => exact rfl); (case kF => exact rfl); (case kK => assumption); (case k1 => k_asm); (case k2 => k_asm); (case k3 => k_asm); (case k4 => k_asm); (case k5 => k_asm); (case kd => assumption); (case k6 => k_is); (case k7 => k_is); (case k8 => first | exact room0 (by assumption) | ktr_room); (case k9 => first | exact BindsTo.of_eq rfl | exact kp_binds (by k_in) (fun _ => rfl)); (case c5 => decide); (case kB => exact locs rfl); (case c2 => exact rfl); (case c3 => exact rfl); (case c4 => exact rfl); (case kR => assumption))))
  intro g L' h' F' N' B' X' T' l'
  clear hret hB hF hK hN hT hdis
  try dsimp only
  refine hideR ?_
  intro Q0 hQ0
  have hpos : 0 < ks.length := by rw [hlen]; exact Nat.mul_pos (by omega) h0
  have hRk : R ≤ ks.length := by rw [hlen]; exact Nat.le_mul_of_pos_right _ h0
  refine execs_A ?_
  (repeat' ((fail_if_success (first | with_reducible show wpAny _ _ (PySem.call (Value.builtin "list.append") [_, Value.bytes _ _] _) _ _ _ | with_reducible show wpR _ _ _ _ _ _ | with_reducible show wpAny _ _ (PySem.exec (Stmt.Assign _ (Expr.ListComp _ _ _ _) _) _) _ _ _ | with_reducible show wpAny _ _ (PySem.eval (Expr.ListComp _ _ _ _) _) _ _ _ | with_reducible show wpAny _ _ (PySem.setItem _ _ _) _ _ _ | with_reducible show KswEnd _ _ _ _ _ _ _ _ _ _ _ _ | with_reducible show wpAny _ _ (PySem.call (Value.type "bytes") _ _) _ _ _ | with_reducible show wpAny _ _ (PySem.call (Value.ref _) _ _) _ _ _ | with_reducible show wpAny _ _ (exec (Stmt.While _ _ _ _) _) _ _ _ | with_reducible show wpAny _ _ (pyIter _) _ _ _)); (first | ((with_reducible show wpAny _ _ (PySem.execs (_ :: _) _) _ _ _); (first | ((first | with_reducible show wpAny _ _ _ _ _ (PySem.Shared.mk _ _ _ (_ + _) _) | with_reducible show wpAny _ _ _ _ _ (PySem.Shared.mk _ _ _ (PySem.Shared.toks _) _)); (try dsimp only); refine normG s rfl ?_; intro tkN8; (try clear tkN9); rename Nat => tkN9) | dsimp only)) | (k_unfold; (try dsimp only)) | (k_end; wrow_close) | walk1 | (dsimp only; walk1) | (leave1; walk_say "STEP leave1"; try dsimp only) | fail "no step")))
  refine hideA ?_
  intro QC1 hQC1
  k_dflt (refine' use_claim (laid_c w mean mg mb b ks hb (by omega) W _ _ h0 h1) [] ?k1 ?k2 ?k3 ?k4 ?k5 ?k6 ?k7 ?k8 ?k9 ?k10 ?_; (((case k1 => k_asm); (case k2 => k_asm); (case k3 => k_asm); (case k4 => k_asm); (case k5 => k_asm); (case k6 => exact rfl); (case k7 => (((try simp only [List.append_nil, List.nil_append, List.cons_append, List.append_assoc]); first | exact (fun p hp => hp) | (simp only [List.forall_mem_cons, List.not_mem_nil, false_implies, implies_true, and_true, true_and]; (repeat' apply And.intro) <;> first | trivial | k_mem) | (simp; done)))); (case k8 => (((try simp only [List.append_nil, List.nil_append, List.cons_append, List.append_assoc]); first   | (simp only [List.forall_mem_cons, List.not_mem_nil, false_implies, implies_true, and_true, true_and, ne_eq]; done)   | ((simp only [List.forall_mem_cons, List.not_mem_nil, false_implies, implies_true, and_true, true_and]); (repeat' apply And.intro) <;> first | trivial | assumption | exact Ne.symm (by assumption) | k_ne)))); (case k9 => first | exact room1 (by assumption) (by decide) | ktr_room); (case k10 => first | exact units1 (by assumption) (by decide) | ktr_units))))
  rintro r own' h6 tk6 ⟨rfl, rb, rs, t, rfl, hrb, hLay⟩ F6 N6 q6
  refine hQC1 _ _ ?_
  clear hQC1
  first | refine normA s rfl ?_ | refine normR s rfl ?_ | skip
  have hll := hLay.1
  (repeat' ((fail_if_success (first | with_reducible show wpAny _ _ (PySem.call (Value.builtin "list.append") [_, Value.bytes _ _] _) _ _ _ | with_reducible show wpR _ _ _ _ _ _ | with_reducible show wpAny _ _ (PySem.exec (Stmt.Assign _ (Expr.ListComp _ _ _ _) _) _) _ _ _ | with_reducible show wpAny _ _ (PySem.eval (Expr.ListComp _ _ _ _) _) _ _ _ | with_reducible show wpAny _ _ (PySem.setItem _ _ _) _ _ _ | with_reducible show KswEnd _ _ _ _ _ _ _ _ _ _ _ _ | with_reducible show wpAny _ _ (PySem.call (Value.type "bytes") _ _) _ _ _ | with_reducible show wpAny _ _ (PySem.call (Value.ref _) _ _) _ _ _ | with_reducible show wpAny _ _ (exec (Stmt.While _ _ _ _) _) _ _ _ | with_reducible show wpAny _ _ (pyIter _) _ _ _)); (first | ((with_reducible show wpAny _ _ (PySem.execs (_ :: _) _) _ _ _); (first | ((first | with_reducible show wpAny _ _ _ _ _ (PySem.Shared.mk _ _ _ (_ + _) _) | with_reducible show wpAny _ _ _ _ _ (PySem.Shared.mk _ _ _ (PySem.Shared.toks _) _)); (try dsimp only); refine normG s rfl ?_; intro tkN8; (try clear tkN9); rename Nat => tkN9) | dsimp only)) | (k_unfold; (try dsimp only)) | (k_end; wrow_close) | walk1 | (dsimp only; walk1) | (leave1; walk_say "STEP leave1"; try dsimp only) | fail "no step")))
  refine execs_R (assign_call_R (K := hq.heap_1_39 w.params) ?_)
  (repeat' ((fail_if_success (first | with_reducible show wpAny _ _ (PySem.call (Value.builtin "list.append") [_, Value.bytes _ _] _) _ _ _ | with_reducible show wpR _ _ _ _ _ _ | with_reducible show wpAny _ _ (PySem.exec (Stmt.Assign _ (Expr.ListComp _ _ _ _) _) _) _ _ _ | with_reducible show wpAny _ _ (PySem.eval (Expr.ListComp _ _ _ _) _) _ _ _ | with_reducible show wpAny _ _ (PySem.setItem _ _ _) _ _ _ | with_reducible show KswEnd _ _ _ _ _ _ _ _ _ _ _ _ | with_reducible show wpAny _ _ (PySem.call (Value.type "bytes") _ _) _ _ _ | with_reducible show wpAny _ _ (PySem.call (Value.ref _) _ _) _ _ _ | with_reducible show wpAny _ _ (exec (Stmt.While _ _ _ _) _) _ _ _ | with_reducible show wpAny _ _ (pyIter _) _ _ _)); (first | ((with_reducible show wpAny _ _ (PySem.execs (_ :: _) _) _ _ _); (first | ((first | with_reducible show wpAny _ _ _ _ _ (PySem.Shared.mk _ _ _ (_ + _) _) | with_reducible show wpAny _ _ _ _ _ (PySem.Shared.mk _ _ _ (PySem.Shared.toks _) _)); (try dsimp only); refine normG s rfl ?_; intro tkN8; (try clear tkN9); rename Nat => tkN9) | dsimp only)) | (k_unfold; (try dsimp only)) | (k_end; wrow_close) | walk1 | (dsimp only; walk1) | (leave1; walk_say "STEP leave1"; try dsimp only) | fail "no step")))
  refine hideR ?_
  intro QC2 hQC2
  k_dflt (refine' use_claimR (swap_c w mean mg mb rb rs hrb R W (by omega) (by omega) (by omega) _ _ h0 h1) [] ?k1 ?k2 ?k3 ?k4 ?k5 ?k6 ?k7 ?k8 ?k9 ?k10 ?_; (((case k1 => k_asm); (case k2 => k_asm); (case k3 => k_asm); (case k4 => k_asm); (case k5 => k_asm); (case k6 => exact rfl); (case k7 => (((try simp only [List.append_nil, List.nil_append, List.cons_append, List.append_assoc]); first | exact (fun p hp => hp) | (simp only [List.forall_mem_cons, List.not_mem_nil, false_implies, implies_true, and_true, true_and]; (repeat' apply And.intro) <;> first | trivial | k_mem) | (simp; done)))); (case k8 => (((try simp only [List.append_nil, List.nil_append, List.cons_append, List.append_assoc]); first   | (simp only [List.forall_mem_cons, List.not_mem_nil, false_implies, implies_true, and_true, true_and, ne_eq]; done)   | ((simp only [List.forall_mem_cons, List.not_mem_nil, false_implies, implies_true, and_true, true_and]); (repeat' apply And.intro) <;> first | trivial | assumption | exact Ne.symm (by assumption) | k_ne)))); (case k9 => first | exact room1 (by assumption) (by decide) | ktr_room); (case k10 => first | exact units1 (by assumption) (by decide) | ktr_units))))
  rintro r own' h7 tk7 ⟨rfl, rb2, ts, t2, rfl, hrb2, hSw⟩ F7 N7 q7
  refine hQC2 _ _ ?_
  clear hQC2
  first | refine normA s rfl ?_ | refine normR s rfl ?_ | skip
  have hl2 := hSw.1
  (repeat' ((fail_if_success (first | with_reducible show wpAny _ _ (PySem.call (Value.builtin "list.append") [_, Value.bytes _ _] _) _ _ _ | with_reducible show wpR _ _ _ _ _ _ | with_reducible show wpAny _ _ (PySem.exec (Stmt.Assign _ (Expr.ListComp _ _ _ _) _) _) _ _ _ | with_reducible show wpAny _ _ (PySem.eval (Expr.ListComp _ _ _ _) _) _ _ _ | with_reducible show wpAny _ _ (PySem.setItem _ _ _) _ _ _ | with_reducible show KswEnd _ _ _ _ _ _ _ _ _ _ _ _ | with_reducible show wpAny _ _ (PySem.call (Value.type "bytes") _ _) _ _ _ | with_reducible show wpAny _ _ (PySem.call (Value.ref _) _ _) _ _ _ | with_reducible show wpAny _ _ (exec (Stmt.While _ _ _ _) _) _ _ _ | with_reducible show wpAny _ _ (pyIter _) _ _ _)); (first | ((with_reducible show wpAny _ _ (PySem.execs (_ :: _) _) _ _ _); (first | ((first | with_reducible show wpAny _ _ _ _ _ (PySem.Shared.mk _ _ _ (_ + _) _) | with_reducible show wpAny _ _ _ _ _ (PySem.Shared.mk _ _ _ (PySem.Shared.toks _) _)); (try dsimp only); refine normG s rfl ?_; intro tkN8; (try clear tkN9); rename Nat => tkN9) | dsimp only)) | (k_unfold; (try dsimp only)) | (k_end; wrow_close) | walk1 | (dsimp only; walk1) | (leave1; walk_say "STEP leave1"; try dsimp only) | fail "no step")))
  refine wpR_any ?_
  try k_fold
  (repeat' ((fail_if_success (first | with_reducible show wpAny _ _ (PySem.call (Value.builtin "list.append") [_, Value.bytes _ _] _) _ _ _ | with_reducible show wpR _ _ _ _ _ _ | with_reducible show wpAny _ _ (PySem.exec (Stmt.Assign _ (Expr.ListComp _ _ _ _) _) _) _ _ _ | with_reducible show wpAny _ _ (PySem.eval (Expr.ListComp _ _ _ _) _) _ _ _ | with_reducible show wpAny _ _ (PySem.setItem _ _ _) _ _ _ | with_reducible show KswEnd _ _ _ _ _ _ _ _ _ _ _ _ | with_reducible show wpAny _ _ (PySem.call (Value.type "bytes") _ _) _ _ _ | with_reducible show wpAny _ _ (PySem.call (Value.ref _) _ _) _ _ _ | with_reducible show wpAny _ _ (exec (Stmt.While _ _ _ _) _) _ _ _ | with_reducible show wpAny _ _ (pyIter _) _ _ _)); (first | ((with_reducible show wpAny _ _ (PySem.execs (_ :: _) _) _ _ _); (first | ((first | with_reducible show wpAny _ _ _ _ _ (PySem.Shared.mk _ _ _ (_ + _) _) | with_reducible show wpAny _ _ _ _ _ (PySem.Shared.mk _ _ _ (PySem.Shared.toks _) _)); (try dsimp only); refine normG s rfl ?_; intro tkN8; (try clear tkN9); rename Nat => tkN9) | dsimp only)) | (k_unfold; (try dsimp only)) | (k_end; wrow_close) | walk1 | (dsimp only; walk1) | (leave1; walk_say "STEP leave1"; try dsimp only) | fail "no step")))
  rename IsRange _ _ _ _ _ _ _ _ => hR1
  rename Fr _ _ _ _ => F5
  rename News _ _ _ _ => N5
  have hsz : Builtin.Range.rangeSize 0 (ks.length : Int) (W : Int) = (R : Int) := by rw [hlen]; exact rs_size (f := 0) h0
  first | (refine normG s rfl ?_; intro tkR9) | (refine normH s rfl ?_; intro tkR9) | skip
  refine rng_loop (σ := List (Array UInt8 × Tok) × Nat) (n := R) (fun c => [(_, listOf (bvals c.1).toArray c.2)]) (fun _ => []) [] (fun i => ((i * W : Nat) : Int))
    (fun i c => c.1.map (fun p => KBw.bInts p.1) = (List.range i).map fun r => if (r + 0) % 2 = 1 then (srt (chunk W r ks)).reverse else srt (chunk W r ks)) ([], 0) (by intro i; rw [Int.natCast_mul]; omega) rfl hR1 (rs_small (by omega) (by omega) (by omega) (by omega) (by omega) (by omega)) hsz F5 N5 (by kst_all) ?_ ?_ ?_
  · rfl
  · rintro I it i ⟨its, nn⟩ t' u h tk hi hP hne F N
    clear hR1 F5 N5
    dsimp only [envOf] at *
    simp only [List.forall_mem_cons, List.not_mem_nil, false_implies, implies_true, and_true, true_and] at hne
    have n3 : @Ne Nat _ _ := hne
    have hlt : i * W + W ≤ ks.length := by
      have : (i + 1) * W ≤ R * W := Nat.mul_le_mul_right _ hi
      rw [Nat.add_mul, Nat.one_mul] at this; omega
    have hdiv : ((i * W : Nat) : Int).fdiv (W : Int) = i := by
      rw [Int.fdiv_eq_ediv_of_nonneg _ (by omega), Int.natCast_mul, Int.mul_ediv_cancel _ (by omega)]
    have hzi : its.length = i := by have := congrArg List.length hP; simpa using this
    generalize hv : i * W = v at *
    have hvl : (bvals its).length = i := by rw [← hzi]; simp [bvals]
    generalize hvs : bvals its = vs at *
    (repeat' ((fail_if_success (first | with_reducible show wpAny _ _ (PySem.call (Value.builtin "list.append") [_, Value.bytes _ _] _) _ _ _ | with_reducible show wpR _ _ _ _ _ _ | with_reducible show wpAny _ _ (PySem.exec (Stmt.Assign _ (Expr.ListComp _ _ _ _) _) _) _ _ _ | with_reducible show wpAny _ _ (PySem.eval (Expr.ListComp _ _ _ _) _) _ _ _ | with_reducible show wpAny _ _ (PySem.setItem _ _ _) _ _ _ | with_reducible show KswEnd _ _ _ _ _ _ _ _ _ _ _ _ | with_reducible show wpAny _ _ (PySem.call (Value.type "bytes") _ _) _ _ _ | with_reducible show wpAny _ _ (PySem.call (Value.ref _) _ _) _ _ _ | with_reducible show wpAny _ _ (exec (Stmt.While _ _ _ _) _) _ _ _ | with_reducible show wpAny _ _ (pyIter _) _ _ _)); (first | ((with_reducible show wpAny _ _ (PySem.execs (_ :: _) _) _ _ _); (first | ((first | with_reducible show wpAny _ _ _ _ _ (PySem.Shared.mk _ _ _ (_ + _) _) | with_reducible show wpAny _ _ _ _ _ (PySem.Shared.mk _ _ _ (PySem.Shared.toks _) _)); (try dsimp only); refine normG s rfl ?_; intro tkN8; (try clear tkN9); rename Nat => tkN9) | dsimp only)) | (k_unfold; (try dsimp only)) | (k_end; wrow_close) | walk1 | (dsimp only; walk1) | (leave1; walk_say "STEP leave1"; try dsimp only) | fail "no step")))
    · rename KBw.bInts (KBy.picked rb2 _ _) = _ => hpk
      rename ((_ : Int)).fmod 2 = 1 => hcond
      rw [pick_chunk hv (by omega), hSw.rev (by omega) i hi, hLay.srt] at hpk
      refine append_K (by k_asm) (by k_asm) (by k_upd) ?_ (by rw [sizeLine_eq]; simp; omega)
      intro h8 F8 N8
      (repeat' ((fail_if_success (first | with_reducible show wpAny _ _ (PySem.call (Value.builtin "list.append") [_, Value.bytes _ _] _) _ _ _ | with_reducible show wpR _ _ _ _ _ _ | with_reducible show wpAny _ _ (PySem.exec (Stmt.Assign _ (Expr.ListComp _ _ _ _) _) _) _ _ _ | with_reducible show wpAny _ _ (PySem.eval (Expr.ListComp _ _ _ _) _) _ _ _ | with_reducible show wpAny _ _ (PySem.setItem _ _ _) _ _ _ | with_reducible show KswEnd _ _ _ _ _ _ _ _ _ _ _ _ | with_reducible show wpAny _ _ (PySem.call (Value.type "bytes") _ _) _ _ _ | with_reducible show wpAny _ _ (PySem.call (Value.ref _) _ _) _ _ _ | with_reducible show wpAny _ _ (exec (Stmt.While _ _ _ _) _) _ _ _ | with_reducible show wpAny _ _ (pyIter _) _ _ _)); (first | ((with_reducible show wpAny _ _ (PySem.execs (_ :: _) _) _ _ _); (first | ((first | with_reducible show wpAny _ _ _ _ _ (PySem.Shared.mk _ _ _ (_ + _) _) | with_reducible show wpAny _ _ _ _ _ (PySem.Shared.mk _ _ _ (PySem.Shared.toks _) _)); (try dsimp only); refine normG s rfl ?_; intro tkN8; (try clear tkN9); rename Nat => tkN9) | dsimp only)) | (k_unfold; (try dsimp only)) | (k_end; wrow_close) | walk1 | (dsimp only; walk1) | (leave1; walk_say "STEP leave1"; try dsimp only) | fail "no step")))
      subst hvs
      rw [List.push_toArray, bvals_snoc] at N8
      refine rng_end (its ++ [(_, _)], nn + 1) (by assumption) N8 (by k_mem) (by (((try simp only [List.append_nil, List.nil_append, List.cons_append, List.append_assoc]); first | exact (fun p hp => hp) | (simp only [List.forall_mem_cons, List.not_mem_nil, false_implies, implies_true, and_true, true_and]; (repeat' apply And.intro) <;> first | trivial | k_mem) | (simp; done)))) (by (((try simp only [List.append_nil, List.nil_append, List.cons_append, List.append_assoc]); first   | (simp only [List.forall_mem_cons, List.not_mem_nil, false_implies, implies_true, and_true, true_and, ne_eq]; done)   | ((simp only [List.forall_mem_cons, List.not_mem_nil, false_implies, implies_true, and_true, true_and]); (repeat' apply And.intro) <;> first | trivial | assumption | exact Ne.symm (by assumption) | k_ne)))) (by kst_all) (by ((intro z h1 h2 h3; (simp only [List.forall_mem_cons, List.not_mem_nil, false_implies, implies_true, and_true, ne_eq] at h2); (simp only [List.contains_cons, List.contains_nil, Bool.or_false, Bool.or_eq_false_iff, beq_eq_false_iff_ne, ne_eq] at h3); (simp [kstB, h1, h2, h3]; done)))) ?_
      rw [hdiv] at hcond
      have hc : (i + 0) % 2 = 1 := (par_iff i 0).mp (by rw [← hcond]; simp)
      rw [List.range_succ, List.map_append, List.map_append, hP]
      simp only [List.map_cons, List.map_nil, hc, if_true, hpk]
    · rename KBw.bInts (KBy.picked rb _ _) = _ => hpk
      rename ¬ ((_ : Int)).fmod 2 = 1 => hcond
      rw [pick_chunk hv (by omega), hLay.srt] at hpk
      refine append_K (by k_asm) (by k_asm) (by k_upd) ?_ (by rw [sizeLine_eq]; simp; omega)
      intro h8 F8 N8
      (repeat' ((fail_if_success (first | with_reducible show wpAny _ _ (PySem.call (Value.builtin "list.append") [_, Value.bytes _ _] _) _ _ _ | with_reducible show wpR _ _ _ _ _ _ | with_reducible show wpAny _ _ (PySem.exec (Stmt.Assign _ (Expr.ListComp _ _ _ _) _) _) _ _ _ | with_reducible show wpAny _ _ (PySem.eval (Expr.ListComp _ _ _ _) _) _ _ _ | with_reducible show wpAny _ _ (PySem.setItem _ _ _) _ _ _ | with_reducible show KswEnd _ _ _ _ _ _ _ _ _ _ _ _ | with_reducible show wpAny _ _ (PySem.call (Value.type "bytes") _ _) _ _ _ | with_reducible show wpAny _ _ (PySem.call (Value.ref _) _ _) _ _ _ | with_reducible show wpAny _ _ (exec (Stmt.While _ _ _ _) _) _ _ _ | with_reducible show wpAny _ _ (pyIter _) _ _ _)); (first | ((with_reducible show wpAny _ _ (PySem.execs (_ :: _) _) _ _ _); (first | ((first | with_reducible show wpAny _ _ _ _ _ (PySem.Shared.mk _ _ _ (_ + _) _) | with_reducible show wpAny _ _ _ _ _ (PySem.Shared.mk _ _ _ (PySem.Shared.toks _) _)); (try dsimp only); refine normG s rfl ?_; intro tkN8; (try clear tkN9); rename Nat => tkN9) | dsimp only)) | (k_unfold; (try dsimp only)) | (k_end; wrow_close) | walk1 | (dsimp only; walk1) | (leave1; walk_say "STEP leave1"; try dsimp only) | fail "no step")))
      subst hvs
      rw [List.push_toArray, bvals_snoc] at N8
      refine rng_end (its ++ [(_, _)], nn + 1) (by assumption) N8 (by k_mem) (by (((try simp only [List.append_nil, List.nil_append, List.cons_append, List.append_assoc]); first | exact (fun p hp => hp) | (simp only [List.forall_mem_cons, List.not_mem_nil, false_implies, implies_true, and_true, true_and]; (repeat' apply And.intro) <;> first | trivial | k_mem) | (simp; done)))) (by (((try simp only [List.append_nil, List.nil_append, List.cons_append, List.append_assoc]); first   | (simp only [List.forall_mem_cons, List.not_mem_nil, false_implies, implies_true, and_true, true_and, ne_eq]; done)   | ((simp only [List.forall_mem_cons, List.not_mem_nil, false_implies, implies_true, and_true, true_and]); (repeat' apply And.intro) <;> first | trivial | assumption | exact Ne.symm (by assumption) | k_ne)))) (by kst_all) (by ((intro z h1 h2 h3; (simp only [List.forall_mem_cons, List.not_mem_nil, false_implies, implies_true, and_true, ne_eq] at h2); (simp only [List.contains_cons, List.contains_nil, Bool.or_false, Bool.or_eq_false_iff, beq_eq_false_iff_ne, ne_eq] at h3); (simp [kstB, h1, h2, h3]; done)))) ?_
      rw [hdiv] at hcond
      have hc : ¬ (i + 0) % 2 = 1 := fun h => hcond (by rw [← (par_iff i 0).mpr h]; simp)
      rw [List.range_succ, List.map_append, List.map_append, hP]
      simp only [List.map_cons, List.map_nil, hc, if_false, hpk]
  · rintro ⟨its, nn⟩ u h tk hP F N
    clear hR1 F5 N5
    dsimp only [envOf] at *
    have hzi : its.length = R := by have := congrArg List.length hP; simpa using this
    have hsum : bsum its = ks.length := by
      rw [bsum_ints, hP]
      have := bySort_length (first := 0) (i := R) (W := W) (ks := ks) (by omega)
      rw [hlen, ← this, bySort, List.flatMap_def]
    (repeat' ((fail_if_success (first | with_reducible show wpAny _ _ (PySem.call (Value.builtin "list.append") [_, Value.bytes _ _] _) _ _ _ | with_reducible show wpR _ _ _ _ _ _ | with_reducible show wpAny _ _ (PySem.exec (Stmt.Assign _ (Expr.ListComp _ _ _ _) _) _) _ _ _ | with_reducible show wpAny _ _ (PySem.eval (Expr.ListComp _ _ _ _) _) _ _ _ | with_reducible show wpAny _ _ (PySem.setItem _ _ _) _ _ _ | with_reducible show KswEnd _ _ _ _ _ _ _ _ _ _ _ _ | with_reducible show wpAny _ _ (PySem.call (Value.type "bytes") _ _) _ _ _ | with_reducible show wpAny _ _ (PySem.call (Value.ref _) _ _) _ _ _ | with_reducible show wpAny _ _ (exec (Stmt.While _ _ _ _) _) _ _ _ | with_reducible show wpAny _ _ (pyIter _) _ _ _)); (first | ((with_reducible show wpAny _ _ (PySem.execs (_ :: _) _) _ _ _); (first | ((first | with_reducible show wpAny _ _ _ _ _ (PySem.Shared.mk _ _ _ (_ + _) _) | with_reducible show wpAny _ _ _ _ _ (PySem.Shared.mk _ _ _ (PySem.Shared.toks _) _)); (try dsimp only); refine normG s rfl ?_; intro tkN8; (try clear tkN9); rename Nat => tkN9) | dsimp only)) | (k_unfold; (try dsimp only)) | (k_end; wrow_close) | walk1 | (dsimp only; walk1) | (leave1; walk_say "STEP leave1"; try dsimp only) | fail "no step")))
    refine jn_method ?_
    (repeat' ((fail_if_success (first | with_reducible show wpAny _ _ (PySem.call (Value.builtin "list.append") [_, Value.bytes _ _] _) _ _ _ | with_reducible show wpR _ _ _ _ _ _ | with_reducible show wpAny _ _ (PySem.exec (Stmt.Assign _ (Expr.ListComp _ _ _ _) _) _) _ _ _ | with_reducible show wpAny _ _ (PySem.eval (Expr.ListComp _ _ _ _) _) _ _ _ | with_reducible show wpAny _ _ (PySem.setItem _ _ _) _ _ _ | with_reducible show KswEnd _ _ _ _ _ _ _ _ _ _ _ _ | with_reducible show wpAny _ _ (PySem.call (Value.type "bytes") _ _) _ _ _ | with_reducible show wpAny _ _ (PySem.call (Value.ref _) _ _) _ _ _ | with_reducible show wpAny _ _ (exec (Stmt.While _ _ _ _) _) _ _ _ | with_reducible show wpAny _ _ (pyIter _) _ _ _)); (first | ((with_reducible show wpAny _ _ (PySem.execs (_ :: _) _) _ _ _); (first | ((first | with_reducible show wpAny _ _ _ _ _ (PySem.Shared.mk _ _ _ (_ + _) _) | with_reducible show wpAny _ _ _ _ _ (PySem.Shared.mk _ _ _ (PySem.Shared.toks _) _)); (try dsimp only); refine normG s rfl ?_; intro tkN8; (try clear tkN9); rename Nat => tkN9) | dsimp only)) | (k_unfold; (try dsimp only)) | (k_end; wrow_close) | walk1 | (dsimp only; walk1) | (leave1; walk_say "STEP leave1"; try dsimp only) | fail "no step")))
    refine jn_call (News.get (by k_asm) (by k_mem)) (by omega) (by omega) ?_
    intro jb jt jk hj
    rw [hP, ← List.flatMap_def] at hj
    (repeat' ((fail_if_success (first | with_reducible show wpAny _ _ (PySem.call (Value.builtin "list.append") [_, Value.bytes _ _] _) _ _ _ | with_reducible show wpR _ _ _ _ _ _ | with_reducible show wpAny _ _ (PySem.exec (Stmt.Assign _ (Expr.ListComp _ _ _ _) _) _) _ _ _ | with_reducible show wpAny _ _ (PySem.eval (Expr.ListComp _ _ _ _) _) _ _ _ | with_reducible show wpAny _ _ (PySem.setItem _ _ _) _ _ _ | with_reducible show KswEnd _ _ _ _ _ _ _ _ _ _ _ _ | with_reducible show wpAny _ _ (PySem.call (Value.type "bytes") _ _) _ _ _ | with_reducible show wpAny _ _ (PySem.call (Value.ref _) _ _) _ _ _ | with_reducible show wpAny _ _ (exec (Stmt.While _ _ _ _) _) _ _ _ | with_reducible show wpAny _ _ (pyIter _) _ _ _)); (first | ((with_reducible show wpAny _ _ (PySem.execs (_ :: _) _) _ _ _); (first | ((first | with_reducible show wpAny _ _ _ _ _ (PySem.Shared.mk _ _ _ (_ + _) _) | with_reducible show wpAny _ _ _ _ _ (PySem.Shared.mk _ _ _ (PySem.Shared.toks _) _)); (try dsimp only); refine normG s rfl ?_; intro tkN8; (try clear tkN9); rename Nat => tkN9) | dsimp only)) | (k_unfold; (try dsimp only)) | (k_end; wrow_close) | walk1 | (dsimp only; walk1) | (leave1; walk_say "STEP leave1"; try dsimp only) | fail "no step")))
    refine hQ0 _ _ (Left.intro (own' := []) (by assumption) (by assumption) (List.forall_mem_nil _) ⟨rfl, _, _, rfl, hj⟩)
end Mine
end
section -- B5
open PySem PySem.W PySem.Calls PyProof.Rows
set_option linter.unusedVariables false
set_option linter.unusedSimpArgs false
set_option maxRecDepth 100000
set_option maxHeartbeats 8000000
namespace Mine
/-- column c from its top: its first r cells -/
def colOf (W : Nat) (ks : List Int) (c r : Nat) : List Int := (List.range r).map fun j => ks.getD (c + j * W) 0
/-- the first c columns, one after the other -/
def acr (R W : Nat) (ks : List Int) (c : Nat) : List Int := (List.range c).flatMap fun f => colOf W ks f R
theorem colOf_succ (W : Nat) (ks : List Int) (c r : Nat) : colOf W ks c (r + 1) = colOf W ks c r ++ [ks.getD (c + r * W) 0] := by
  unfold colOf; rw [List.range_succ, List.map_append]; rfl
theorem colOf_length (W : Nat) (ks : List Int) (c r : Nat) : (colOf W ks c r).length = r := by simp [colOf]
theorem acr_succ (R W : Nat) (ks : List Int) (c : Nat) : acr R W ks (c + 1) = acr R W ks c ++ colOf W ks c R := by
  unfold acr; rw [List.range_succ, List.flatMap_append]; simp
theorem acr_length (R W : Nat) (ks : List Int) (c : Nat) : (acr R W ks c).length = c * R := by
  induction c with
  | zero => simp [acr]
  | succ c ih => rw [acr_succ, List.length_append, ih, colOf_length, Nat.add_mul, Nat.one_mul]
theorem col_lt {R W c r n : Nat} (h : n = R * W) (hc : c < W) (hr : r < R) : c + r * W < n := by
  have : (r + 1) * W ≤ R * W := Nat.mul_le_mul_right _ hr
  rw [Nat.add_mul, Nat.one_mul] at this; omega
theorem getD_mem {ks : List Int} {i : Nat} (h : i < ks.length) : ks.getD i 0 ∈ ks := by
  rw [List.getD_eq_getElem?_getD, List.getElem?_eq_getElem h]; exact List.getElem_mem h
theorem acr_mem {R W : Nat} {ks : List Int} (hlen : ks.length = R * W) {n : Int} (h : n ∈ acr R W ks W) : n ∈ ks := by
  unfold acr at h
  rw [List.mem_flatMap] at h
  obtain ⟨c, hc, h⟩ := h
  unfold colOf at h
  rw [List.mem_map] at h
  obtain ⟨j, hj, rfl⟩ := h
  rw [List.mem_range] at hc hj
  exact getD_mem (col_lt hlen hc hj)
theorem across_c (w : World) (mean : ExcName → Option Value) (mg mb : Str → Option Value) (b : Array UInt8) (ks : List Int) (hb : KBw.bInts b = ks) (R W : Nat) (hlen : ks.length = R * W) (h100 : ks.length < 64) (hR : 0 < R) (t0 t1 : Tok) (h0 : 0 < W) (h1 : W < 100) :
   Claim w mean mg mb 2 81 [] [.bytes b t0, .int W t1] [] (fun r own' => own' = [] ∧ ∃ rb t, r = .bytes rb t ∧ KBw.bInts rb = acr R W ks W) := by
  unfold Claim
  k_fill
  w_top off
  intro dp un gd cn cs ca ccd cl outer A₀ base h₀ L m rest s Q E hB hF hK hN hT hk hdis hdp hun hret
  k_dflt (refine' enter_own (binds := [(Str.ofString "cells", .bytes b t0), (Str.ofString "width", .int W t1)]) ?k1 ?k2 ?k3 ?k4 ?k5 ?kd ?kA ?kF ?kK ?k6 ?k7 ?k8 ?k9 ?kB ?kR ?_ ?c2 ?c3 ?c4 ?c5; (((case kA => exact rfl); (case kF => exact rfl); (case kK => assumption); (case k1 => k_asm); (case k2 => k_asm); (case k3 => k_asm); (case k4 => k_asm); (case k5 => k_asm); (case kd => assumption); (case k6 => k_is); (case k7 => k_is); (case k8 => first | exact room0 (by assumption) | ktr_room); (case k9 => first | exact BindsTo.of_eq rfl | exact kp_binds (by k_in) (fun _ => rfl)); (case c5 => decide); (case kB => exact locs rfl); (case c2 => exact rfl); (case c3 => exact rfl); (case c4 => exact rfl); (case kR => assumption))))
  intro g L' h' F' N' B' X' T' l'
  clear hret hB hF hK hN hT hdis
  try dsimp only
  refine hideA ?_
  intro Q0 hQ0
  try k_fold
  have hpos : 0 < ks.length := by rw [hlen]; exact Nat.mul_pos hR h0
  (repeat' ((fail_if_success (first | with_reducible show wpAny _ _ (PySem.call (Value.builtin "list.append") [_, Value.bytes _ _] _) _ _ _ | with_reducible show wpR _ _ _ _ _ _ | with_reducible show wpAny _ _ (PySem.exec (Stmt.Assign _ (Expr.ListComp _ _ _ _) _) _) _ _ _ | with_reducible show wpAny _ _ (PySem.eval (Expr.ListComp _ _ _ _) _) _ _ _ | with_reducible show wpAny _ _ (PySem.setItem _ _ _) _ _ _ | with_reducible show KswEnd _ _ _ _ _ _ _ _ _ _ _ _ | with_reducible show wpAny _ _ (PySem.call (Value.type "bytes") _ _) _ _ _ | with_reducible show wpAny _ _ (PySem.call (Value.ref _) _ _) _ _ _ | with_reducible show wpAny _ _ (exec (Stmt.While _ _ _ _) _) _ _ _ | with_reducible show wpAny _ _ (pyIter _) _ _ _)); (first | ((with_reducible show wpAny _ _ (PySem.execs (_ :: _) _) _ _ _); (first | ((first | with_reducible show wpAny _ _ _ _ _ (PySem.Shared.mk _ _ _ (_ + _) _) | with_reducible show wpAny _ _ _ _ _ (PySem.Shared.mk _ _ _ (PySem.Shared.toks _) _)); (try dsimp only); refine normG s rfl ?_; intro tkN8; (try clear tkN9); rename Nat => tkN9) | dsimp only)) | (k_unfold; (try dsimp only)) | (k_end; wrow_close) | walk1 | (dsimp only; walk1) | (leave1; walk_say "STEP leave1"; try dsimp only) | fail "no step")))
  rename IsRange _ _ _ _ _ _ _ _ => hR1
  rename Fr _ _ _ _ => F5
  rename News _ _ _ _ => N5
  first | (refine normG s rfl ?_; intro tkR9) | (refine normH s rfl ?_; intro tkR9) | skip
  refine rng_loop (σ := List Value × Nat) (n := W) (fun c => [(_, listOf c.1.toArray c.2)]) (fun _ => []) [Str.ofString "k"] (fun i => (i : Int))
    (fun i c => IntsAre c.1 (acr R W ks i)) ([], 0) (by intro i; omega) rfl hR1 (rs_small (by omega) (by omega) (by omega) (by omega) (by omega) (by omega)) (rs_one _) F5 N5 (by kst_all) ?_ ?_ ?_
  · exact .nil
  · rintro I it i ⟨its, nn⟩ t u h tk hi hP hne F N
    clear hR1 F5 N5
    dsimp only [envOf] at *
    have hzz := IntsAre.length hP
    rw [acr_length] at hzz
    (repeat' ((fail_if_success (first | with_reducible show wpAny _ _ (PySem.call (Value.builtin "list.append") [_, Value.bytes _ _] _) _ _ _ | with_reducible show wpR _ _ _ _ _ _ | with_reducible show wpAny _ _ (PySem.exec (Stmt.Assign _ (Expr.ListComp _ _ _ _) _) _) _ _ _ | with_reducible show wpAny _ _ (PySem.eval (Expr.ListComp _ _ _ _) _) _ _ _ | with_reducible show wpAny _ _ (PySem.setItem _ _ _) _ _ _ | with_reducible show KswEnd _ _ _ _ _ _ _ _ _ _ _ _ | with_reducible show wpAny _ _ (PySem.call (Value.type "bytes") _ _) _ _ _ | with_reducible show wpAny _ _ (PySem.call (Value.ref _) _ _) _ _ _ | with_reducible show wpAny _ _ (exec (Stmt.While _ _ _ _) _) _ _ _ | with_reducible show wpAny _ _ (pyIter _) _ _ _)); (first | ((with_reducible show wpAny _ _ (PySem.execs (_ :: _) _) _ _ _); (first | ((first | with_reducible show wpAny _ _ _ _ _ (PySem.Shared.mk _ _ _ (_ + _) _) | with_reducible show wpAny _ _ _ _ _ (PySem.Shared.mk _ _ _ (PySem.Shared.toks _) _)); (try dsimp only); refine normG s rfl ?_; intro tkN8; (try clear tkN9); rename Nat => tkN9) | dsimp only)) | (k_unfold; (try dsimp only)) | (k_end; wrow_close) | walk1 | (dsimp only; walk1) | (leave1; walk_say "STEP leave1"; try dsimp only) | fail "no step")))
    rename IsRange _ _ _ _ _ _ _ _ => hR2
    rename Fr _ _ _ _ => F6
    rename News _ _ _ _ => N6
    have hsz : Builtin.Range.rangeSize (i : Int) (ks.length : Int) (W : Int) = (R : Int) := by rw [hlen]; exact rs_size hi
    first | (refine normG s rfl ?_; intro tkR9) | (refine normH s rfl ?_; intro tkR9) | skip
    refine rng_loop (σ := List Value × Nat) (n := R) (fun c => [(I, it), (_, listOf c.1.toArray c.2)]) (fun _ => []) [] (fun j => ((i + j * W : Nat) : Int))
      (fun j c => IntsAre c.1 (acr R W ks i ++ colOf W ks i j)) (its, nn) (by intro j; rw [Int.natCast_add, Int.natCast_mul]) rfl hR2 (rs_small (by omega) (by omega) (by omega) (by omega) (by omega) (by omega)) hsz F6 N6 (by kst_all) ?_ ?_ ?_
    · simpa [colOf] using hP
    · rintro I2 it2 j ⟨its2, nn2⟩ t2 u2 h2' tk2 hj hP2 hne2 F7 N7
      clear hR2 F6 N6
      dsimp only [envOf] at *
      simp only [List.forall_mem_cons, List.not_mem_nil, false_implies, implies_true, and_true, true_and] at hne hne2
      obtain ⟨hne3, hne4⟩ := hne2
      have n1 : @Ne Nat _ _ := hne
      have n2 : @Ne Nat _ _ := hne3
      have n3 : @Ne Nat _ _ := hne4
      have hlt := col_lt hlen hi hj
      have hz2 := IntsAre.length hP2
      rw [List.length_append, acr_length, colOf_length] at hz2
      have hlt2 : i * R + j < 100 := by
        have : (i + 1) * R ≤ W * R := Nat.mul_le_mul_right _ hi
        rw [Nat.add_mul, Nat.one_mul, Nat.mul_comm W R] at this; omega
      generalize hv : i + j * W = v at *
      (repeat' ((fail_if_success (first | with_reducible show wpAny _ _ (PySem.call (Value.builtin "list.append") [_, Value.bytes _ _] _) _ _ _ | with_reducible show wpR _ _ _ _ _ _ | with_reducible show wpAny _ _ (PySem.exec (Stmt.Assign _ (Expr.ListComp _ _ _ _) _) _) _ _ _ | with_reducible show wpAny _ _ (PySem.eval (Expr.ListComp _ _ _ _) _) _ _ _ | with_reducible show wpAny _ _ (PySem.setItem _ _ _) _ _ _ | with_reducible show KswEnd _ _ _ _ _ _ _ _ _ _ _ _ | with_reducible show wpAny _ _ (PySem.call (Value.type "bytes") _ _) _ _ _ | with_reducible show wpAny _ _ (PySem.call (Value.ref _) _ _) _ _ _ | with_reducible show wpAny _ _ (exec (Stmt.While _ _ _ _) _) _ _ _ | with_reducible show wpAny _ _ (pyIter _) _ _ _)); (first | ((with_reducible show wpAny _ _ (PySem.execs (_ :: _) _) _ _ _); (first | ((first | with_reducible show wpAny _ _ _ _ _ (PySem.Shared.mk _ _ _ (_ + _) _) | with_reducible show wpAny _ _ _ _ _ (PySem.Shared.mk _ _ _ (PySem.Shared.toks _) _)); (try dsimp only); refine normG s rfl ?_; intro tkN8; (try clear tkN9); rename Nat => tkN9) | dsimp only)) | (k_unfold; (try dsimp only)) | (k_end; wrow_close) | walk1 | (dsimp only; walk1) | (leave1; walk_say "STEP leave1"; try dsimp only) | fail "no step")))
      simp only [List.push_toArray] at *
      refine rng_end (its2 ++ [_], nn2 + 1) (by assumption) (by assumption) (by k_mem) (by (((try simp only [List.append_nil, List.nil_append, List.cons_append, List.append_assoc]); first | exact (fun p hp => hp) | (simp only [List.forall_mem_cons, List.not_mem_nil, false_implies, implies_true, and_true, true_and]; (repeat' apply And.intro) <;> first | trivial | k_mem) | (simp; done)))) (by (((try simp only [List.append_nil, List.nil_append, List.cons_append, List.append_assoc]); first   | (simp only [List.forall_mem_cons, List.not_mem_nil, false_implies, implies_true, and_true, true_and, ne_eq]; done)   | ((simp only [List.forall_mem_cons, List.not_mem_nil, false_implies, implies_true, and_true, true_and]); (repeat' apply And.intro) <;> first | trivial | assumption | exact Ne.symm (by assumption) | k_ne)))) (by kst_all) (by ((intro z h1 h2 h3; (simp only [List.forall_mem_cons, List.not_mem_nil, false_implies, implies_true, and_true, ne_eq] at h2); (simp only [List.contains_cons, List.contains_nil, Bool.or_false, Bool.or_eq_false_iff, beq_eq_false_iff_ne, ne_eq] at h3); (simp [kstB, h1, h2, h3]; done)))) ?_
      rw [colOf_succ, ← List.append_assoc, hv]
      exact hP2.append (.cons _ _ .nil)
    · rintro ⟨its2, nn2⟩ u2 h2' tk2 hP2 F7 N7
      clear hR2 F6 N6
      dsimp only [envOf] at *
      (repeat' ((fail_if_success (first | with_reducible show wpAny _ _ (PySem.call (Value.builtin "list.append") [_, Value.bytes _ _] _) _ _ _ | with_reducible show wpR _ _ _ _ _ _ | with_reducible show wpAny _ _ (PySem.exec (Stmt.Assign _ (Expr.ListComp _ _ _ _) _) _) _ _ _ | with_reducible show wpAny _ _ (PySem.eval (Expr.ListComp _ _ _ _) _) _ _ _ | with_reducible show wpAny _ _ (PySem.setItem _ _ _) _ _ _ | with_reducible show KswEnd _ _ _ _ _ _ _ _ _ _ _ _ | with_reducible show wpAny _ _ (PySem.call (Value.type "bytes") _ _) _ _ _ | with_reducible show wpAny _ _ (PySem.call (Value.ref _) _ _) _ _ _ | with_reducible show wpAny _ _ (exec (Stmt.While _ _ _ _) _) _ _ _ | with_reducible show wpAny _ _ (pyIter _) _ _ _)); (first | ((with_reducible show wpAny _ _ (PySem.execs (_ :: _) _) _ _ _); (first | ((first | with_reducible show wpAny _ _ _ _ _ (PySem.Shared.mk _ _ _ (_ + _) _) | with_reducible show wpAny _ _ _ _ _ (PySem.Shared.mk _ _ _ (PySem.Shared.toks _) _)); (try dsimp only); refine normG s rfl ?_; intro tkN8; (try clear tkN9); rename Nat => tkN9) | dsimp only)) | (k_unfold; (try dsimp only)) | (k_end; wrow_close) | walk1 | (dsimp only; walk1) | (leave1; walk_say "STEP leave1"; try dsimp only) | fail "no step")))
      dsimp only [RngPost]
      simp only [List.forall_mem_cons, List.not_mem_nil, false_implies, implies_true, and_true, true_and] at hne
      refine rng_end (its2, nn2) (by assumption) (by assumption) (by k_mem) (by (((try simp only [List.append_nil, List.nil_append, List.cons_append, List.append_assoc]); first | exact (fun p hp => hp) | (simp only [List.forall_mem_cons, List.not_mem_nil, false_implies, implies_true, and_true, true_and]; (repeat' apply And.intro) <;> first | trivial | k_mem) | (simp; done)))) (by (((try simp only [List.append_nil, List.nil_append, List.cons_append, List.append_assoc]); first   | (simp only [List.forall_mem_cons, List.not_mem_nil, false_implies, implies_true, and_true, true_and, ne_eq]; done)   | ((simp only [List.forall_mem_cons, List.not_mem_nil, false_implies, implies_true, and_true, true_and]); (repeat' apply And.intro) <;> first | trivial | assumption | exact Ne.symm (by assumption) | k_ne)))) (by kst_all) (by ((intro z h1 h2 h3; (simp only [List.forall_mem_cons, List.not_mem_nil, false_implies, implies_true, and_true, ne_eq] at h2); (simp only [List.contains_cons, List.contains_nil, Bool.or_false, Bool.or_eq_false_iff, beq_eq_false_iff_ne, ne_eq] at h3); (simp [kstB, h1, h2, h3]; done)))) ?_
      rw [acr_succ]; exact hP2
  · rintro ⟨its, nn⟩ u h tk hP F N
    clear hR1 F5 N5
    dsimp only [envOf] at *
    have hz := IntsAre.length hP
    rw [acr_length, Nat.mul_comm, ← hlen] at hz
    have hin : KBa.In (acr R W ks W) := fun n hn => by
      have hp := acr_mem hlen hn
      subst hb
      exact KBw.ints_in hp
    have hzy : (acr R W ks W).length = ks.length := by rw [acr_length, Nat.mul_comm, ← hlen]
    (repeat' ((fail_if_success (first | with_reducible show wpAny _ _ (PySem.call (Value.builtin "list.append") [_, Value.bytes _ _] _) _ _ _ | with_reducible show wpR _ _ _ _ _ _ | with_reducible show wpAny _ _ (PySem.exec (Stmt.Assign _ (Expr.ListComp _ _ _ _) _) _) _ _ _ | with_reducible show wpAny _ _ (PySem.eval (Expr.ListComp _ _ _ _) _) _ _ _ | with_reducible show wpAny _ _ (PySem.setItem _ _ _) _ _ _ | with_reducible show KswEnd _ _ _ _ _ _ _ _ _ _ _ _ | with_reducible show wpAny _ _ (PySem.call (Value.type "bytes") _ _) _ _ _ | with_reducible show wpAny _ _ (PySem.call (Value.ref _) _ _) _ _ _ | with_reducible show wpAny _ _ (exec (Stmt.While _ _ _ _) _) _ _ _ | with_reducible show wpAny _ _ (pyIter _) _ _ _)); (first | ((with_reducible show wpAny _ _ (PySem.execs (_ :: _) _) _ _ _); (first | ((first | with_reducible show wpAny _ _ _ _ _ (PySem.Shared.mk _ _ _ (_ + _) _) | with_reducible show wpAny _ _ _ _ _ (PySem.Shared.mk _ _ _ (PySem.Shared.toks _) _)); (try dsimp only); refine normG s rfl ?_; intro tkN8; (try clear tkN9); rename Nat => tkN9) | dsimp only)) | (k_unfold; (try dsimp only)) | (k_end; wrow_close) | walk1 | (dsimp only; walk1) | (leave1; walk_say "STEP leave1"; try dsimp only) | fail "no step")))
    refine KBa.make_K (by k_asm) (by k_asm) rfl (by kba_isList) hP hin (by omega) ?_
    intro h7 t7 k7 F7 N7 _
    (repeat' ((fail_if_success (first | with_reducible show wpAny _ _ (PySem.call (Value.builtin "list.append") [_, Value.bytes _ _] _) _ _ _ | with_reducible show wpR _ _ _ _ _ _ | with_reducible show wpAny _ _ (PySem.exec (Stmt.Assign _ (Expr.ListComp _ _ _ _) _) _) _ _ _ | with_reducible show wpAny _ _ (PySem.eval (Expr.ListComp _ _ _ _) _) _ _ _ | with_reducible show wpAny _ _ (PySem.setItem _ _ _) _ _ _ | with_reducible show KswEnd _ _ _ _ _ _ _ _ _ _ _ _ | with_reducible show wpAny _ _ (PySem.call (Value.type "bytes") _ _) _ _ _ | with_reducible show wpAny _ _ (PySem.call (Value.ref _) _ _) _ _ _ | with_reducible show wpAny _ _ (exec (Stmt.While _ _ _ _) _) _ _ _ | with_reducible show wpAny _ _ (pyIter _) _ _ _)); (first | ((with_reducible show wpAny _ _ (PySem.execs (_ :: _) _) _ _ _); (first | ((first | with_reducible show wpAny _ _ _ _ _ (PySem.Shared.mk _ _ _ (_ + _) _) | with_reducible show wpAny _ _ _ _ _ (PySem.Shared.mk _ _ _ (PySem.Shared.toks _) _)); (try dsimp only); refine normG s rfl ?_; intro tkN8; (try clear tkN9); rename Nat => tkN9) | dsimp only)) | (k_unfold; (try dsimp only)) | (k_end; wrow_close) | walk1 | (dsimp only; walk1) | (leave1; walk_say "STEP leave1"; try dsimp only) | fail "no step")))
    refine hQ0 _ _ (Left.intro (own' := []) (by assumption) (by assumption) (List.forall_mem_nil _) ⟨rfl, _, _, rfl, KBa.ints_make hin⟩)
end Mine
end
section -- B6
open PySem PySem.W PySem.Calls PyProof.Rows
set_option linter.unusedVariables false
set_option linter.unusedSimpArgs false
set_option maxRecDepth 100000
set_option maxHeartbeats 8000000
namespace Mine
/-- a row holds a cell below the bound and one not below it -/
def mixed (x : Int) (l : List Int) : Bool := l.any (fun a => decide (a < x)) && l.any (fun a => decide (x ≤ a))
def cntMix (W : Nat) (ks : List Int) (x : Int) (i : Nat) : Nat := ((List.range i).filter fun r => mixed x (chunk W r ks)).length
theorem cntMix_succ (W : Nat) (ks : List Int) (x : Int) (i : Nat) : cntMix W ks x (i + 1) = cntMix W ks x i + if mixed x (chunk W i ks) then 1 else 0 := by
  unfold cntMix; rw [List.range_succ, List.filter_append, List.length_append]
  congr 1
  by_cases h : mixed x (chunk W i ks) <;> simp [h]
theorem mixed_of {x mn mx : Int} {l : List Int} (h1 : mn ∈ l) (h2 : mx ∈ l) (h3 : mn < x) (h4 : x ≤ mx) : mixed x l = true := by
  unfold mixed
  rw [Bool.and_eq_true, List.any_eq_true, List.any_eq_true]
  exact ⟨⟨mn, h1, decide_eq_true h3⟩, ⟨mx, h2, decide_eq_true h4⟩⟩
theorem not_mixed_hi {x : Int} {l : List Int} (h : ∀ y ∈ l, y < x) : ¬ mixed x l = true := by
  unfold mixed
  rw [Bool.and_eq_true, List.any_eq_true, List.any_eq_true]
  rintro ⟨_, y, hy, h2⟩
  have := h y hy
  have := of_decide_eq_true h2
  omega
theorem not_mixed_lo {x : Int} {l : List Int} (h : ∀ y ∈ l, x ≤ y) : ¬ mixed x l = true := by
  unfold mixed
  rw [Bool.and_eq_true, List.any_eq_true, List.any_eq_true]
  rintro ⟨⟨y, hy, h2⟩, _⟩
  have := h y hy
  have := of_decide_eq_true h2
  omega
theorem mixed_c (w : World) (mean : ExcName → Option Value) (mg mb : Str → Option Value) (b : Array UInt8) (ks : List Int) (hb : KBw.bInts b = ks) (R W : Nat) (x : Int) (hlen : ks.length = R * W) (h100 : ks.length < 64) (hR : 0 < R) (t0 t1 t2 : Tok) (h0 : 0 < W) (h1 : W < 100) :
   Claim w mean mg mb 2 88 [] [.bytes b t0, .int W t1, .int x t2] [] (fun r own' => own' = [] ∧ ∃ t, r = .int (cntMix W ks x R) t) := by
  unfold Claim
  k_fill
  w_top off
  intro dp un gd cn cs ca ccd cl outer A₀ base h₀ L m rest s Q E hB hF hK hN hT hk hdis hdp hun hret
  k_dflt (refine' enter_own (binds := [(Str.ofString "cells", .bytes b t0), (Str.ofString "width", .int W t1), (Str.ofString "bound", .int x t2)]) ?k1 ?k2 ?k3 ?k4 ?k5 ?kd ?kA ?kF ?kK ?k6 ?k7 ?k8 ?k9 ?kB ?kR ?_ ?c2 ?c3 ?c4 ?c5; (((case kA => exact rfl); (case kF => exact rfl); (case kK => assumption); (case k1 => k_asm); (case k2 => k_asm); (case k3 => k_asm); (case k4 => k_asm); (case k5 => k_asm); (case kd => assumption); (case k6 => k_is); (case k7 => k_is); (case k8 => first | exact room0 (by assumption) | ktr_room); (case k9 => first | exact BindsTo.of_eq rfl | exact kp_binds (by k_in) (fun _ => rfl)); (case c5 => decide); (case kB => exact locs rfl); (case c2 => exact rfl); (case c3 => exact rfl); (case c4 => exact rfl); (case kR => assumption))))
  intro g L' h' F' N' B' X' T' l'
  clear hret hB hF hK hN hT hdis
  try dsimp only
  refine hideA ?_
  intro Q0 hQ0
  try k_fold
  have hpos : 0 < ks.length := by rw [hlen]; exact Nat.mul_pos hR h0
  (repeat' ((fail_if_success (first | with_reducible show wpAny _ _ (PySem.call (Value.builtin "list.append") [_, Value.bytes _ _] _) _ _ _ | with_reducible show wpR _ _ _ _ _ _ | with_reducible show wpAny _ _ (PySem.exec (Stmt.Assign _ (Expr.ListComp _ _ _ _) _) _) _ _ _ | with_reducible show wpAny _ _ (PySem.eval (Expr.ListComp _ _ _ _) _) _ _ _ | with_reducible show wpAny _ _ (PySem.setItem _ _ _) _ _ _ | with_reducible show KswEnd _ _ _ _ _ _ _ _ _ _ _ _ | with_reducible show wpAny _ _ (PySem.call (Value.type "bytes") _ _) _ _ _ | with_reducible show wpAny _ _ (PySem.call (Value.ref _) _ _) _ _ _ | with_reducible show wpAny _ _ (exec (Stmt.While _ _ _ _) _) _ _ _ | with_reducible show wpAny _ _ (pyIter _) _ _ _)); (first | ((with_reducible show wpAny _ _ (PySem.execs (_ :: _) _) _ _ _); (first | ((first | with_reducible show wpAny _ _ _ _ _ (PySem.Shared.mk _ _ _ (_ + _) _) | with_reducible show wpAny _ _ _ _ _ (PySem.Shared.mk _ _ _ (PySem.Shared.toks _) _)); (try dsimp only); refine normG s rfl ?_; intro tkN8; (try clear tkN9); rename Nat => tkN9) | dsimp only)) | (k_unfold; (try dsimp only)) | (k_end; wrow_close) | walk1 | (dsimp only; walk1) | (leave1; walk_say "STEP leave1"; try dsimp only) | fail "no step")))
  rename IsRange _ _ _ _ _ _ _ _ => hR1
  rename Fr _ _ _ _ => F5
  rename News _ _ _ _ => N5
  have hsz : Builtin.Range.rangeSize 0 (ks.length : Int) (W : Int) = (R : Int) := by rw [hlen]; exact rs_size (f := 0) h0
  first | (refine normG s rfl ?_; intro tkR9) | (refine normH s rfl ?_; intro tkR9) | skip
  refine rng_loop (σ := Int × Tok) (n := R) (fun c => []) (fun c => [(Str.ofString "count", .int c.1 c.2)]) [] (fun i => ((i * W : Nat) : Int))
    (fun i c => c.1 = (cntMix W ks x i : Int)) (0, _) (by intro i; rw [Int.natCast_mul]; omega) rfl hR1 (rs_small (by omega) (by omega) (by omega) (by omega) (by omega) (by omega)) hsz F5 N5 (by kst_all) ?_ ?_ ?_
  · simp [cntMix]
  · rintro I it i ⟨cc, tc⟩ t u h tk hi hP hne F N
    clear hR1 F5 N5
    dsimp only [envOf] at *
    have hlt : i * W + W ≤ ks.length := by
      have : (i + 1) * W ≤ R * W := Nat.mul_le_mul_right _ hi
      rw [Nat.add_mul, Nat.one_mul] at this; omega
    generalize hv : i * W = v at *
    (repeat' ((fail_if_success (first | with_reducible show wpAny _ _ (PySem.call (Value.builtin "list.append") [_, Value.bytes _ _] _) _ _ _ | with_reducible show wpR _ _ _ _ _ _ | with_reducible show wpAny _ _ (PySem.exec (Stmt.Assign _ (Expr.ListComp _ _ _ _) _) _) _ _ _ | with_reducible show wpAny _ _ (PySem.eval (Expr.ListComp _ _ _ _) _) _ _ _ | with_reducible show wpAny _ _ (PySem.setItem _ _ _) _ _ _ | with_reducible show KswEnd _ _ _ _ _ _ _ _ _ _ _ _ | with_reducible show wpAny _ _ (PySem.call (Value.type "bytes") _ _) _ _ _ | with_reducible show wpAny _ _ (PySem.call (Value.ref _) _ _) _ _ _ | with_reducible show wpAny _ _ (exec (Stmt.While _ _ _ _) _) _ _ _ | with_reducible show wpAny _ _ (pyIter _) _ _ _)); (first | ((with_reducible show wpAny _ _ (PySem.execs (_ :: _) _) _ _ _); (first | ((first | with_reducible show wpAny _ _ _ _ _ (PySem.Shared.mk _ _ _ (_ + _) _) | with_reducible show wpAny _ _ _ _ _ (PySem.Shared.mk _ _ _ (PySem.Shared.toks _) _)); (try dsimp only); refine normG s rfl ?_; intro tkN8; (try clear tkN9); rename Nat => tkN9) | dsimp only)) | (k_unfold; (try dsimp only)) | (k_end; wrow_close) | walk1 | (dsimp only; walk1) | (leave1; walk_say "STEP leave1"; try dsimp only) | fail "no step")))
    rename KBw.bInts (KBy.picked _ _ _) = _ => hpk
    have hck := pick_chunk hv hlt
    rw [hck] at hpk
    have hcl : (chunk W i ks).length = W := chunk_len (hv.symm ▸ hlt)
    refine min_bytes (by k_asm) (by k_asm) rfl hpk (by omega) ?_
    intro h9 tk9 mn tmn F9 N9 hmn hmn2

    subst hP
    (repeat' ((fail_if_success (first | with_reducible show wpAny _ _ (PySem.call (Value.builtin "list.append") [_, Value.bytes _ _] _) _ _ _ | with_reducible show wpR _ _ _ _ _ _ | with_reducible show wpAny _ _ (PySem.exec (Stmt.Assign _ (Expr.ListComp _ _ _ _) _) _) _ _ _ | with_reducible show wpAny _ _ (PySem.eval (Expr.ListComp _ _ _ _) _) _ _ _ | with_reducible show wpAny _ _ (PySem.setItem _ _ _) _ _ _ | with_reducible show KswEnd _ _ _ _ _ _ _ _ _ _ _ _ | with_reducible show wpAny _ _ (PySem.call (Value.type "bytes") _ _) _ _ _ | with_reducible show wpAny _ _ (PySem.call (Value.ref _) _ _) _ _ _ | with_reducible show wpAny _ _ (exec (Stmt.While _ _ _ _) _) _ _ _ | with_reducible show wpAny _ _ (pyIter _) _ _ _)); (first | ((with_reducible show wpAny _ _ (PySem.execs (_ :: _) _) _ _ _); (first | ((first | with_reducible show wpAny _ _ _ _ _ (PySem.Shared.mk _ _ _ (_ + _) _) | with_reducible show wpAny _ _ _ _ _ (PySem.Shared.mk _ _ _ (PySem.Shared.toks _) _)); (try dsimp only); refine normG s rfl ?_; intro tkN8; (try clear tkN9); rename Nat => tkN9) | dsimp only)) | (k_unfold; (try dsimp only)) | (k_end; wrow_close) | walk1 | (dsimp only; walk1) | (leave1; walk_say "STEP leave1"; try dsimp only) | fail "no step")))
    · rename KBw.bInts (KBy.picked _ _ _) = List.take _ _ => hpk2
      refine max_bytes (by k_asm) (by k_asm) rfl hpk (by omega) ?_
      intro h8 tk8 mx tmx F8 N8 hmx hmx2
      (repeat' ((fail_if_success (first | with_reducible show wpAny _ _ (PySem.call (Value.builtin "list.append") [_, Value.bytes _ _] _) _ _ _ | with_reducible show wpR _ _ _ _ _ _ | with_reducible show wpAny _ _ (PySem.exec (Stmt.Assign _ (Expr.ListComp _ _ _ _) _) _) _ _ _ | with_reducible show wpAny _ _ (PySem.eval (Expr.ListComp _ _ _ _) _) _ _ _ | with_reducible show wpAny _ _ (PySem.setItem _ _ _) _ _ _ | with_reducible show KswEnd _ _ _ _ _ _ _ _ _ _ _ _ | with_reducible show wpAny _ _ (PySem.call (Value.type "bytes") _ _) _ _ _ | with_reducible show wpAny _ _ (PySem.call (Value.ref _) _ _) _ _ _ | with_reducible show wpAny _ _ (exec (Stmt.While _ _ _ _) _) _ _ _ | with_reducible show wpAny _ _ (pyIter _) _ _ _)); (first | ((with_reducible show wpAny _ _ (PySem.execs (_ :: _) _) _ _ _); (first | ((first | with_reducible show wpAny _ _ _ _ _ (PySem.Shared.mk _ _ _ (_ + _) _) | with_reducible show wpAny _ _ _ _ _ (PySem.Shared.mk _ _ _ (PySem.Shared.toks _) _)); (try dsimp only); refine normG s rfl ?_; intro tkN8; (try clear tkN9); rename Nat => tkN9) | dsimp only)) | (k_unfold; (try dsimp only)) | (k_end; wrow_close) | walk1 | (dsimp only; walk1) | (leave1; walk_say "STEP leave1"; try dsimp only) | fail "no step")))
      · refine rng_end (_, _) (by assumption) (by assumption) (by k_mem) (by (((try simp only [List.append_nil, List.nil_append, List.cons_append, List.append_assoc]); first | exact (fun p hp => hp) | (simp only [List.forall_mem_cons, List.not_mem_nil, false_implies, implies_true, and_true, true_and]; (repeat' apply And.intro) <;> first | trivial | k_mem) | (simp; done)))) (by (((try simp only [List.append_nil, List.nil_append, List.cons_append, List.append_assoc]); first   | (simp only [List.forall_mem_cons, List.not_mem_nil, false_implies, implies_true, and_true, true_and, ne_eq]; done)   | ((simp only [List.forall_mem_cons, List.not_mem_nil, false_implies, implies_true, and_true, true_and]); (repeat' apply And.intro) <;> first | trivial | assumption | exact Ne.symm (by assumption) | k_ne)))) (by kst_all) (by ((intro z h1 h2 h3; (simp only [List.forall_mem_cons, List.not_mem_nil, false_implies, implies_true, and_true, ne_eq] at h2); (simp only [List.contains_cons, List.contains_nil, Bool.or_false, Bool.or_eq_false_iff, beq_eq_false_iff_ne, ne_eq] at h3); (simp [kstB, h1, h2, h3]; done)))) ?_
        rw [cntMix_succ, if_pos (mixed_of hmn hmx (by assumption) (by assumption))]; rfl
      · refine rng_end (_, tc) (by assumption) (by assumption) (by k_mem) (by (((try simp only [List.append_nil, List.nil_append, List.cons_append, List.append_assoc]); first | exact (fun p hp => hp) | (simp only [List.forall_mem_cons, List.not_mem_nil, false_implies, implies_true, and_true, true_and]; (repeat' apply And.intro) <;> first | trivial | k_mem) | (simp; done)))) (by (((try simp only [List.append_nil, List.nil_append, List.cons_append, List.append_assoc]); first   | (simp only [List.forall_mem_cons, List.not_mem_nil, false_implies, implies_true, and_true, true_and, ne_eq]; done)   | ((simp only [List.forall_mem_cons, List.not_mem_nil, false_implies, implies_true, and_true, true_and]); (repeat' apply And.intro) <;> first | trivial | assumption | exact Ne.symm (by assumption) | k_ne)))) (by kst_all) (by ((intro z h1 h2 h3; (simp only [List.forall_mem_cons, List.not_mem_nil, false_implies, implies_true, and_true, ne_eq] at h2); (simp only [List.contains_cons, List.contains_nil, Bool.or_false, Bool.or_eq_false_iff, beq_eq_false_iff_ne, ne_eq] at h3); (simp [kstB, h1, h2, h3]; done)))) ?_
        rename ¬ x ≤ mx => hno
        rw [cntMix_succ, if_neg (not_mixed_hi (fun y hy => by have := hmx2 y hy; omega))]; rfl
    · refine rng_end (_, tc) (by assumption) (by assumption) (by k_mem) (by (((try simp only [List.append_nil, List.nil_append, List.cons_append, List.append_assoc]); first | exact (fun p hp => hp) | (simp only [List.forall_mem_cons, List.not_mem_nil, false_implies, implies_true, and_true, true_and]; (repeat' apply And.intro) <;> first | trivial | k_mem) | (simp; done)))) (by (((try simp only [List.append_nil, List.nil_append, List.cons_append, List.append_assoc]); first   | (simp only [List.forall_mem_cons, List.not_mem_nil, false_implies, implies_true, and_true, true_and, ne_eq]; done)   | ((simp only [List.forall_mem_cons, List.not_mem_nil, false_implies, implies_true, and_true, true_and]); (repeat' apply And.intro) <;> first | trivial | assumption | exact Ne.symm (by assumption) | k_ne)))) (by kst_all) (by ((intro z h1 h2 h3; (simp only [List.forall_mem_cons, List.not_mem_nil, false_implies, implies_true, and_true, ne_eq] at h2); (simp only [List.contains_cons, List.contains_nil, Bool.or_false, Bool.or_eq_false_iff, beq_eq_false_iff_ne, ne_eq] at h3); (simp [kstB, h1, h2, h3]; done)))) ?_
      rename ¬ mn < x => hno
      rw [cntMix_succ, if_neg (not_mixed_lo (fun y hy => by have := hmn2 y hy; omega))]; rfl
  · rintro ⟨cc, tc⟩ u h tk hP F N
    clear hR1 F5 N5
    dsimp only [envOf] at *
    subst hP
    (repeat' ((fail_if_success (first | with_reducible show wpAny _ _ (PySem.call (Value.builtin "list.append") [_, Value.bytes _ _] _) _ _ _ | with_reducible show wpR _ _ _ _ _ _ | with_reducible show wpAny _ _ (PySem.exec (Stmt.Assign _ (Expr.ListComp _ _ _ _) _) _) _ _ _ | with_reducible show wpAny _ _ (PySem.eval (Expr.ListComp _ _ _ _) _) _ _ _ | with_reducible show wpAny _ _ (PySem.setItem _ _ _) _ _ _ | with_reducible show KswEnd _ _ _ _ _ _ _ _ _ _ _ _ | with_reducible show wpAny _ _ (PySem.call (Value.type "bytes") _ _) _ _ _ | with_reducible show wpAny _ _ (PySem.call (Value.ref _) _ _) _ _ _ | with_reducible show wpAny _ _ (exec (Stmt.While _ _ _ _) _) _ _ _ | with_reducible show wpAny _ _ (pyIter _) _ _ _)); (first | ((with_reducible show wpAny _ _ (PySem.execs (_ :: _) _) _ _ _); (first | ((first | with_reducible show wpAny _ _ _ _ _ (PySem.Shared.mk _ _ _ (_ + _) _) | with_reducible show wpAny _ _ _ _ _ (PySem.Shared.mk _ _ _ (PySem.Shared.toks _) _)); (try dsimp only); refine normG s rfl ?_; intro tkN8; (try clear tkN9); rename Nat => tkN9) | dsimp only)) | (k_unfold; (try dsimp only)) | (k_end; wrow_close) | walk1 | (dsimp only; walk1) | (leave1; walk_say "STEP leave1"; try dsimp only) | fail "no step")))
    refine hQ0 _ _ (Left.intro (own' := []) (by assumption) (by assumption) (List.forall_mem_nil _) ⟨rfl, _, rfl⟩)
end Mine
end
section -- P2
set_option linter.unusedVariables false
namespace Mine
/-- whatever the bound: but for M rows on end, the rows above hold cells below it alone and the rows below none such -/
def Inv (R W M : Nat) (ks : List Int) : Prop := ∀ x : Int, ∃ a : Nat, (∀ r, r < a → r < R → ∀ y ∈ chunk W r ks, y < x) ∧ (∀ r, a + M ≤ r → r < R → ∀ y ∈ chunk W r ks, x ≤ y)
theorem Inv.start (R W : Nat) (ks : List Int) : Inv R W R ks := fun x => ⟨0, fun r h => absurd h (Nat.not_lt_zero _), fun r h1 h2 => absurd h2 (Nat.not_lt.mpr (Nat.zero_add R ▸ h1))⟩
theorem succ_mul_le {i R W : Nat} (h : i < R) : i * W + W ≤ R * W := succ_le h
theorem flat_len {f : Nat → List Int} {W : Nat} : ∀ {R : Nat}, (∀ i, i < R → (f i).length = W) → ((List.range R).flatMap f).length = R * W
  | 0, _ => by simp
  | R + 1, h => by
    rw [List.range_succ, List.flatMap_append, List.length_append, flat_len fun i hi => h i (Nat.lt_succ_of_lt hi)]
    simp only [List.flatMap_cons, List.flatMap_nil, List.append_nil]
    rw [h R (Nat.lt_succ_self R), Nat.succ_mul]
theorem flat_chunk {f : Nat → List Int} {W : Nat} : ∀ {R : Nat}, (∀ i, i < R → (f i).length = W) → ∀ i, i < R → chunk W i ((List.range R).flatMap f) = f i
  | 0, _, i, hi => absurd hi (Nat.not_lt_zero _)
  | R + 1, h, i, hi => by
    have hl := flat_len (R := R) fun i hi => h i (Nat.lt_succ_of_lt hi)
    rw [List.range_succ, List.flatMap_append]
    simp only [List.flatMap_cons, List.flatMap_nil, List.append_nil]
    rcases Nat.lt_or_eq_of_le (Nat.le_of_lt_succ hi) with h1 | h1
    · exact (chunk_app_lt hl h1).trans (flat_chunk (R := R) (fun i hi => h i (Nat.lt_succ_of_lt hi)) i h1)
    · subst h1
      exact (chunk_app_ge (k := 0) hl).trans (chunk_first (Nat.le_of_eq (h i hi)))
theorem chunks_flat {W : Nat} (h0 : 0 < W) : ∀ {R : Nat} {l : List Int}, l.length = R * W → l = (List.range R).flatMap fun r => chunk W r l
  | 0, l, h => by rw [Nat.zero_mul] at h; rw [List.length_eq_zero_iff.mp h]; rfl
  | R + 1, l, h => by
    rw [Nat.succ_mul] at h
    have hA : (l.take (R * W)).length = R * W := by rw [List.length_take, h, Nat.min_eq_left (Nat.le_add_right _ _)]
    have ih := chunks_flat h0 (R := R) hA
    rw [List.range_succ, List.flatMap_append]
    simp only [List.flatMap_cons, List.flatMap_nil, List.append_nil]
    have e : ((List.range R).flatMap fun r => chunk W r l) = (List.range R).flatMap fun r => chunk W r (l.take (R * W)) := by
      rw [List.flatMap_def, List.flatMap_def]
      congr 1
      exact List.map_congr_left fun r hr => (congrArg (chunk W r) (List.take_append_drop (R * W) l).symm).trans (chunk_app_lt hA (List.mem_range.mp hr))
    have e2 : chunk W R l = l.drop (R * W) := List.take_of_length_le (by rw [List.length_drop, h, Nat.add_sub_cancel_left]; exact Nat.le_refl _)
    rw [e, ← ih, e2, List.take_append_drop]
theorem eq_of_chunks {R W : Nat} {l l' : List Int} (h0 : 0 < W) (h1 : l.length = R * W) (h2 : l'.length = R * W) (h : ∀ i, i < R → chunk W i l = chunk W i l') : l = l' := by
  rw [chunks_flat h0 h1, chunks_flat h0 h2, List.flatMap_def, List.flatMap_def]
  congr 1
  exact List.map_congr_left fun r hr => h r (List.mem_range.mp hr)
theorem chunk_full {R W i : Nat} {l : List Int} (h : l.length = R * W) (hi : i < R) : (chunk W i l).length = W := chunk_len (h ▸ succ_le hi)
theorem bySort_chunk {R W : Nat} {ks : List Int} (f : Nat) (hlen : ks.length = R * W) (i : Nat) (hi : i < R) : chunk W i (bySort W ks f R) = if (i + f) % 2 = 1 then (srt (chunk W i ks)).reverse else srt (chunk W i ks) := by
  unfold bySort
  rw [flat_chunk (W := W) (R := R) ?_ i hi]
  intro j hj
  have h1 := srt_length (chunk W j ks)
  have h2 := chunk_full hlen hj
  split
  · rw [List.length_reverse]; exact h1.trans h2
  · exact h1.trans h2
theorem bySort_len {R W : Nat} {ks : List Int} (f : Nat) (hlen : ks.length = R * W) : (bySort W ks f R).length = R * W := bySort_length (Nat.le_of_eq hlen.symm)
theorem par1 {i : Nat} (h : i % 2 = 0) : (i + 1) % 2 = 1 := by omega
theorem par0 {i : Nat} (h : i % 2 = 1) : ¬ (i + 1) % 2 = 1 := by omega
theorem swap_bySort {W R : Nat} {ks rs : List Int} (h0 : 0 < W) (hlen : ks.length = R * W) (h : SwapTo W (bySort W ks 0 R) R rs) : rs = bySort W ks 1 R := by
  have l0 := bySort_len 0 hlen
  refine eq_of_chunks h0 (h.1.trans l0) (bySort_len 1 hlen) fun i hi => ?_
  rw [h.rev l0 i hi, bySort_chunk 0 hlen i hi, bySort_chunk 1 hlen i hi]
  rw [Nat.add_zero]
  rcases Nat.mod_two_eq_zero_or_one i with e | e
  · rw [if_neg (by rw [e]; exact Nat.zero_ne_one), if_pos (par1 e)]
  · rw [if_pos e, if_neg (par0 e), List.reverse_reverse]
/-! turning a table about keeps its cells -/
theorem flatMap_cons_perm {β : Type} (a : β → Int) (b : β → List Int) : ∀ ys : List β, (ys.flatMap fun y => a y :: b y).Perm (ys.map a ++ ys.flatMap b)
  | [] => List.Perm.refl _
  | y :: ys => by
    simp only [List.flatMap_cons, List.map_cons, List.cons_append]
    refine List.Perm.cons _ ?_
    refine ((flatMap_cons_perm a b ys).append_left (b y)).trans ?_
    rw [← List.append_assoc, ← List.append_assoc]
    exact List.perm_append_comm.append_right _
theorem swap_perm {α β : Type} (g : α → β → Int) (ys : List β) : ∀ xs : List α, (xs.flatMap fun x => ys.map (g x)).Perm (ys.flatMap fun y => xs.map fun x => g x y)
  | [] => by simp
  | x :: xs => by
    simp only [List.flatMap_cons, List.map_cons]
    exact (((swap_perm g ys xs).append_left (ys.map (g x)))).trans (flatMap_cons_perm (g x) (fun y => xs.map fun x => g x y) ys).symm
theorem chunk_map {W r : Nat} {l : List Int} (h : (chunk W r l).length = W) : chunk W r l = (List.range W).map fun c => l.getD (c + r * W) 0 := by
  apply List.ext_getElem (by rw [h]; simp)
  intro i h1 h2
  have hi : i < W := h ▸ h1
  have := chunk_getD (l := l) (r := r) hi
  rw [List.getD_eq_getElem?_getD, List.getElem?_eq_getElem h1] at this
  simp only [Option.getD_some] at this
  rw [this, List.getElem_map, List.getElem_range, Nat.add_comm]
theorem acr_perm {R W : Nat} {l : List Int} (h0 : 0 < W) (h : l.length = R * W) : (acr R W l W).Perm l := by
  have e : l = (List.range R).flatMap fun r => (List.range W).map fun c => l.getD (c + r * W) 0 := by
    have := chunks_flat h0 h
    refine this.trans ?_
    rw [List.flatMap_def, List.flatMap_def]
    congr 1
    exact List.map_congr_left fun r hr => chunk_map (chunk_full h (List.mem_range.mp hr))
  refine List.Perm.trans ?_ (List.Perm.of_eq e.symm)
  exact swap_perm (fun c r => l.getD (c + r * W) 0) (List.range R) (List.range W)
theorem acr_chunk {R W : Nat} {l : List Int} (c : Nat) (hc : c < W) : chunk R c (acr R W l W) = colOf W l c R := by
  unfold acr
  exact flat_chunk (fun i _ => colOf_length W l i R) c hc
theorem flat_perm {f g : Nat → List Int} : ∀ (l : List Nat), (∀ i ∈ l, (f i).Perm (g i)) → (l.flatMap f).Perm (l.flatMap g)
  | [], _ => List.Perm.refl _
  | a :: l, h => by
    simp only [List.flatMap_cons]
    exact (h a (.head _)).append (flat_perm l fun i hi => h i (.tail _ hi))
theorem bySort_perm {R W : Nat} {ks : List Int} (f : Nat) (h0 : 0 < W) (hlen : ks.length = R * W) : (bySort W ks f R).Perm ks := by
  refine List.Perm.trans ?_ (List.Perm.of_eq (chunks_flat h0 hlen).symm)
  refine flat_perm _ fun i _ => ?_
  split
  · exact (List.reverse_perm _).trans (srt_perm _)
  · exact srt_perm _
/-! bounds -/
theorem sorted_one {x : Int} : ∀ {l : List Int}, l.Pairwise (· ≤ ·) → ∀ c, c < l.length → (x ≤ l.getD c 0 ↔ l.length ≤ c + l.countP fun y => decide (x ≤ y))
  | [], _, c, hc => absurd hc (Nat.not_lt_zero _)
  | a :: t, h, c, hc => by
    rw [List.pairwise_cons] at h
    by_cases ha : x ≤ a
    · have hall : t.countP (fun y => decide (x ≤ y)) = t.length := List.countP_eq_length.mpr fun y hy => decide_eq_true (Int.le_trans ha (h.1 y hy))
      rw [List.countP_cons_of_pos (p := fun y => decide (x ≤ y)) (decide_eq_true ha), hall]
      refine ⟨fun _ => Nat.le_add_left _ _, fun _ => ?_⟩
      cases c with
      | zero => exact ha
      | succ c => exact Int.le_trans ha (h.1 _ (getD_mem (Nat.lt_of_succ_lt_succ hc)))
    · rw [List.countP_cons_of_neg (p := fun y => decide (x ≤ y)) fun q => ha (of_decide_eq_true q)]
      cases c with
      | zero => exact ⟨fun hh => absurd hh ha, fun hh => absurd (Nat.le_trans hh (Nat.le_trans (Nat.le_of_eq (Nat.zero_add _)) (List.countP_le_length (l := t)))) (Nat.not_succ_le_self _)⟩
      | succ c =>
        refine (sorted_one (x := x) h.2 c (Nat.lt_of_succ_lt_succ hc)).trans ?_
        rw [List.length_cons, Nat.add_right_comm c 1, Nat.add_le_add_iff_right]
def oneP (x : Int) : Int → Bool := fun y => decide (x ≤ y)
theorem fro_ar {W c n : Nat} (hc : c < W) : W ≤ W - 1 - c + n ↔ c < n := by
  obtain ⟨k, rfl⟩ := Nat.exists_eq_add_of_lt hc
  rw [show c + k + 1 - 1 - c = k from by rw [Nat.add_sub_cancel, Nat.add_sub_cancel_left], show c + k + 1 = k + (c + 1) from by rw [Nat.add_comm c k, Nat.add_assoc]]
  exact Nat.add_le_add_iff_left
/-- a cell of the table laid to and fro -/
theorem fro_cell {R W : Nat} {ks : List Int} {x : Int} (hlen : ks.length = R * W) {r c : Nat} (hr : r < R) (hc : c < W) :
    (x ≤ (bySort W ks 0 R).getD (c + r * W) 0 ↔ if r % 2 = 1 then c < (chunk W r ks).countP (oneP x) else W ≤ c + (chunk W r ks).countP (oneP x)) := by
  have e1 : (bySort W ks 0 R).getD (c + r * W) 0 = (chunk W r (bySort W ks 0 R)).getD c 0 := by rw [chunk_getD hc, Nat.add_comm]
  rw [e1, bySort_chunk 0 hlen r hr]
  have hl : (srt (chunk W r ks)).length = W := (srt_length _).trans (chunk_full hlen hr)
  have hcnt : (srt (chunk W r ks)).countP (oneP x) = (chunk W r ks).countP (oneP x) := (srt_perm _).countP_eq _
  rw [Nat.add_zero]
  by_cases e : r % 2 = 1
  · rw [if_pos e, if_pos e]
    have e2 : (srt (chunk W r ks)).reverse.getD c 0 = (srt (chunk W r ks)).getD (W - 1 - c) 0 := by
      rw [List.getD_eq_getElem?_getD, List.getElem?_reverse (hl.symm ▸ hc), hl, List.getD_eq_getElem?_getD]
    rw [e2, sorted_one (srt_sorted _) _ (hl.symm ▸ Nat.lt_of_le_of_lt (Nat.sub_le _ _) (Nat.sub_one_lt_of_lt hc))]
    show _ ≤ _ + (srt (chunk W r ks)).countP (oneP x) ↔ _
    rw [hcnt, hl]
    exact fro_ar hc
  · rw [if_neg e, if_neg e, sorted_one (srt_sorted _) _ (hl.symm ▸ hc)]
    show _ ≤ _ + (srt (chunk W r ks)).countP (oneP x) ↔ _
    rw [hcnt, hl]
/-- rows taken two and two: each column gets p or p + 1 of a pair -/
theorem b01 {q : Bool} {P : Prop} [Decidable P] (h : q = true ↔ P) : (if q = true then 1 else 0 : Nat) = if P then 1 else 0 := by
  by_cases hp : P
  · rw [if_pos hp, if_pos (h.mpr hp)]
  · rw [if_neg hp, if_neg (fun e => hp (h.mp e))]
theorem bit_le {P : Prop} [Decidable P] : (if P then 1 else 0 : Nat) ≤ 1 := by
  split
  · exact Nat.le_refl _
  · exact Nat.zero_le _
theorem pair_hi {W u v c : Nat} (hs : W ≤ u + v) : 1 ≤ (if W ≤ c + u then 1 else 0 : Nat) + (if c < v then 1 else 0) ∧ (if W ≤ c + u then 1 else 0 : Nat) + (if c < v then 1 else 0) ≤ 1 + 1 := by
  refine ⟨?_, Nat.add_le_add bit_le bit_le⟩
  by_cases h : c < v
  · rw [if_pos h]; exact Nat.le_add_left _ _
  · rw [if_pos (Nat.le_trans hs (Nat.add_comm u v ▸ Nat.add_le_add_right (Nat.not_lt.mp h) u))]; exact Nat.le_add_right _ _
theorem pair_lo {W u v c : Nat} (hs : ¬ W ≤ u + v) : 0 ≤ (if W ≤ c + u then 1 else 0 : Nat) + (if c < v then 1 else 0) ∧ (if W ≤ c + u then 1 else 0 : Nat) + (if c < v then 1 else 0) ≤ 0 + 1 := by
  refine ⟨Nat.zero_le _, ?_⟩
  rw [Nat.zero_add]
  by_cases h : c < v
  · rw [if_neg fun q => hs (Nat.le_trans q (Nat.add_comm c u ▸ Nat.add_le_add_left (Nat.le_of_lt h) u)), Nat.zero_add]; exact bit_le
  · rw [if_neg h]; exact bit_le
theorem pairs {W : Nat} {u : Nat → Nat} (hu : ∀ r, u r ≤ W) (b : Nat → Nat → Bool) (hb : ∀ r c, c < W → (b r c = true ↔ if r % 2 = 1 then c < u r else W ≤ c + u r)) : ∀ k i : Nat, ∃ m, ∀ c, c < W → m ≤ (List.range' i k).countP (fun r => b r c) ∧ (List.range' i k).countP (fun r => b r c) ≤ m + (k + 1) / 2
  | 0, i => ⟨0, fun c _ => by simp⟩
  | 1, i => ⟨0, fun c _ => ⟨Nat.zero_le _, List.countP_le_length (l := List.range' i 1)⟩⟩
  | k + 2, i => by
    obtain ⟨m, hm⟩ := pairs hu b hb k (i + 2)
    have e : ∀ c, (List.range' i (k + 2)).countP (fun r => b r c) = (if b i c = true then 1 else 0) + (if b (i + 1) c = true then 1 else 0) + (List.range' (i + 2) k).countP (fun r => b r c) := by
      intro c
      rw [List.range'_succ, List.range'_succ, List.countP_cons, List.countP_cons]
      show (List.range' (i + 2) k).countP (fun r => b r c) + _ + _ = _
      rw [Nat.add_assoc, Nat.add_comm, Nat.add_comm (if b (i + 1) c = true then 1 else 0)]
    have key : ∃ p, p ≤ 1 ∧ ∀ c, c < W → p ≤ (if b i c = true then 1 else 0) + (if b (i + 1) c = true then 1 else 0) ∧ (if b i c = true then 1 else 0) + (if b (i + 1) c = true then 1 else 0) ≤ p + 1 := by
      have hz : ∀ {j : Nat}, j % 2 = 0 → ¬ j % 2 = 1 := fun h q => Nat.zero_ne_one (h.symm.trans q)
      by_cases hs : W ≤ u i + u (i + 1)
      · refine ⟨1, Nat.le_refl _, fun c hc => ?_⟩
        have h1 := hb i c hc
        have h2 := hb (i + 1) c hc
        rcases Nat.mod_two_eq_zero_or_one i with hi | hi
        · rw [if_neg (hz hi)] at h1
          rw [if_pos (par1 hi)] at h2
          rw [b01 h1, b01 h2]
          exact pair_hi hs
        · rw [if_pos hi] at h1
          rw [if_neg (par0 hi)] at h2
          rw [b01 h1, b01 h2, Nat.add_comm (if c < u i then 1 else 0)]
          exact pair_hi (Nat.add_comm (u i) _ ▸ hs)
      · refine ⟨0, Nat.zero_le _, fun c hc => ?_⟩
        have h1 := hb i c hc
        have h2 := hb (i + 1) c hc
        rcases Nat.mod_two_eq_zero_or_one i with hi | hi
        · rw [if_neg (hz hi)] at h1
          rw [if_pos (par1 hi)] at h2
          rw [b01 h1, b01 h2]
          exact pair_lo hs
        · rw [if_pos hi] at h1
          rw [if_neg (par0 hi)] at h2
          rw [b01 h1, b01 h2, Nat.add_comm (if c < u i then 1 else 0)]
          exact pair_lo (Nat.add_comm (u i) _ ▸ hs)
    obtain ⟨p, hp1, hp⟩ := key
    refine ⟨m + p, fun c hc => ?_⟩
    have h1 := hm c hc
    have h2 := hp c hc
    rw [e c, show (k + 2 + 1) / 2 = (k + 1) / 2 + 1 from Nat.add_div_right (k + 1) Nat.two_pos]
    refine ⟨Nat.add_comm p m ▸ Nat.add_le_add h2.1 h1.1, Nat.le_trans (Nat.add_le_add h2.2 h1.2) (Nat.le_of_eq ?_)⟩
    rw [Nat.add_add_add_comm, Nat.add_comm p m, Nat.add_comm 1]
end Mine
end
section -- P3
set_option linter.unusedVariables false
namespace Mine
theorem colOf_chunk {R W c : Nat} {l : List Int} : colOf R l c W = (List.range W).map fun j => l.getD (c + j * R) 0 := rfl
theorem new_row {R W r : Nat} (ls : List Int) (hr : r < R) : chunk W r (acr W R ls R) = colOf R ls r W := acr_chunk (R := W) (W := R) r hr
theorem inv_cnt {R W M : Nat} {ks : List Int} (h : Inv R W M ks) (x : Int) : cntMix W ks x R ≤ M := by
  obtain ⟨a, h1, h2⟩ := h x
  have key : ∀ i, i ≤ R → cntMix W ks x i ≤ M ∧ cntMix W ks x i ≤ i - a := by
    intro i
    induction i with
    | zero => intro _; simp [cntMix]
    | succ i ih =>
      intro hi
      have := ih (Nat.le_of_succ_le hi)
      rw [cntMix_succ]
      by_cases q : mixed x (chunk W i ks) = true
      · rw [if_pos q]
        have q1 : a ≤ i := by
          apply Nat.le_of_not_lt; intro hh; exact not_mixed_hi (h1 i hh hi) q
        have q2 : i < a + M := by
          apply Nat.lt_of_not_le; intro hh; exact not_mixed_lo (h2 i hh hi) q
        exact ⟨Nat.lt_of_le_of_lt this.2 (Nat.sub_lt_left_of_lt_add q1 q2), Nat.succ_sub q1 ▸ Nat.succ_le_succ this.2⟩
      · rw [if_neg q]; exact ⟨this.1, Nat.le_trans this.2 (Nat.sub_le_sub_right (Nat.le_succ i) a)⟩
  exact (key R (Nat.le_refl _)).1
theorem countP_all {l : List Nat} {p : Nat → Bool} (h : ∀ r ∈ l, p r = true) : l.countP p = l.length := by
  rw [List.countP_eq_length]; exact h
theorem countP_no {l : List Nat} {p : Nat → Bool} (h : ∀ r ∈ l, p r = false) : l.countP p = 0 := by
  rw [List.countP_eq_zero]; intro r hr; rw [h r hr]; simp
theorem step_col {R W M : Nat} {ks : List Int} (hlen : ks.length = R * W) (h0 : 0 < W) (hI : Inv R W M ks) (x : Int) :
    ∃ m, ∀ c, c < W → m ≤ (colOf W (bySort W ks 0 R) c R).countP (oneP x) ∧ (colOf W (bySort W ks 0 R) c R).countP (oneP x) ≤ m + (M + 1) / 2 := by
  obtain ⟨a, h1, h2⟩ := hI x
  have e : ∀ c, (colOf W (bySort W ks 0 R) c R).countP (oneP x) = (List.range R).countP fun r => oneP x ((bySort W ks 0 R).getD (c + r * W) 0) := by
    intro c; unfold colOf; rw [List.countP_map]; rfl
  -- u: ones of a row, by the whole table
  let u : Nat → Nat := fun r => if r < R then (chunk W r ks).countP (oneP x) else 0
  have hu : ∀ r, u r ≤ W := by
    intro r
    show (if r < R then _ else _) ≤ W
    split
    · have := List.countP_le_length (p := oneP x) (l := chunk W r ks)
      rw [chunk_full hlen (by assumption)] at this; exact this
    · exact Nat.zero_le _
  let b : Nat → Nat → Bool := fun r c => if r % 2 = 1 then decide (c < u r) else decide (W ≤ c + u r)
  have hb : ∀ r c, c < W → (b r c = true ↔ if r % 2 = 1 then c < u r else W ≤ c + u r) := by
    intro r c _
    show ((if r % 2 = 1 then decide (c < u r) else decide (W ≤ c + u r)) = true ↔ _)
    split <;> simp
  have eb : ∀ r c, r < R → c < W → oneP x ((bySort W ks 0 R).getD (c + r * W) 0) = b r c := by
    intro r c hr hc
    have q := fro_cell (x := x) hlen hr hc
    have q2 := hb r c hc
    have q3 : u r = (chunk W r ks).countP (oneP x) := if_pos hr
    rw [q3] at q2
    have q4 : (oneP x ((bySort W ks 0 R).getD (c + r * W) 0) = true) ↔ (b r c = true) := by
      rw [q2, ← q]; unfold oneP; simp
    exact Bool.eq_iff_iff.mpr q4
  have e2 : ∀ c, c < W → (colOf W (bySort W ks 0 R) c R).countP (oneP x) = (List.range R).countP fun r => b r c := by
    intro c hc
    rw [e c]
    apply List.countP_congr
    intro r hr
    rw [eb r c (List.mem_range.mp hr) hc]
  have lo : ∀ r c, r < a → r < R → c < W → b r c = false := by
    intro r c p1 p2 p3
    have z : u r = 0 := by
      show (if r < R then _ else _) = 0
      rw [if_pos p2, List.countP_eq_zero]
      exact fun y hy q => absurd (of_decide_eq_true q) (Int.not_le.mpr (h1 r p1 p2 y hy))
    have := (hb r c p3)
    rw [z] at this
    cases q : b r c with
    | false => rfl
    | true =>
      rw [q] at this
      have := this.mp rfl
      split at this
      · exact absurd this (Nat.not_lt_zero _)
      · exact absurd this (Nat.not_le.mpr p3)
  have hi : ∀ r c, a + M ≤ r → r < R → c < W → b r c = true := by
    intro r c p1 p2 p3
    have z : u r = W := by
      show (if r < R then _ else _) = W
      rw [if_pos p2]
      have : (chunk W r ks).countP (oneP x) = (chunk W r ks).length := by
        rw [List.countP_eq_length]
        exact fun y hy => decide_eq_true (h2 r p1 p2 y hy)
      rw [this, chunk_full hlen p2]
    rw [hb r c p3, z]
    split
    · exact p3
    · exact Nat.le_add_left _ _
  have hk : ∃ a' k, a' ≤ a ∧ a' + k ≤ R ∧ k ≤ M ∧ (a' = a ∨ a' = R) ∧ (a' + k = R ∨ a' + k = a + M) := by
    rcases Nat.lt_or_ge a R with q | q
    · rcases Nat.lt_or_ge (a + M) R with q2 | q2
      · exact ⟨a, M, Nat.le_refl _, Nat.le_of_lt q2, Nat.le_refl _, .inl rfl, .inr rfl⟩
      · exact ⟨a, R - a, Nat.le_refl _, Nat.le_of_eq (Nat.add_sub_cancel' (Nat.le_of_lt q)), Nat.sub_le_of_le_add (Nat.add_comm a M ▸ q2), .inl rfl, .inl (Nat.add_sub_cancel' (Nat.le_of_lt q))⟩
    · exact ⟨R, 0, q, Nat.le_refl _, Nat.zero_le _, .inr rfl, .inl rfl⟩
  obtain ⟨a', k, k1, k2, k3, k4, k5⟩ := hk
  obtain ⟨m, hm⟩ := pairs hu b hb k a'
  have cut : ∀ c, c < W → (List.range R).countP (fun r => b r c) = (List.range' a' k).countP (fun r => b r c) + (R - (a' + k)) := by
    intro c hc
    have e3 : List.range R = List.range' 0 a' ++ (List.range' a' k ++ List.range' (a' + k) (R - (a' + k))) := by
      rw [List.range_eq_range']
      have z1 := List.range'_append_1 (s := a') (m := k) (n := R - (a' + k))
      have z2 := List.range'_append_1 (s := 0) (m := a') (n := k + (R - (a' + k)))
      rw [z1]
      rw [Nat.zero_add] at z2
      rw [z2]
      rw [← Nat.add_assoc, Nat.add_sub_cancel' k2]
    rw [e3, List.countP_append, List.countP_append, countP_no (l := List.range' 0 a'), countP_all (l := List.range' (a' + k) _), List.length_range']
    · exact Nat.zero_add _
    · intro r hr
      rw [List.mem_range'_1] at hr
      have hrR : r < R := Nat.add_sub_cancel' k2 ▸ hr.2
      exact hi r c (k5.elim (fun q => absurd hrR (Nat.not_lt.mpr (q ▸ hr.1))) (fun q => q ▸ hr.1)) hrR hc
    · intro r hr
      rw [List.mem_range'_1] at hr
      have hra : r < a' := Nat.zero_add a' ▸ hr.2
      exact lo r c (Nat.lt_of_lt_of_le hra k1) (Nat.lt_of_lt_of_le hra (Nat.le_trans (Nat.le_add_right _ _) k2)) hc
  refine ⟨m + (R - (a' + k)), fun c hc => ?_⟩
  rw [e2 c hc, cut c hc]
  have := hm c hc
  refine ⟨Nat.add_le_add_right this.1 _, Nat.le_trans (Nat.add_le_add_right this.2 _) ?_⟩
  rw [Nat.add_right_comm]
  exact Nat.add_le_add_left (Nat.div_le_div_right (Nat.succ_le_succ k3)) _
theorem round_inv {R W M : Nat} {ks ls : List Int} (hlen : ks.length = R * W) (h0 : 0 < W) (hI : Inv R W M ks) (hL : Lay R (acr R W (bySort W ks 0 R) W) ls) : Inv R W ((M + 1) / 2) (acr W R ls R) := by
  intro x
  obtain ⟨m, hm⟩ := step_col hlen h0 hI x
  have cell : ∀ r c, r < R → c < W → (x ≤ ls.getD (r + c * R) 0 ↔ R ≤ r + (colOf W (bySort W ks 0 R) c R).countP (oneP x)) := by
    intro r c hr hc
    have h1 := hL.2 c
    rw [acr_chunk c hc] at h1
    have hl : (chunk R c ls).length = R := by rw [h1.1.length_eq, colOf_length]
    have := sorted_one (x := x) h1.2 r (hl.symm ▸ hr)
    rw [hl, chunk_getD hr, Nat.add_comm] at this
    rw [this, ← h1.1.countP_eq]
    rfl
  refine ⟨R - (m + (M + 1) / 2), fun r h1 hr y hy => ?_, fun r h1 hr y hy => ?_⟩
  · rw [new_row ls hr] at hy
    unfold colOf at hy
    rw [List.mem_map] at hy
    obtain ⟨c, hc, rfl⟩ := hy
    rw [List.mem_range] at hc
    have q := cell r c hr hc
    have q2 := hm c hc
    apply Int.lt_of_not_ge
    intro q3
    exact absurd (Nat.le_trans (q.mp q3) (Nat.add_le_add_left q2.2 r)) (Nat.not_le.mpr (Nat.add_lt_of_lt_sub h1))
  · rw [new_row ls hr] at hy
    unfold colOf at hy
    rw [List.mem_map] at hy
    obtain ⟨c, hc, rfl⟩ := hy
    rw [List.mem_range] at hc
    have q := cell r c hr hc
    have q2 := hm c hc
    rw [q]
    refine Nat.le_trans (Nat.sub_le_iff_le_add.mp (Nat.le_refl (R - (m + (M + 1) / 2)))) ?_
    rw [Nat.add_comm m, ← Nat.add_assoc, Nat.add_comm _ m]
    rw [Nat.add_comm m] at h1
    rw [Nat.add_comm m]
    exact Nat.add_le_add h1 q2.1
theorem round_step {R W M : Nat} {ks ls : List Int} (hlen : ks.length = R * W) (hR : 1 < R) (h0 : 0 < W) (hI : Inv R W M ks) (hL : Lay R (acr R W (bySort W ks 0 R) W) ls) :
    (acr W R ls R).Perm ks ∧ Inv R W ((M + 1) / 2) (acr W R ls R) ∧ ∀ x, cntMix W (acr W R ls R) x R ≤ (M + 1) / 2 := by
  have hi := round_inv hlen h0 hI hL
  refine ⟨?_, hi, inv_cnt hi⟩
  have hl : ls.length = W * R := by rw [hL.1, acr_length]
  refine (acr_perm (R := W) (W := R) (Nat.lt_trans Nat.zero_lt_one hR) hl).trans ?_
  refine (Lay.perm (Nat.lt_trans Nat.zero_lt_one hR) _ _ _ (Nat.le_refl _) hL).trans ?_
  exact (acr_perm h0 (bySort_len 0 hlen)).trans (bySort_perm 0 h0 hlen)
theorem inv_one {R W : Nat} {ks rs : List Int} (hlen : ks.length = R * W) (h0 : 0 < W) (hI : Inv R W 1 ks) (hL : Lay W ks rs) : rs = srt ks := by
  refine srt_eq (Lay.perm h0 _ _ _ (Nat.le_refl _) hL) ?_
  rw [chunks_flat h0 (hL.1.trans hlen), List.pairwise_flatMap]
  refine ⟨fun r _ => (hL.2 r).2, ?_⟩
  rw [List.pairwise_iff_getElem]
  intro i j hi hj hij y hy z hz
  rw [List.length_range] at hi hj
  rw [List.getElem_range] at hy hz
  rw [(hL.2 i).1.mem_iff] at hy
  rw [(hL.2 j).1.mem_iff] at hz
  obtain ⟨a, h1, h2⟩ := hI y
  have q : a ≤ i := by
    apply Nat.le_of_not_lt; intro hh
    exact absurd (h1 i hh hi y hy) (Int.lt_irrefl _)
  exact h2 j (Nat.succ_le_of_lt (Nat.lt_of_le_of_lt q hij)) hj z hz
end Mine
end
section -- RD
open PySem PySem.W PySem.Calls PyProof.Rows
set_option linter.unusedVariables false
set_option linter.unusedSimpArgs false
set_option maxRecDepth 100000
set_option maxHeartbeats 8000000
namespace Mine
theorem bInts_inj {a b : Array UInt8} (h : KBw.bInts a = KBw.bInts b) : a = b := by
  apply Array.toList_inj.mp
  unfold KBw.bInts at h
  exact List.map_inj_right (fun x y e => UInt8.toNat_inj.mp (Int.ofNat.inj e)) |>.mp h
theorem Cmp1_R {M : Model} {A : Around} {E : Value → Shared → Prop} {s : Shared} {env : Env} {l : Expr} {op : CmpOp} {c : Expr} {pos : Pos} {v : Sem Value} {Q : Bool → Shared → Prop}
    (h : wpR M A (eval l env) (fun v s₁ => wpAny M A (testChain pos v [op] [eval c env]) Q E s₁) E s) (hm : markedEach [op] [c] (evalEach [c] env) = [eval c env] := by rfl) :
    wpR M A (isTrue (.Compare l [op] [c] pos) env v) Q E s := Cmp_R (by rw [hm]; exact h)
theorem srt_of_perm {a b : List Int} (h : a.Perm b) : srt a = srt b := srt_eq ((srt_perm a).trans h) (srt_sorted a)
theorem rounds_c (w : World) (mean : ExcName → Option Value) (mg mb : Str → Option Value) (b : Array UInt8) (ks : List Int) (hb : KBw.bInts b = ks) (R W : Nat) (hlen : ks.length = R * W) (h100 : ks.length < 64) (hR : 1 < R) (t0 t1 : Tok) (h0 : 0 < W) (h1 : W < 100) :
   ClaimR w mean mg mb 6 93 [] [.bytes b t0, .int R t1] [] (fun r own' => ∃ D its nn, r = .ref D ∧ own' = [(D, listOf its.toArray nn)] ∧ IntsAre its (srt ks)) := by
  unfold ClaimR
  k_fill
  w_top off
  intro dp un gd cn cs ca ccd cl outer A₀ base h₀ L m rest s Q E hB hF hK hN hT hk hdis hdp hun hret
  k_dflt (refine' enter_ownRC (binds := [(Str.ofString "cells", .bytes b t0), (Str.ofString "rows", .int R t1)]) ?k1 ?k2 ?k3 ?k4 ?k5 ?kd ?kA ?kF ?kK ?k6 ?k7 ?k8 ?k9 ?kB ?kR ?_ ?c2 ?c3 ?c4 ?c5; (((case kA => exact rfl); (case kF => exact rfl); (case kK => assumption); (case k1 => k_asm); (case k2 => k_asm); (case k3 => k_asm); (case k4 => k_asm); (case k5 => k_asm); (case kd => assumption); (case k6 => k_is); (case k7 => k_is); (case k8 => first | exact room0 (by assumption) | ktr_room); (case k9 => first | exact BindsTo.of_eq rfl | exact kp_binds (by k_in) (fun _ => rfl)); (case c5 => decide +kernel); (case kB => exact rfl); (case c2 => exact rfl); (case c3 => exact rfl); (case c4 => exact rfl); (case kR => assumption))))
  intro g L' h' tk' cells' F' N' Y' B' X' T' l'
  k_cells Y'
  try simp only [List.cons_append, List.nil_append, List.append_nil] at N'
  clear hret hB hF hK hN hT hdis
  try dsimp only
  refine hideR ?_
  intro Q0 hQ0
  have hpos : 0 < ks.length := by rw [hlen]; exact Nat.mul_pos (by omega) h0
  have hRk : R ≤ ks.length := by rw [hlen]; exact Nat.le_mul_of_pos_right _ h0
  have hdiv : ((ks.length : Nat) : Int).fdiv (R : Int) = (W : Int) := by
    rw [Int.fdiv_eq_ediv_of_nonneg _ (by omega), hlen, Int.natCast_mul, Int.mul_comm, Int.mul_ediv_cancel _ (by omega)]
  refine execs_A ?_
  (repeat' ((fail_if_success (first | with_reducible show wpAny _ _ (PySem.call (Value.builtin "list.append") [_, Value.bytes _ _] _) _ _ _ | with_reducible show wpR _ _ _ _ _ _ | with_reducible show wpAny _ _ (PySem.exec (Stmt.Assign _ (Expr.ListComp _ _ _ _) _) _) _ _ _ | with_reducible show wpAny _ _ (PySem.eval (Expr.ListComp _ _ _ _) _) _ _ _ | with_reducible show wpAny _ _ (PySem.setItem _ _ _) _ _ _ | with_reducible show KswEnd _ _ _ _ _ _ _ _ _ _ _ _ | with_reducible show wpAny _ _ (PySem.call (Value.type "bytes") _ _) _ _ _ | with_reducible show wpAny _ _ (PySem.call (Value.ref _) _ _) _ _ _ | with_reducible show wpAny _ _ (exec (Stmt.While _ _ _ _) _) _ _ _ | with_reducible show wpAny _ _ (pyIter _) _ _ _)); (first | ((with_reducible show wpAny _ _ _ _ _ _); (first | ((first | with_reducible show wpAny _ _ _ _ _ (PySem.Shared.mk _ _ _ (_ + _) _) | with_reducible show wpAny _ _ _ _ _ (PySem.Shared.mk _ _ _ (PySem.Shared.toks _) _)); (try dsimp only); refine normG s rfl ?_; intro tkN8; (try clear tkN9); rename Nat => tkN9) | ((with_reducible show wpAny _ _ (PySem.execs (_ :: _) _) _ _ _); dsimp only))) | (k_unfold; (try dsimp only)) | (k_end; wrow_close) | walk1 | (dsimp only; walk1) | (leave1; walk_say "STEP leave1"; try dsimp only) | fail "no step")))
  refine execs_A ?_
  (repeat' ((fail_if_success (first | with_reducible show wpAny _ _ (PySem.call (Value.builtin "list.append") [_, Value.bytes _ _] _) _ _ _ | with_reducible show wpR _ _ _ _ _ _ | with_reducible show wpAny _ _ (PySem.exec (Stmt.Assign _ (Expr.ListComp _ _ _ _) _) _) _ _ _ | with_reducible show wpAny _ _ (PySem.eval (Expr.ListComp _ _ _ _) _) _ _ _ | with_reducible show wpAny _ _ (PySem.setItem _ _ _) _ _ _ | with_reducible show KswEnd _ _ _ _ _ _ _ _ _ _ _ _ | with_reducible show wpAny _ _ (PySem.call (Value.type "bytes") _ _) _ _ _ | with_reducible show wpAny _ _ (PySem.call (Value.ref _) _ _) _ _ _ | with_reducible show wpAny _ _ (exec (Stmt.While _ _ _ _) _) _ _ _ | with_reducible show wpAny _ _ (pyIter _) _ _ _)); (first | ((with_reducible show wpAny _ _ _ _ _ _); (first | ((first | with_reducible show wpAny _ _ _ _ _ (PySem.Shared.mk _ _ _ (_ + _) _) | with_reducible show wpAny _ _ _ _ _ (PySem.Shared.mk _ _ _ (PySem.Shared.toks _) _)); (try dsimp only); refine normG s rfl ?_; intro tkN8; (try clear tkN9); rename Nat => tkN9) | ((with_reducible show wpAny _ _ (PySem.execs (_ :: _) _) _ _ _); dsimp only))) | (k_unfold; (try dsimp only)) | (k_end; wrow_close) | walk1 | (dsimp only; walk1) | (leave1; walk_say "STEP leave1"; try dsimp only) | fail "no step")))
  dsimp only
  rename Fr _ _ _ _ => F5
  rename News _ _ _ _ => N5
  rename _ = Data.cell (bindC _ _ _ (Str.ofString "cells")) => dcells
  rename _ = Data.cell (some (Value.int _ _)) => dwidth
  rw [hdiv] at dwidth
  first | (refine normG s rfl ?_; intro tkR9) | (refine normH s rfl ?_; intro tkR9) | skip
  refine execs_R (whileR (σ := Obj × Obj × (Array UInt8 × Tok) × (Nat × Tok)) (fun c => [(L' + 1 + 1, c.1), (L' + 1, c.2.1)]) (fun c => [(Str.ofString "most", .int c.2.2.2.1 c.2.2.2.2)])
    (fun c => (∃ tw, c.1.data = .cell (some (.int W tw))) ∧ c.2.1.data = .cell (some (.bytes c.2.2.1.1 c.2.2.1.2))) [Str.ofString "table"]
    (fun c => 1 ≤ c.2.2.2.1 ∧ c.2.2.2.1 ≤ R ∧ ∃ ks', KBw.bInts c.2.2.1.1 = ks' ∧ ks'.Perm ks ∧ Inv R W c.2.2.2.1 ks') (fun c => c.2.2.2.1) (_, _, (b, t0), (R, t1)) F5 N5 ⟨⟨_, dwidth⟩, dcells⟩ (by kst_all) ⟨by show 1 ≤ R; omega, Nat.le_refl _, ks, hb, List.Perm.refl _, Inv.start R W ks⟩ ?_)
  · rintro ⟨oW, oC, ⟨cb, ct⟩, ⟨M, tM⟩⟩ u h tk ⟨⟨tw, dW⟩, dC⟩ ⟨hM1, hMR, ks', hb', hperm, hInv⟩ F N
    clear F5 N5 dcells dwidth
    dsimp only at *
    have hlen' : ks'.length = ks.length := hperm.length_eq
    (repeat' ((fail_if_success (first | with_reducible show wpAny _ _ (PySem.call (Value.builtin "list.append") [_, Value.bytes _ _] _) _ _ _ | with_reducible show wpR _ _ _ _ _ _ | with_reducible show wpAny _ _ (PySem.exec (Stmt.Assign _ (Expr.ListComp _ _ _ _) _) _) _ _ _ | with_reducible show wpAny _ _ (PySem.eval (Expr.ListComp _ _ _ _) _) _ _ _ | with_reducible show wpAny _ _ (PySem.setItem _ _ _) _ _ _ | with_reducible show KswEnd _ _ _ _ _ _ _ _ _ _ _ _ | with_reducible show wpAny _ _ (PySem.call (Value.type "bytes") _ _) _ _ _ | with_reducible show wpAny _ _ (PySem.call (Value.ref _) _ _) _ _ _ | with_reducible show wpAny _ _ (exec (Stmt.While _ _ _ _) _) _ _ _ | with_reducible show wpAny _ _ (pyIter _) _ _ _)); (first | ((with_reducible show wpAny _ _ _ _ _ _); (first | ((first | with_reducible show wpAny _ _ _ _ _ (PySem.Shared.mk _ _ _ (_ + _) _) | with_reducible show wpAny _ _ _ _ _ (PySem.Shared.mk _ _ _ (PySem.Shared.toks _) _)); (try dsimp only); refine normG s rfl ?_; intro tkN8; (try clear tkN9); rename Nat => tkN9) | ((with_reducible show wpAny _ _ (PySem.execs (_ :: _) _) _ _ _); dsimp only))) | (k_unfold; (try dsimp only)) | (k_end; wrow_close) | walk1 | (dsimp only; walk1) | (leave1; walk_say "STEP leave1"; try dsimp only) | fail "no step")))
    · refine execs_A ?_
      (repeat' ((fail_if_success (first | with_reducible show wpAny _ _ (PySem.call (Value.builtin "list.append") [_, Value.bytes _ _] _) _ _ _ | with_reducible show wpR _ _ _ _ _ _ | with_reducible show wpAny _ _ (PySem.exec (Stmt.Assign _ (Expr.ListComp _ _ _ _) _) _) _ _ _ | with_reducible show wpAny _ _ (PySem.eval (Expr.ListComp _ _ _ _) _) _ _ _ | with_reducible show wpAny _ _ (PySem.setItem _ _ _) _ _ _ | with_reducible show KswEnd _ _ _ _ _ _ _ _ _ _ _ _ | with_reducible show wpAny _ _ (PySem.call (Value.type "bytes") _ _) _ _ _ | with_reducible show wpAny _ _ (PySem.call (Value.ref _) _ _) _ _ _ | with_reducible show wpAny _ _ (exec (Stmt.While _ _ _ _) _) _ _ _ | with_reducible show wpAny _ _ (pyIter _) _ _ _)); (first | ((with_reducible show wpAny _ _ _ _ _ _); (first | ((first | with_reducible show wpAny _ _ _ _ _ (PySem.Shared.mk _ _ _ (_ + _) _) | with_reducible show wpAny _ _ _ _ _ (PySem.Shared.mk _ _ _ (PySem.Shared.toks _) _)); (try dsimp only); refine normG s rfl ?_; intro tkN8; (try clear tkN9); rename Nat => tkN9) | ((with_reducible show wpAny _ _ (PySem.execs (_ :: _) _) _ _ _); dsimp only))) | (k_unfold; (try dsimp only)) | (k_end; wrow_close) | walk1 | (dsimp only; walk1) | (leave1; walk_say "STEP leave1"; try dsimp only) | fail "no step")))
      refine execs_R (assign_call_R (K := hq.heap_1_39 w.params) ?_)
      (repeat' ((fail_if_success (first | with_reducible show wpAny _ _ (PySem.call (Value.builtin "list.append") [_, Value.bytes _ _] _) _ _ _ | with_reducible show wpR _ _ _ _ _ _ | with_reducible show wpAny _ _ (PySem.exec (Stmt.Assign _ (Expr.ListComp _ _ _ _) _) _) _ _ _ | with_reducible show wpAny _ _ (PySem.eval (Expr.ListComp _ _ _ _) _) _ _ _ | with_reducible show wpAny _ _ (PySem.setItem _ _ _) _ _ _ | with_reducible show KswEnd _ _ _ _ _ _ _ _ _ _ _ _ | with_reducible show wpAny _ _ (PySem.call (Value.type "bytes") _ _) _ _ _ | with_reducible show wpAny _ _ (PySem.call (Value.ref _) _ _) _ _ _ | with_reducible show wpAny _ _ (exec (Stmt.While _ _ _ _) _) _ _ _ | with_reducible show wpAny _ _ (pyIter _) _ _ _)); (first | ((with_reducible show wpAny _ _ _ _ _ _); (first | ((first | with_reducible show wpAny _ _ _ _ _ (PySem.Shared.mk _ _ _ (_ + _) _) | with_reducible show wpAny _ _ _ _ _ (PySem.Shared.mk _ _ _ (PySem.Shared.toks _) _)); (try dsimp only); refine normG s rfl ?_; intro tkN8; (try clear tkN9); rename Nat => tkN9) | ((with_reducible show wpAny _ _ (PySem.execs (_ :: _) _) _ _ _); dsimp only))) | (k_unfold; (try dsimp only)) | (k_end; wrow_close) | walk1 | (dsimp only; walk1) | (leave1; walk_say "STEP leave1"; try dsimp only) | fail "no step")))
      refine hideR ?_
      intro QC1 hQC1
      k_dflt (refine' use_claimR (fro_c w mean mg mb cb ks' hb' R W (by omega) (by omega) hR _ _ h0 h1) [(L' + 1 + 1, oW), (L' + 1, oC)] ?k1 ?k2 ?k3 ?k4 ?k5 ?k6 ?k7 ?k8 ?k9 ?k10 ?_; (((case k1 => k_asm); (case k2 => k_asm); (case k3 => k_asm); (case k4 => k_asm); (case k5 => k_asm); (case k6 => exact rfl); (case k7 => (((try simp only [List.append_nil, List.nil_append, List.cons_append, List.append_assoc]); first | exact (fun p hp => hp) | (simp only [List.forall_mem_cons, List.not_mem_nil, false_implies, implies_true, and_true, true_and]; (repeat' apply And.intro) <;> first | trivial | k_mem) | (simp; done)))); (case k8 => (((try simp only [List.append_nil, List.nil_append, List.cons_append, List.append_assoc]); first   | (simp only [List.forall_mem_cons, List.not_mem_nil, false_implies, implies_true, and_true, true_and, ne_eq]; done)   | ((simp only [List.forall_mem_cons, List.not_mem_nil, false_implies, implies_true, and_true, true_and]); (repeat' apply And.intro) <;> first | trivial | assumption | exact Ne.symm (by assumption) | k_ne)))); (case k9 => first | exact room1 (by assumption) (by decide) | ktr_room); (case k10 => first | exact units1 (by assumption) (by decide) | ktr_units))))
      rintro r own' h7 tk7 ⟨rfl, tb, tt, rfl, htb⟩ F7 N7 q7
      refine hQC1 _ _ ?_
      clear hQC1
      first | refine normA s rfl ?_ | refine normR s rfl ?_ | skip
      (repeat' ((fail_if_success (first | with_reducible show wpAny _ _ (PySem.call (Value.builtin "list.append") [_, Value.bytes _ _] _) _ _ _ | with_reducible show wpR _ _ _ _ _ _ | with_reducible show wpAny _ _ (PySem.exec (Stmt.Assign _ (Expr.ListComp _ _ _ _) _) _) _ _ _ | with_reducible show wpAny _ _ (PySem.eval (Expr.ListComp _ _ _ _) _) _ _ _ | with_reducible show wpAny _ _ (PySem.setItem _ _ _) _ _ _ | with_reducible show KswEnd _ _ _ _ _ _ _ _ _ _ _ _ | with_reducible show wpAny _ _ (PySem.call (Value.type "bytes") _ _) _ _ _ | with_reducible show wpAny _ _ (PySem.call (Value.ref _) _ _) _ _ _ | with_reducible show wpAny _ _ (exec (Stmt.While _ _ _ _) _) _ _ _ | with_reducible show wpAny _ _ (pyIter _) _ _ _)); (first | ((with_reducible show wpAny _ _ _ _ _ _); (first | ((first | with_reducible show wpAny _ _ _ _ _ (PySem.Shared.mk _ _ _ (_ + _) _) | with_reducible show wpAny _ _ _ _ _ (PySem.Shared.mk _ _ _ (PySem.Shared.toks _) _)); (try dsimp only); refine normG s rfl ?_; intro tkN8; (try clear tkN9); rename Nat => tkN9) | ((with_reducible show wpAny _ _ (PySem.execs (_ :: _) _) _ _ _); dsimp only))) | (k_unfold; (try dsimp only)) | (k_end; wrow_close) | walk1 | (dsimp only; walk1) | (leave1; walk_say "STEP leave1"; try dsimp only) | fail "no step")))
      refine execs_R (If_R (Or_R ?_))
      (repeat' ((fail_if_success (first | with_reducible show wpAny _ _ (PySem.call (Value.builtin "list.append") [_, Value.bytes _ _] _) _ _ _ | with_reducible show wpR _ _ _ _ _ _ | with_reducible show wpAny _ _ (PySem.exec (Stmt.Assign _ (Expr.ListComp _ _ _ _) _) _) _ _ _ | with_reducible show wpAny _ _ (PySem.eval (Expr.ListComp _ _ _ _) _) _ _ _ | with_reducible show wpAny _ _ (PySem.setItem _ _ _) _ _ _ | with_reducible show KswEnd _ _ _ _ _ _ _ _ _ _ _ _ | with_reducible show wpAny _ _ (PySem.call (Value.type "bytes") _ _) _ _ _ | with_reducible show wpAny _ _ (PySem.call (Value.ref _) _ _) _ _ _ | with_reducible show wpAny _ _ (exec (Stmt.While _ _ _ _) _) _ _ _ | with_reducible show wpAny _ _ (pyIter _) _ _ _)); (first | ((with_reducible show wpAny _ _ _ _ _ _); (first | ((first | with_reducible show wpAny _ _ _ _ _ (PySem.Shared.mk _ _ _ (_ + _) _) | with_reducible show wpAny _ _ _ _ _ (PySem.Shared.mk _ _ _ (PySem.Shared.toks _) _)); (try dsimp only); refine normG s rfl ?_; intro tkN8; (try clear tkN9); rename Nat => tkN9) | ((with_reducible show wpAny _ _ (PySem.execs (_ :: _) _) _ _ _); dsimp only))) | (k_unfold; (try dsimp only)) | (k_end; wrow_close) | walk1 | (dsimp only; walk1) | (leave1; walk_say "STEP leave1"; try dsimp only) | fail "no step")))
      refine hideA ?_
      intro QC2 hQC2
      k_dflt (refine' use_claim (sorting_c w mean mg mb cb ks' hb' R W 0 (by omega) (by omega) (by omega) _ _ _ h0 h1 (by omega)) [(L' + 1 + 1, oW), (L' + 1, oC)] ?k1 ?k2 ?k3 ?k4 ?k5 ?k6 ?k7 ?k8 ?k9 ?k10 ?_; (((case k1 => k_asm); (case k2 => k_asm); (case k3 => k_asm); (case k4 => k_asm); (case k5 => k_asm); (case k6 => exact rfl); (case k7 => (((try simp only [List.append_nil, List.nil_append, List.cons_append, List.append_assoc]); first | exact (fun p hp => hp) | (simp only [List.forall_mem_cons, List.not_mem_nil, false_implies, implies_true, and_true, true_and]; (repeat' apply And.intro) <;> first | trivial | k_mem) | (simp; done)))); (case k8 => (((try simp only [List.append_nil, List.nil_append, List.cons_append, List.append_assoc]); first   | (simp only [List.forall_mem_cons, List.not_mem_nil, false_implies, implies_true, and_true, true_and, ne_eq]; done)   | ((simp only [List.forall_mem_cons, List.not_mem_nil, false_implies, implies_true, and_true, true_and]); (repeat' apply And.intro) <;> first | trivial | assumption | exact Ne.symm (by assumption) | k_ne)))); (case k9 => first | exact room1 (by assumption) (by decide) | ktr_room); (case k10 => first | exact units1 (by assumption) (by decide) | ktr_units))))
      rintro r own' h8 tk8 ⟨rfl, sb, st, rfl, hsb⟩ F8 N8 q8
      refine hQC2 _ _ ?_
      clear hQC2
      first | refine normA s rfl ?_ | refine normR s rfl ?_ | skip
      have e1 : sb = tb := bInts_inj (hsb.trans htb.symm)
      subst e1
      clear hsb
      (repeat' ((fail_if_success (first | with_reducible show wpAny _ _ (PySem.call (Value.builtin "list.append") [_, Value.bytes _ _] _) _ _ _ | with_reducible show wpR _ _ _ _ _ _ | with_reducible show wpAny _ _ (PySem.exec (Stmt.Assign _ (Expr.ListComp _ _ _ _) _) _) _ _ _ | with_reducible show wpAny _ _ (PySem.eval (Expr.ListComp _ _ _ _) _) _ _ _ | with_reducible show wpAny _ _ (PySem.setItem _ _ _) _ _ _ | with_reducible show KswEnd _ _ _ _ _ _ _ _ _ _ _ _ | with_reducible show wpAny _ _ (PySem.call (Value.type "bytes") _ _) _ _ _ | with_reducible show wpAny _ _ (PySem.call (Value.ref _) _ _) _ _ _ | with_reducible show wpAny _ _ (exec (Stmt.While _ _ _ _) _) _ _ _ | with_reducible show wpAny _ _ (pyIter _) _ _ _)); (first | ((with_reducible show wpAny _ _ _ _ _ _); (first | ((first | with_reducible show wpAny _ _ _ _ _ (PySem.Shared.mk _ _ _ (_ + _) _) | with_reducible show wpAny _ _ _ _ _ (PySem.Shared.mk _ _ _ (PySem.Shared.toks _) _)); (try dsimp only); refine normG s rfl ?_; intro tkN8; (try clear tkN9); rename Nat => tkN9) | ((with_reducible show wpAny _ _ (PySem.execs (_ :: _) _) _ _ _); dsimp only))) | (k_unfold; (try dsimp only)) | (k_end; wrow_close) | walk1 | (dsimp only; walk1) | (leave1; walk_say "STEP leave1"; try dsimp only) | fail "no step")))
      · rename (_ != _) = true => hne
        simp at hne
      rename (_ != _) = false => hne
      clear hne
      refine Cmp1_R (call_def_R (K := hq.heap_1_39 w.params) ?_)
      (repeat' ((fail_if_success (first | with_reducible show wpAny _ _ (PySem.call (Value.builtin "list.append") [_, Value.bytes _ _] _) _ _ _ | with_reducible show wpR _ _ _ _ _ _ | with_reducible show wpAny _ _ (PySem.exec (Stmt.Assign _ (Expr.ListComp _ _ _ _) _) _) _ _ _ | with_reducible show wpAny _ _ (PySem.eval (Expr.ListComp _ _ _ _) _) _ _ _ | with_reducible show wpAny _ _ (PySem.setItem _ _ _) _ _ _ | with_reducible show KswEnd _ _ _ _ _ _ _ _ _ _ _ _ | with_reducible show wpAny _ _ (PySem.call (Value.type "bytes") _ _) _ _ _ | with_reducible show wpAny _ _ (PySem.call (Value.ref _) _ _) _ _ _ | with_reducible show wpAny _ _ (exec (Stmt.While _ _ _ _) _) _ _ _ | with_reducible show wpAny _ _ (pyIter _) _ _ _)); (first | ((with_reducible show wpAny _ _ _ _ _ _); (first | ((first | with_reducible show wpAny _ _ _ _ _ (PySem.Shared.mk _ _ _ (_ + _) _) | with_reducible show wpAny _ _ _ _ _ (PySem.Shared.mk _ _ _ (PySem.Shared.toks _) _)); (try dsimp only); refine normG s rfl ?_; intro tkN8; (try clear tkN9); rename Nat => tkN9) | ((with_reducible show wpAny _ _ (PySem.execs (_ :: _) _) _ _ _); dsimp only))) | (k_unfold; (try dsimp only)) | (k_end; wrow_close) | walk1 | (dsimp only; walk1) | (leave1; walk_say "STEP leave1"; try dsimp only) | fail "no step")))
      have htl := bySort_length (first := 0) (i := R) (W := W) (ks := ks') (by omega)
      refine hideR ?_
      intro QC3 hQC3
      k_dflt (refine' use_claimR (swap_c w mean mg mb sb _ htb R W (by omega) (by omega) (by omega) _ _ h0 h1) [(L' + 1 + 1, oW), (L' + 1, oC)] ?k1 ?k2 ?k3 ?k4 ?k5 ?k6 ?k7 ?k8 ?k9 ?k10 ?_; (((case k1 => k_asm); (case k2 => k_asm); (case k3 => k_asm); (case k4 => k_asm); (case k5 => k_asm); (case k6 => exact rfl); (case k7 => (((try simp only [List.append_nil, List.nil_append, List.cons_append, List.append_assoc]); first | exact (fun p hp => hp) | (simp only [List.forall_mem_cons, List.not_mem_nil, false_implies, implies_true, and_true, true_and]; (repeat' apply And.intro) <;> first | trivial | k_mem) | (simp; done)))); (case k8 => (((try simp only [List.append_nil, List.nil_append, List.cons_append, List.append_assoc]); first   | (simp only [List.forall_mem_cons, List.not_mem_nil, false_implies, implies_true, and_true, true_and, ne_eq]; done)   | ((simp only [List.forall_mem_cons, List.not_mem_nil, false_implies, implies_true, and_true, true_and]); (repeat' apply And.intro) <;> first | trivial | assumption | exact Ne.symm (by assumption) | k_ne)))); (case k9 => first | exact room1 (by assumption) (by decide) | ktr_room); (case k10 => first | exact units1 (by assumption) (by decide) | ktr_units))))
      rintro r own' h9 tk9 ⟨rfl, wb, ws, wt, rfl, hwb, hSw⟩ F9 N9 q9
      refine hQC3 _ _ ?_
      clear hQC3
      first | refine normA s rfl ?_ | refine normR s rfl ?_ | skip
      (repeat' ((fail_if_success (first | with_reducible show wpAny _ _ (PySem.call (Value.builtin "list.append") [_, Value.bytes _ _] _) _ _ _ | with_reducible show wpR _ _ _ _ _ _ | with_reducible show wpAny _ _ (PySem.exec (Stmt.Assign _ (Expr.ListComp _ _ _ _) _) _) _ _ _ | with_reducible show wpAny _ _ (PySem.eval (Expr.ListComp _ _ _ _) _) _ _ _ | with_reducible show wpAny _ _ (PySem.setItem _ _ _) _ _ _ | with_reducible show KswEnd _ _ _ _ _ _ _ _ _ _ _ _ | with_reducible show wpAny _ _ (PySem.call (Value.type "bytes") _ _) _ _ _ | with_reducible show wpAny _ _ (PySem.call (Value.ref _) _ _) _ _ _ | with_reducible show wpAny _ _ (exec (Stmt.While _ _ _ _) _) _ _ _ | with_reducible show wpAny _ _ (pyIter _) _ _ _)); (first | ((with_reducible show wpAny _ _ _ _ _ _); (first | ((first | with_reducible show wpAny _ _ _ _ _ (PySem.Shared.mk _ _ _ (_ + _) _) | with_reducible show wpAny _ _ _ _ _ (PySem.Shared.mk _ _ _ (PySem.Shared.toks _) _)); (try dsimp only); refine normG s rfl ?_; intro tkN8; (try clear tkN9); rename Nat => tkN9) | ((with_reducible show wpAny _ _ (PySem.execs (_ :: _) _) _ _ _); dsimp only))) | (k_unfold; (try dsimp only)) | (k_end; wrow_close) | walk1 | (dsimp only; walk1) | (leave1; walk_say "STEP leave1"; try dsimp only) | fail "no step")))
      refine hideA ?_
      intro QC4 hQC4
      k_dflt (refine' use_claim (sorting_c w mean mg mb cb ks' hb' R W 1 (by omega) (by omega) (by omega) _ _ _ h0 h1 (by omega)) [(L' + 1 + 1, oW), (L' + 1, oC)] ?k1 ?k2 ?k3 ?k4 ?k5 ?k6 ?k7 ?k8 ?k9 ?k10 ?_; (((case k1 => k_asm); (case k2 => k_asm); (case k3 => k_asm); (case k4 => k_asm); (case k5 => k_asm); (case k6 => exact rfl); (case k7 => (((try simp only [List.append_nil, List.nil_append, List.cons_append, List.append_assoc]); first | exact (fun p hp => hp) | (simp only [List.forall_mem_cons, List.not_mem_nil, false_implies, implies_true, and_true, true_and]; (repeat' apply And.intro) <;> first | trivial | k_mem) | (simp; done)))); (case k8 => (((try simp only [List.append_nil, List.nil_append, List.cons_append, List.append_assoc]); first   | (simp only [List.forall_mem_cons, List.not_mem_nil, false_implies, implies_true, and_true, true_and, ne_eq]; done)   | ((simp only [List.forall_mem_cons, List.not_mem_nil, false_implies, implies_true, and_true, true_and]); (repeat' apply And.intro) <;> first | trivial | assumption | exact Ne.symm (by assumption) | k_ne)))); (case k9 => first | exact room1 (by assumption) (by decide) | ktr_room); (case k10 => first | exact units1 (by assumption) (by decide) | ktr_units))))
      rintro r own' h10 tk10 ⟨rfl, vb, vt, rfl, hvb⟩ F10 N10 q10
      refine hQC4 _ _ ?_
      clear hQC4
      first | refine normA s rfl ?_ | refine normR s rfl ?_ | skip
      have e2 : vb = wb := bInts_inj (hvb.trans ((swap_bySort h0 (by omega) hSw).symm.trans hwb.symm))
      subst e2
      clear hvb hwb hSw
      (repeat' ((fail_if_success (first | with_reducible show wpAny _ _ (PySem.call (Value.builtin "list.append") [_, Value.bytes _ _] _) _ _ _ | with_reducible show wpR _ _ _ _ _ _ | with_reducible show wpAny _ _ (PySem.exec (Stmt.Assign _ (Expr.ListComp _ _ _ _) _) _) _ _ _ | with_reducible show wpAny _ _ (PySem.eval (Expr.ListComp _ _ _ _) _) _ _ _ | with_reducible show wpAny _ _ (PySem.setItem _ _ _) _ _ _ | with_reducible show KswEnd _ _ _ _ _ _ _ _ _ _ _ _ | with_reducible show wpAny _ _ (PySem.call (Value.type "bytes") _ _) _ _ _ | with_reducible show wpAny _ _ (PySem.call (Value.ref _) _ _) _ _ _ | with_reducible show wpAny _ _ (exec (Stmt.While _ _ _ _) _) _ _ _ | with_reducible show wpAny _ _ (pyIter _) _ _ _)); (first | ((with_reducible show wpAny _ _ _ _ _ _); (first | ((first | with_reducible show wpAny _ _ _ _ _ (PySem.Shared.mk _ _ _ (_ + _) _) | with_reducible show wpAny _ _ _ _ _ (PySem.Shared.mk _ _ _ (PySem.Shared.toks _) _)); (try dsimp only); refine normG s rfl ?_; intro tkN8; (try clear tkN9); rename Nat => tkN9) | ((with_reducible show wpAny _ _ (PySem.execs (_ :: _) _) _ _ _); dsimp only))) | (k_unfold; (try dsimp only)) | (k_end; wrow_close) | walk1 | (dsimp only; walk1) | (leave1; walk_say "STEP leave1"; try dsimp only) | fail "no step")))
      · rename (_ != _) = true => hne
        simp at hne
      rename (_ != _) = false => hne
      clear hne
      refine wpR_any ?_
      (repeat' ((fail_if_success (first | with_reducible show wpAny _ _ (PySem.call (Value.builtin "list.append") [_, Value.bytes _ _] _) _ _ _ | with_reducible show wpR _ _ _ _ _ _ | with_reducible show wpAny _ _ (PySem.exec (Stmt.Assign _ (Expr.ListComp _ _ _ _) _) _) _ _ _ | with_reducible show wpAny _ _ (PySem.eval (Expr.ListComp _ _ _ _) _) _ _ _ | with_reducible show wpAny _ _ (PySem.setItem _ _ _) _ _ _ | with_reducible show KswEnd _ _ _ _ _ _ _ _ _ _ _ _ | with_reducible show wpAny _ _ (PySem.call (Value.type "bytes") _ _) _ _ _ | with_reducible show wpAny _ _ (PySem.call (Value.ref _) _ _) _ _ _ | with_reducible show wpAny _ _ (exec (Stmt.While _ _ _ _) _) _ _ _ | with_reducible show wpAny _ _ (pyIter _) _ _ _)); (first | ((with_reducible show wpAny _ _ _ _ _ _); (first | ((first | with_reducible show wpAny _ _ _ _ _ (PySem.Shared.mk _ _ _ (_ + _) _) | with_reducible show wpAny _ _ _ _ _ (PySem.Shared.mk _ _ _ (PySem.Shared.toks _) _)); (try dsimp only); refine normG s rfl ?_; intro tkN8; (try clear tkN9); rename Nat => tkN9) | ((with_reducible show wpAny _ _ (PySem.execs (_ :: _) _) _ _ _); dsimp only))) | (k_unfold; (try dsimp only)) | (k_end; wrow_close) | walk1 | (dsimp only; walk1) | (leave1; walk_say "STEP leave1"; try dsimp only) | fail "no step")))
      refine execs_A ?_
      (repeat' ((fail_if_success (first | with_reducible show wpAny _ _ (PySem.call (Value.builtin "list.append") [_, Value.bytes _ _] _) _ _ _ | with_reducible show wpR _ _ _ _ _ _ | with_reducible show wpAny _ _ (PySem.exec (Stmt.Assign _ (Expr.ListComp _ _ _ _) _) _) _ _ _ | with_reducible show wpAny _ _ (PySem.eval (Expr.ListComp _ _ _ _) _) _ _ _ | with_reducible show wpAny _ _ (PySem.setItem _ _ _) _ _ _ | with_reducible show KswEnd _ _ _ _ _ _ _ _ _ _ _ _ | with_reducible show wpAny _ _ (PySem.call (Value.type "bytes") _ _) _ _ _ | with_reducible show wpAny _ _ (PySem.call (Value.ref _) _ _) _ _ _ | with_reducible show wpAny _ _ (exec (Stmt.While _ _ _ _) _) _ _ _ | with_reducible show wpAny _ _ (pyIter _) _ _ _)); (first | ((with_reducible show wpAny _ _ _ _ _ _); (first | ((first | with_reducible show wpAny _ _ _ _ _ (PySem.Shared.mk _ _ _ (_ + _) _) | with_reducible show wpAny _ _ _ _ _ (PySem.Shared.mk _ _ _ (PySem.Shared.toks _) _)); (try dsimp only); refine normG s rfl ?_; intro tkN8; (try clear tkN9); rename Nat => tkN9) | ((with_reducible show wpAny _ _ (PySem.execs (_ :: _) _) _ _ _); dsimp only))) | (k_unfold; (try dsimp only)) | (k_end; wrow_close) | walk1 | (dsimp only; walk1) | (leave1; walk_say "STEP leave1"; try dsimp only) | fail "no step")))
      refine hideA ?_
      intro QC5 hQC5
      k_dflt (refine' use_claim (across_c w mean mg mb sb _ htb R W (by omega) (by omega) (by omega) _ _ h0 h1) [(L' + 1 + 1, oW), (L' + 1, oC)] ?k1 ?k2 ?k3 ?k4 ?k5 ?k6 ?k7 ?k8 ?k9 ?k10 ?_; (((case k1 => k_asm); (case k2 => k_asm); (case k3 => k_asm); (case k4 => k_asm); (case k5 => k_asm); (case k6 => exact rfl); (case k7 => (((try simp only [List.append_nil, List.nil_append, List.cons_append, List.append_assoc]); first | exact (fun p hp => hp) | (simp only [List.forall_mem_cons, List.not_mem_nil, false_implies, implies_true, and_true, true_and]; (repeat' apply And.intro) <;> first | trivial | k_mem) | (simp; done)))); (case k8 => (((try simp only [List.append_nil, List.nil_append, List.cons_append, List.append_assoc]); first   | (simp only [List.forall_mem_cons, List.not_mem_nil, false_implies, implies_true, and_true, true_and, ne_eq]; done)   | ((simp only [List.forall_mem_cons, List.not_mem_nil, false_implies, implies_true, and_true, true_and]); (repeat' apply And.intro) <;> first | trivial | assumption | exact Ne.symm (by assumption) | k_ne)))); (case k9 => first | exact room1 (by assumption) (by decide) | ktr_room); (case k10 => first | exact units1 (by assumption) (by decide) | ktr_units))))
      rintro r own' h11 tk11 ⟨rfl, ab, at_, rfl, hab⟩ F11 N11 q11
      refine hQC5 _ _ ?_
      clear hQC5
      first | refine normA s rfl ?_ | refine normR s rfl ?_ | skip
      have hal := acr_length R W (bySort W ks' 0 R) W
      have hWR : W * R = R * W := Nat.mul_comm _ _
      (repeat' ((fail_if_success (first | with_reducible show wpAny _ _ (PySem.call (Value.builtin "list.append") [_, Value.bytes _ _] _) _ _ _ | with_reducible show wpR _ _ _ _ _ _ | with_reducible show wpAny _ _ (PySem.exec (Stmt.Assign _ (Expr.ListComp _ _ _ _) _) _) _ _ _ | with_reducible show wpAny _ _ (PySem.eval (Expr.ListComp _ _ _ _) _) _ _ _ | with_reducible show wpAny _ _ (PySem.setItem _ _ _) _ _ _ | with_reducible show KswEnd _ _ _ _ _ _ _ _ _ _ _ _ | with_reducible show wpAny _ _ (PySem.call (Value.type "bytes") _ _) _ _ _ | with_reducible show wpAny _ _ (PySem.call (Value.ref _) _ _) _ _ _ | with_reducible show wpAny _ _ (exec (Stmt.While _ _ _ _) _) _ _ _ | with_reducible show wpAny _ _ (pyIter _) _ _ _)); (first | ((with_reducible show wpAny _ _ _ _ _ _); (first | ((first | with_reducible show wpAny _ _ _ _ _ (PySem.Shared.mk _ _ _ (_ + _) _) | with_reducible show wpAny _ _ _ _ _ (PySem.Shared.mk _ _ _ (PySem.Shared.toks _) _)); (try dsimp only); refine normG s rfl ?_; intro tkN8; (try clear tkN9); rename Nat => tkN9) | ((with_reducible show wpAny _ _ (PySem.execs (_ :: _) _) _ _ _); dsimp only))) | (k_unfold; (try dsimp only)) | (k_end; wrow_close) | walk1 | (dsimp only; walk1) | (leave1; walk_say "STEP leave1"; try dsimp only) | fail "no step")))
      refine hideA ?_
      intro QC6 hQC6
      k_dflt (refine' use_claim (laid_c w mean mg mb ab _ hab (by omega) R _ _ (by omega) (by omega)) [(L' + 1 + 1, oW), (L' + 1, oC)] ?k1 ?k2 ?k3 ?k4 ?k5 ?k6 ?k7 ?k8 ?k9 ?k10 ?_; (((case k1 => k_asm); (case k2 => k_asm); (case k3 => k_asm); (case k4 => k_asm); (case k5 => k_asm); (case k6 => exact rfl); (case k7 => (((try simp only [List.append_nil, List.nil_append, List.cons_append, List.append_assoc]); first | exact (fun p hp => hp) | (simp only [List.forall_mem_cons, List.not_mem_nil, false_implies, implies_true, and_true, true_and]; (repeat' apply And.intro) <;> first | trivial | k_mem) | (simp; done)))); (case k8 => (((try simp only [List.append_nil, List.nil_append, List.cons_append, List.append_assoc]); first   | (simp only [List.forall_mem_cons, List.not_mem_nil, false_implies, implies_true, and_true, true_and, ne_eq]; done)   | ((simp only [List.forall_mem_cons, List.not_mem_nil, false_implies, implies_true, and_true, true_and]); (repeat' apply And.intro) <;> first | trivial | assumption | exact Ne.symm (by assumption) | k_ne)))); (case k9 => first | exact room1 (by assumption) (by decide) | ktr_room); (case k10 => first | exact units1 (by assumption) (by decide) | ktr_units))))
      rintro r own' h12 tk12 ⟨rfl, lb, ls, lt, rfl, hlb, hLay⟩ F12 N12 q12
      refine hQC6 _ _ ?_
      clear hQC6
      first | refine normA s rfl ?_ | refine normR s rfl ?_ | skip
      have hll := hLay.1
      (repeat' ((fail_if_success (first | with_reducible show wpAny _ _ (PySem.call (Value.builtin "list.append") [_, Value.bytes _ _] _) _ _ _ | with_reducible show wpR _ _ _ _ _ _ | with_reducible show wpAny _ _ (PySem.exec (Stmt.Assign _ (Expr.ListComp _ _ _ _) _) _) _ _ _ | with_reducible show wpAny _ _ (PySem.eval (Expr.ListComp _ _ _ _) _) _ _ _ | with_reducible show wpAny _ _ (PySem.setItem _ _ _) _ _ _ | with_reducible show KswEnd _ _ _ _ _ _ _ _ _ _ _ _ | with_reducible show wpAny _ _ (PySem.call (Value.type "bytes") _ _) _ _ _ | with_reducible show wpAny _ _ (PySem.call (Value.ref _) _ _) _ _ _ | with_reducible show wpAny _ _ (exec (Stmt.While _ _ _ _) _) _ _ _ | with_reducible show wpAny _ _ (pyIter _) _ _ _)); (first | ((with_reducible show wpAny _ _ _ _ _ _); (first | ((first | with_reducible show wpAny _ _ _ _ _ (PySem.Shared.mk _ _ _ (_ + _) _) | with_reducible show wpAny _ _ _ _ _ (PySem.Shared.mk _ _ _ (PySem.Shared.toks _) _)); (try dsimp only); refine normG s rfl ?_; intro tkN8; (try clear tkN9); rename Nat => tkN9) | ((with_reducible show wpAny _ _ (PySem.execs (_ :: _) _) _ _ _); dsimp only))) | (k_unfold; (try dsimp only)) | (k_end; wrow_close) | walk1 | (dsimp only; walk1) | (leave1; walk_say "STEP leave1"; try dsimp only) | fail "no step")))
      refine hideA ?_
      intro QC7 hQC7
      k_dflt (refine' use_claim (across_c w mean mg mb lb _ hlb W R (by omega) (by omega) (by omega) _ _ (by omega) (by omega)) [(L' + 1 + 1, oW), (L' + 1, oC)] ?k1 ?k2 ?k3 ?k4 ?k5 ?k6 ?k7 ?k8 ?k9 ?k10 ?_; (((case k1 => k_asm); (case k2 => k_asm); (case k3 => k_asm); (case k4 => k_asm); (case k5 => k_asm); (case k6 => exact rfl); (case k7 => (((try simp only [List.append_nil, List.nil_append, List.cons_append, List.append_assoc]); first | exact (fun p hp => hp) | (simp only [List.forall_mem_cons, List.not_mem_nil, false_implies, implies_true, and_true, true_and]; (repeat' apply And.intro) <;> first | trivial | k_mem) | (simp; done)))); (case k8 => (((try simp only [List.append_nil, List.nil_append, List.cons_append, List.append_assoc]); first   | (simp only [List.forall_mem_cons, List.not_mem_nil, false_implies, implies_true, and_true, true_and, ne_eq]; done)   | ((simp only [List.forall_mem_cons, List.not_mem_nil, false_implies, implies_true, and_true, true_and]); (repeat' apply And.intro) <;> first | trivial | assumption | exact Ne.symm (by assumption) | k_ne)))); (case k9 => first | exact room1 (by assumption) (by decide) | ktr_room); (case k10 => first | exact units1 (by assumption) (by decide) | ktr_units))))
      rintro r own' h13 tk13 ⟨rfl, nb, nt, rfl, hnb⟩ F13 N13 q13
      refine hQC7 _ _ ?_
      clear hQC7
      first | refine normA s rfl ?_ | refine normR s rfl ?_ | skip
      have hnl := acr_length W R ls R
      (repeat' ((fail_if_success (first | with_reducible show wpAny _ _ (PySem.call (Value.builtin "list.append") [_, Value.bytes _ _] _) _ _ _ | with_reducible show wpR _ _ _ _ _ _ | with_reducible show wpAny _ _ (PySem.exec (Stmt.Assign _ (Expr.ListComp _ _ _ _) _) _) _ _ _ | with_reducible show wpAny _ _ (PySem.eval (Expr.ListComp _ _ _ _) _) _ _ _ | with_reducible show wpAny _ _ (PySem.setItem _ _ _) _ _ _ | with_reducible show KswEnd _ _ _ _ _ _ _ _ _ _ _ _ | with_reducible show wpAny _ _ (PySem.call (Value.type "bytes") _ _) _ _ _ | with_reducible show wpAny _ _ (PySem.call (Value.ref _) _ _) _ _ _ | with_reducible show wpAny _ _ (exec (Stmt.While _ _ _ _) _) _ _ _ | with_reducible show wpAny _ _ (pyIter _) _ _ _)); (first | ((with_reducible show wpAny _ _ _ _ _ _); (first | ((first | with_reducible show wpAny _ _ _ _ _ (PySem.Shared.mk _ _ _ (_ + _) _) | with_reducible show wpAny _ _ _ _ _ (PySem.Shared.mk _ _ _ (PySem.Shared.toks _) _)); (try dsimp only); refine normG s rfl ?_; intro tkN8; (try clear tkN9); rename Nat => tkN9) | ((with_reducible show wpAny _ _ (PySem.execs (_ :: _) _) _ _ _); dsimp only))) | (k_unfold; (try dsimp only)) | (k_end; wrow_close) | walk1 | (dsimp only; walk1) | (leave1; walk_say "STEP leave1"; try dsimp only) | fail "no step")))
      refine execs_A ?_
      (repeat' ((fail_if_success (first | with_reducible show wpAny _ _ (PySem.call (Value.builtin "list.append") [_, Value.bytes _ _] _) _ _ _ | with_reducible show wpR _ _ _ _ _ _ | with_reducible show wpAny _ _ (PySem.exec (Stmt.Assign _ (Expr.ListComp _ _ _ _) _) _) _ _ _ | with_reducible show wpAny _ _ (PySem.eval (Expr.ListComp _ _ _ _) _) _ _ _ | with_reducible show wpAny _ _ (PySem.setItem _ _ _) _ _ _ | with_reducible show KswEnd _ _ _ _ _ _ _ _ _ _ _ _ | with_reducible show wpAny _ _ (PySem.call (Value.type "bytes") _ _) _ _ _ | with_reducible show wpAny _ _ (PySem.call (Value.ref _) _ _) _ _ _ | with_reducible show wpAny _ _ (exec (Stmt.While _ _ _ _) _) _ _ _ | with_reducible show wpAny _ _ (pyIter _) _ _ _)); (first | ((with_reducible show wpAny _ _ _ _ _ _); (first | ((first | with_reducible show wpAny _ _ _ _ _ (PySem.Shared.mk _ _ _ (_ + _) _) | with_reducible show wpAny _ _ _ _ _ (PySem.Shared.mk _ _ _ (PySem.Shared.toks _) _)); (try dsimp only); refine normG s rfl ?_; intro tkN8; (try clear tkN9); rename Nat => tkN9) | ((with_reducible show wpAny _ _ (PySem.execs (_ :: _) _) _ _ _); dsimp only))) | (k_unfold; (try dsimp only)) | (k_end; wrow_close) | walk1 | (dsimp only; walk1) | (leave1; walk_say "STEP leave1"; try dsimp only) | fail "no step")))
      rename _ = Data.cell (some (Value.bytes nb nt)) => dN
      k_dflt (refine ListComp_W (F₀ := by k_asm) (by with_unfolding_all rfl) (by decide) (by rfl) (by decide) (by rfl) ?_)
      (repeat' ((fail_if_success (first | with_reducible show wpAny _ _ (PySem.call (Value.builtin "list.append") [_, Value.bytes _ _] _) _ _ _ | with_reducible show wpR _ _ _ _ _ _ | with_reducible show wpAny _ _ (PySem.exec (Stmt.Assign _ (Expr.ListComp _ _ _ _) _) _) _ _ _ | with_reducible show wpAny _ _ (PySem.eval (Expr.ListComp _ _ _ _) _) _ _ _ | with_reducible show wpAny _ _ (PySem.setItem _ _ _) _ _ _ | with_reducible show KswEnd _ _ _ _ _ _ _ _ _ _ _ _ | with_reducible show wpAny _ _ (PySem.call (Value.type "bytes") _ _) _ _ _ | with_reducible show wpAny _ _ (PySem.call (Value.ref _) _ _) _ _ _ | with_reducible show wpAny _ _ (exec (Stmt.While _ _ _ _) _) _ _ _ | with_reducible show wpAny _ _ (pyIter _) _ _ _)); (first | ((with_reducible show wpAny _ _ _ _ _ _); (first | ((first | with_reducible show wpAny _ _ _ _ _ (PySem.Shared.mk _ _ _ (_ + _) _) | with_reducible show wpAny _ _ _ _ _ (PySem.Shared.mk _ _ _ (PySem.Shared.toks _) _)); (try dsimp only); refine normG s rfl ?_; intro tkN8; (try clear tkN9); rename Nat => tkN9) | ((with_reducible show wpAny _ _ (PySem.execs (_ :: _) _) _ _ _); dsimp only))) | (k_unfold; (try dsimp only)) | (k_end; wrow_close) | walk1 | (dsimp only; walk1) | (leave1; walk_say "STEP leave1"; try dsimp only) | fail "no step")))
      have hnbs : nb.size = (acr W R ls R).length := by rw [← hnb, KBw.ints_length]
      refine Or.inl ⟨nb, nt, _, rfl, rfl, by k_asm, by k_asm, by rw [sizeLine_eq]; omega, ?_⟩
      rintro s₂ ⟨hh2, rfl⟩
      refine comp_all (fun i ys => IntsAre ys ((List.range i).map fun j => (cntMix W (acr W R ls R) ((acr W R ls R).getD j 0) R : Int))) .nil trivial ?_ ?_
      · rintro i ys hi hT v I oI C oC D m₂ h20 tk20 E' ⟨c, u20, hc, rfl⟩ hC hx F20 N20 off ⟨ne1, ne2, ne3⟩
        have hcv : (c.toNat : Int) = (acr W R ls R).getD i 0 := by
          have := KBw.ints_get hc
          rw [hnb] at this
          rw [List.getD_eq_getElem?_getD, this]; rfl
        rw [hcv] at hx
        simp only [LCg.Off3, and_true] at off
        obtain ⟨⟨p1, p2, p3⟩, p4, p5, p6⟩ := off
        (repeat' ((fail_if_success (first | with_reducible show wpAny _ _ (PySem.call (Value.builtin "list.append") [_, Value.bytes _ _] _) _ _ _ | with_reducible show wpR _ _ _ _ _ _ | with_reducible show wpAny _ _ (PySem.exec (Stmt.Assign _ (Expr.ListComp _ _ _ _) _) _) _ _ _ | with_reducible show wpAny _ _ (PySem.eval (Expr.ListComp _ _ _ _) _) _ _ _ | with_reducible show wpAny _ _ (PySem.setItem _ _ _) _ _ _ | with_reducible show KswEnd _ _ _ _ _ _ _ _ _ _ _ _ | with_reducible show wpAny _ _ (PySem.call (Value.type "bytes") _ _) _ _ _ | with_reducible show wpAny _ _ (PySem.call (Value.ref _) _ _) _ _ _ | with_reducible show wpAny _ _ (exec (Stmt.While _ _ _ _) _) _ _ _ | with_reducible show wpAny _ _ (pyIter _) _ _ _)); (first | ((with_reducible show wpAny _ _ _ _ _ _); (first | ((first | with_reducible show wpAny _ _ _ _ _ (PySem.Shared.mk _ _ _ (_ + _) _) | with_reducible show wpAny _ _ _ _ _ (PySem.Shared.mk _ _ _ (PySem.Shared.toks _) _)); (try dsimp only); refine normG s rfl ?_; intro tkN8; (try clear tkN9); rename Nat => tkN9) | ((with_reducible show wpAny _ _ (PySem.execs (_ :: _) _) _ _ _); dsimp only))) | (k_unfold; (try dsimp only)) | (k_end; wrow_close) | walk1 | (dsimp only; walk1) | (leave1; walk_say "STEP leave1"; try dsimp only) | fail "no step")))
        refine hideA ?_
        intro QC8 hQC8
        k_dflt (refine' use_claim (mixed_c w mean mg mb nb _ hnb R W _ (by omega) (by omega) (by omega) _ _ _ h0 h1) [(I, oI), (C, oC), (D, LCg.lst ys), (L' + 1 + 1, oW), (L' + 1, _)] ?k1 ?k2 ?k3 ?k4 ?k5 ?k6 ?k7 ?k8 ?k9 ?k10 ?_; (((case k1 => k_asm); (case k2 => k_asm); (case k3 => k_asm); (case k4 => k_asm); (case k5 => k_asm); (case k6 => exact rfl); (case k7 => (((try simp only [List.append_nil, List.nil_append, List.cons_append, List.append_assoc]); first | exact (fun p hp => hp) | (simp only [List.forall_mem_cons, List.not_mem_nil, false_implies, implies_true, and_true, true_and]; (repeat' apply And.intro) <;> first | trivial | k_mem) | (simp; done)))); (case k8 => (((try simp only [List.append_nil, List.nil_append, List.cons_append, List.append_assoc]); first   | (simp only [List.forall_mem_cons, List.not_mem_nil, false_implies, implies_true, and_true, true_and, ne_eq]; done)   | ((simp only [List.forall_mem_cons, List.not_mem_nil, false_implies, implies_true, and_true, true_and]); (repeat' apply And.intro) <;> first | trivial | assumption | exact Ne.symm (by assumption) | k_ne)))); (case k9 => first | exact room1 (by assumption) (by decide) | ktr_room); (case k10 => first | exact units1 (by assumption) (by decide) | ktr_units))))
        rintro r own' h21 tk21 ⟨rfl, t21, rfl⟩ F21 N21 q21
        refine hQC8 _ _ ?_
        clear hQC8
        first | refine normA s rfl ?_ | refine normR s rfl ?_ | skip
        k_unfold
        refine ⟨_, _, rfl, by k_asm, by k_asm, ?_⟩
        rw [List.range_succ, List.map_append]
        exact hT.append (.cons _ _ .nil)
      · intro ys hT
        have hyl := IntsAre.length hT
        rw [List.length_map, List.length_range] at hyl
        have hstep := round_step (by omega) hR h0 hInv hLay
        have hq : ((M : Int) + 1).fdiv 2 = (((M + 1) / 2 : Nat) : Int) := by have := fdiv2 ((M : Int) + 1); omega
        (repeat' ((fail_if_success (first | with_reducible show wpAny _ _ (PySem.call (Value.builtin "list.append") [_, Value.bytes _ _] _) _ _ _ | with_reducible show wpR _ _ _ _ _ _ | with_reducible show wpAny _ _ (PySem.exec (Stmt.Assign _ (Expr.ListComp _ _ _ _) _) _) _ _ _ | with_reducible show wpAny _ _ (PySem.eval (Expr.ListComp _ _ _ _) _) _ _ _ | with_reducible show wpAny _ _ (PySem.setItem _ _ _) _ _ _ | with_reducible show KswEnd _ _ _ _ _ _ _ _ _ _ _ _ | with_reducible show wpAny _ _ (PySem.call (Value.type "bytes") _ _) _ _ _ | with_reducible show wpAny _ _ (PySem.call (Value.ref _) _ _) _ _ _ | with_reducible show wpAny _ _ (exec (Stmt.While _ _ _ _) _) _ _ _ | with_reducible show wpAny _ _ (pyIter _) _ _ _)); (first | ((with_reducible show wpAny _ _ _ _ _ _); (first | ((first | with_reducible show wpAny _ _ _ _ _ (PySem.Shared.mk _ _ _ (_ + _) _) | with_reducible show wpAny _ _ _ _ _ (PySem.Shared.mk _ _ _ (PySem.Shared.toks _) _)); (try dsimp only); refine normG s rfl ?_; intro tkN8; (try clear tkN9); rename Nat => tkN9) | ((with_reducible show wpAny _ _ (PySem.execs (_ :: _) _) _ _ _); dsimp only))) | (k_unfold; (try dsimp only)) | (k_end; wrow_close) | walk1 | (dsimp only; walk1) | (leave1; walk_say "STEP leave1"; try dsimp only) | fail "no step")))
        · rename _ ∈ List.map _ (List.range nb.size) => hmem
          rename ((M : Int) + 1).fdiv 2 < _ => hbig
          rw [List.mem_map] at hmem
          obtain ⟨j, _, rfl⟩ := hmem
          have := hstep.2.2 ((acr W R ls R).getD j 0)
          omega
        · dsimp only
          refine wpR_any ?_
          (repeat' ((fail_if_success (first | with_reducible show wpAny _ _ (PySem.call (Value.builtin "list.append") [_, Value.bytes _ _] _) _ _ _ | with_reducible show wpR _ _ _ _ _ _ | with_reducible show wpAny _ _ (PySem.exec (Stmt.Assign _ (Expr.ListComp _ _ _ _) _) _) _ _ _ | with_reducible show wpAny _ _ (PySem.eval (Expr.ListComp _ _ _ _) _) _ _ _ | with_reducible show wpAny _ _ (PySem.setItem _ _ _) _ _ _ | with_reducible show KswEnd _ _ _ _ _ _ _ _ _ _ _ _ | with_reducible show wpAny _ _ (PySem.call (Value.type "bytes") _ _) _ _ _ | with_reducible show wpAny _ _ (PySem.call (Value.ref _) _ _) _ _ _ | with_reducible show wpAny _ _ (exec (Stmt.While _ _ _ _) _) _ _ _ | with_reducible show wpAny _ _ (pyIter _) _ _ _)); (first | ((with_reducible show wpAny _ _ _ _ _ _); (first | ((first | with_reducible show wpAny _ _ _ _ _ (PySem.Shared.mk _ _ _ (_ + _) _) | with_reducible show wpAny _ _ _ _ _ (PySem.Shared.mk _ _ _ (PySem.Shared.toks _) _)); (try dsimp only); refine normG s rfl ?_; intro tkN8; (try clear tkN9); rename Nat => tkN9) | ((with_reducible show wpAny _ _ (PySem.execs (_ :: _) _) _ _ _); dsimp only))) | (k_unfold; (try dsimp only)) | (k_end; wrow_close) | walk1 | (dsimp only; walk1) | (leave1; walk_say "STEP leave1"; try dsimp only) | fail "no step")))
          refine ksw_end (oW, _, (nb, nt), ((M + 1) / 2, _)) (by assumption) (by assumption) (by (((try simp only [List.append_nil, List.nil_append, List.cons_append, List.append_assoc]); first | exact (fun p hp => hp) | (simp only [List.forall_mem_cons, List.not_mem_nil, false_implies, implies_true, and_true, true_and]; (repeat' apply And.intro) <;> first | trivial | k_mem) | (simp; done)))) ⟨⟨tw, dW⟩, dN⟩ (by rw [← hq]; kst_all) (by ((intro z h2 h3; (simp only [List.forall_mem_cons, List.not_mem_nil, false_implies, implies_true, and_true, ne_eq] at h2); (simp only [List.contains_cons, List.contains_nil, Bool.or_false, Bool.or_eq_false_iff, beq_eq_false_iff_ne, ne_eq] at h3); (simp [kstB, h2, h3]; done)))) ?_ ?_
          · exact ⟨by dsimp only; omega, by dsimp only; omega, _, hnb, hstep.1.trans hperm, hstep.2.1⟩
          · dsimp only; omega
    · rename ¬ (1 < (M : Int)) => hM
      have hM1 : M = 1 := by omega
      subst hM1
      refine execs_A ?_
      (repeat' ((fail_if_success (first | with_reducible show wpAny _ _ (PySem.call (Value.builtin "list.append") [_, Value.bytes _ _] _) _ _ _ | with_reducible show wpR _ _ _ _ _ _ | with_reducible show wpAny _ _ (PySem.exec (Stmt.Assign _ (Expr.ListComp _ _ _ _) _) _) _ _ _ | with_reducible show wpAny _ _ (PySem.eval (Expr.ListComp _ _ _ _) _) _ _ _ | with_reducible show wpAny _ _ (PySem.setItem _ _ _) _ _ _ | with_reducible show KswEnd _ _ _ _ _ _ _ _ _ _ _ _ | with_reducible show wpAny _ _ (PySem.call (Value.type "bytes") _ _) _ _ _ | with_reducible show wpAny _ _ (PySem.call (Value.ref _) _ _) _ _ _ | with_reducible show wpAny _ _ (exec (Stmt.While _ _ _ _) _) _ _ _ | with_reducible show wpAny _ _ (pyIter _) _ _ _)); (first | ((with_reducible show wpAny _ _ _ _ _ _); (first | ((first | with_reducible show wpAny _ _ _ _ _ (PySem.Shared.mk _ _ _ (_ + _) _) | with_reducible show wpAny _ _ _ _ _ (PySem.Shared.mk _ _ _ (PySem.Shared.toks _) _)); (try dsimp only); refine normG s rfl ?_; intro tkN8; (try clear tkN9); rename Nat => tkN9) | ((with_reducible show wpAny _ _ (PySem.execs (_ :: _) _) _ _ _); dsimp only))) | (k_unfold; (try dsimp only)) | (k_end; wrow_close) | walk1 | (dsimp only; walk1) | (leave1; walk_say "STEP leave1"; try dsimp only) | fail "no step")))
      refine hideA ?_
      intro QC9 hQC9
      k_dflt (refine' use_claim (laid_c w mean mg mb cb ks' hb' (by omega) W _ _ h0 h1) [(L' + 1 + 1, oW), (L' + 1, oC)] ?k1 ?k2 ?k3 ?k4 ?k5 ?k6 ?k7 ?k8 ?k9 ?k10 ?_; (((case k1 => k_asm); (case k2 => k_asm); (case k3 => k_asm); (case k4 => k_asm); (case k5 => k_asm); (case k6 => exact rfl); (case k7 => (((try simp only [List.append_nil, List.nil_append, List.cons_append, List.append_assoc]); first | exact (fun p hp => hp) | (simp only [List.forall_mem_cons, List.not_mem_nil, false_implies, implies_true, and_true, true_and]; (repeat' apply And.intro) <;> first | trivial | k_mem) | (simp; done)))); (case k8 => (((try simp only [List.append_nil, List.nil_append, List.cons_append, List.append_assoc]); first   | (simp only [List.forall_mem_cons, List.not_mem_nil, false_implies, implies_true, and_true, true_and, ne_eq]; done)   | ((simp only [List.forall_mem_cons, List.not_mem_nil, false_implies, implies_true, and_true, true_and]); (repeat' apply And.intro) <;> first | trivial | assumption | exact Ne.symm (by assumption) | k_ne)))); (case k9 => first | exact room1 (by assumption) (by decide) | ktr_room); (case k10 => first | exact units1 (by assumption) (by decide) | ktr_units))))
      rintro r own' h6 tk6 ⟨rfl, rb, rs, t, rfl, hrb, hLay⟩ F6 N6 q6
      refine hQC9 _ _ ?_
      clear hQC9
      first | refine normA s rfl ?_ | refine normR s rfl ?_ | skip
      have hll := hLay.1
      (repeat' ((fail_if_success (first | with_reducible show wpAny _ _ (PySem.call (Value.builtin "list.append") [_, Value.bytes _ _] _) _ _ _ | with_reducible show wpR _ _ _ _ _ _ | with_reducible show wpAny _ _ (PySem.exec (Stmt.Assign _ (Expr.ListComp _ _ _ _) _) _) _ _ _ | with_reducible show wpAny _ _ (PySem.eval (Expr.ListComp _ _ _ _) _) _ _ _ | with_reducible show wpAny _ _ (PySem.setItem _ _ _) _ _ _ | with_reducible show KswEnd _ _ _ _ _ _ _ _ _ _ _ _ | with_reducible show wpAny _ _ (PySem.call (Value.type "bytes") _ _) _ _ _ | with_reducible show wpAny _ _ (PySem.call (Value.ref _) _ _) _ _ _ | with_reducible show wpAny _ _ (exec (Stmt.While _ _ _ _) _) _ _ _ | with_reducible show wpAny _ _ (pyIter _) _ _ _)); (first | ((with_reducible show wpAny _ _ _ _ _ _); (first | ((first | with_reducible show wpAny _ _ _ _ _ (PySem.Shared.mk _ _ _ (_ + _) _) | with_reducible show wpAny _ _ _ _ _ (PySem.Shared.mk _ _ _ (PySem.Shared.toks _) _)); (try dsimp only); refine normG s rfl ?_; intro tkN8; (try clear tkN9); rename Nat => tkN9) | ((with_reducible show wpAny _ _ (PySem.execs (_ :: _) _) _ _ _); dsimp only))) | (k_unfold; (try dsimp only)) | (k_end; wrow_close) | walk1 | (dsimp only; walk1) | (leave1; walk_say "STEP leave1"; try dsimp only) | fail "no step")))
      refine list_bytes (by k_asm) (by k_asm) rfl hrb (by omega) ?_
      intro D8 h8 tk8 vs8 e8 F8 N8 q8 hI8
      rw [inv_one (by omega) h0 hInv hLay, srt_of_perm hperm] at hI8
      refine hQ0 _ _ (Left.intro (own' := [(D8, listOf vs8.toArray e8)]) F8 N8 (by (((try simp only [List.append_nil, List.nil_append, List.cons_append, List.append_assoc]); first | exact (fun p hp => hp) | (simp only [List.forall_mem_cons, List.not_mem_nil, false_implies, implies_true, and_true, true_and]; (repeat' apply And.intro) <;> first | trivial | k_mem) | (simp; done)))) ⟨D8, vs8, e8, rfl, rfl, hI8⟩)
end Mine
end
section -- BK
open PySem PySem.W PySem.Calls PyProof.Rows
set_option linter.unusedVariables false
set_option maxRecDepth 100000
set_option maxHeartbeats 8000000
namespace Mine
/-! where a falling property of the places ends -/
def BisInv (p : Nat → Prop) (lo hi lo' hi' : Int) : Prop := lo ≤ lo' ∧ lo' ≤ hi' ∧ hi' ≤ hi ∧ (∀ i : Nat, lo ≤ i → i < lo' → p i) ∧ (∀ i : Nat, hi' ≤ i → i < hi → ¬ p i)
theorem bis_start {p : Nat → Prop} {lo hi : Int} (h : lo ≤ hi) : BisInv p lo hi lo hi := ⟨Int.le_refl _, h, Int.le_refl _, fun i h1 h2 => absurd h1 (Int.not_le.mpr h2), fun i h1 h2 => absurd h1 (Int.not_le.mpr h2)⟩
theorem bis_hi {p : Nat → Prop} {lo hi lo' hi' : Int} (h0 : 0 ≤ lo) (hs : ∀ i j : Nat, lo ≤ i → i < j → (j : Int) < hi → p j → p i) (h : BisInv p lo hi lo' hi') (hlt : lo' < hi') (hx : ¬ p ((lo' + hi').fdiv 2).toNat) : BisInv p lo hi lo' ((lo' + hi').fdiv 2) := by
  obtain ⟨p1, p2, p3, p4, p5⟩ := h
  have m1 := mid_lo hlt
  have m2 := mid_hi hlt
  generalize (lo' + hi').fdiv 2 = c at *
  obtain ⟨n, rfl⟩ := Int.eq_ofNat_of_zero_le (Int.le_trans h0 (Int.le_trans p1 m1))
  refine ⟨p1, m1, Int.le_trans (Int.le_of_lt m2) p3, p4, fun i h1 h2 => ?_⟩
  rcases Nat.lt_or_eq_of_le (Int.ofNat_le.mp h1) with h3 | h3
  · exact fun q => hx (hs n i (Int.le_trans p1 m1) h3 h2 q)
  · exact h3 ▸ hx
theorem bis_lo {p : Nat → Prop} {lo hi lo' hi' : Int} (h0 : 0 ≤ lo) (hs : ∀ i j : Nat, lo ≤ i → i < j → (j : Int) < hi → p j → p i) (h : BisInv p lo hi lo' hi') (hlt : lo' < hi') (hx : p ((lo' + hi').fdiv 2).toNat) : BisInv p lo hi ((lo' + hi').fdiv 2 + 1) hi' := by
  obtain ⟨p1, p2, p3, p4, p5⟩ := h
  have m1 := mid_lo hlt
  have m2 := mid_hi hlt
  generalize (lo' + hi').fdiv 2 = c at *
  obtain ⟨n, rfl⟩ := Int.eq_ofNat_of_zero_le (Int.le_trans h0 (Int.le_trans p1 m1))
  refine ⟨Int.le_of_lt (Int.lt_add_one_of_le (Int.le_trans p1 m1)), m2, p3, fun i h1 h2 => ?_, p5⟩
  rcases Nat.lt_or_eq_of_le (Int.ofNat_le.mp (Int.le_of_lt_add_one h2)) with h3 | h3
  · exact hs i n h1 h3 (Int.lt_of_lt_of_le m2 p3) hx
  · exact h3 ▸ hx
def BisAt (p : Nat → Prop) (lo hi k : Int) : Prop := lo ≤ k ∧ k ≤ hi ∧ (∀ i : Nat, lo ≤ i → i < k → p i) ∧ (∀ i : Nat, k ≤ i → i < hi → ¬ p i)
theorem bis_end {p : Nat → Prop} {lo hi lo' hi' : Int} (h : BisInv p lo hi lo' hi') (hge : ¬ lo' < hi') : BisAt p lo hi lo' :=
  ⟨h.1, Int.le_trans h.2.1 h.2.2.1, h.2.2.2.1, fun i h1 h2 => h.2.2.2.2 i (Int.le_trans (Int.not_lt.mp hge) h1) h2⟩
theorem bis_bounds {p : Nat → Prop} {lo hi lo' hi' : Int} (h0 : 0 ≤ lo) (h : BisInv p lo hi lo' hi') (hlt : lo' < hi') : 0 ≤ (lo' + hi').fdiv 2 ∧ (lo' + hi').fdiv 2 < hi ∧ 0 ≤ lo' ∧ hi' ≤ hi :=
  ⟨Int.le_trans h0 (Int.le_trans h.1 (mid_lo hlt)), Int.lt_of_lt_of_le (mid_hi hlt) h.2.2.1, Int.le_trans h0 h.1, h.2.2.1⟩
/-! a lambda, entered under its own part of the ledger -/
section
variable {prog : Program} {w : World} {A A₀ : Around} {E Q : Value → Shared → Prop} {s : Shared} {K : Frag} {L : Addr} {h₀ base : Heap} {m mg mb : Str → Option Value} {own rest : List (Addr × Obj)} {p : Program} {loose : List Str} {mean : ExcName → Option Value}
theorem enter_lam {env : Env} {outer : List Env} {name qual : Str} {params : Arguments} {body : Expr} {scope : Scope} {pm ctv : Value} {f c' : Addr} {vs : List Value} {kw : List (Str × Value)} {binds : List (Str × Value)} {Post : Value → List (Addr × Obj) → Prop}
    (B : Below A₀ base outer h₀) (F : Fr h₀ L s.heap m) (X₀ : K.In h₀) (N : News h₀ L s.heap (own ++ rest)) (T : Top p loose mean mg mb h₀) (hdis : ∀ p ∈ rest, ∀ q ∈ own, p.1 ≠ q.1) (hA : A.frames = some (env :: outer)) (hf : env.frame = some L) (hke : env.scope.kind = .function)
    (ho : (f, kla_obj name qual params body scope [] pm c' ctv) ∈ own) (hcd : s.heap.CodeRec (.ref c') qual) (hroom : A.depth < recursionLimit)
    (hbind : bindArgs (kla_fn name qual params body scope [] pm (.ref c') ctv) ⟨vs, kw⟩ = pure binds) (hloc : ∀ y ∈ binds, scope.names.lookup y.1 = some .local)
    (ret : ∀ r own' h' tk', Post r own' → Fr h₀ L h' m → News h₀ L h' (own' ++ rest) → (∀ p ∈ rest, ∀ q ∈ own', p.1 ≠ q.1) → Q r { s with heap := h', toks := tk' })
    (h : ∀ g L' h₁, Fr g L' h₁ (fun y => binds.reverse.lookup y) → News g L' h₁ own → Below A base (env :: outer) g → K.In g → Top p loose mean mg mb g → (∀ p ∈ own, p.1 < L') →
      wpAny (model prog w) (A.deeper (envX qual scope L' f (.ref c') [])) (eval body (envX qual scope L' f (.ref c') []))
        (fun v s' => Left g L' Post s v s')
        (fun e s' => wpAny (model prog w) (A.deeper (envX qual scope L' f (.ref c') [])) (leaving (envX qual scope L' f (.ref c') []) e) (fun _ s'' => E e s'') (fun e' s'' => E e' s'') s')
        { s with heap := h₁, toks := s.toks + binds.length })
    (hco : scope.isCoroutine = false) (hgen : scope.isGenerator = false) (hk : scope.kind = .function)
    (hcell : ∀ x ∈ scope.names, x.2 ≠ .cell) : wpAny (model prog w) A (call (.ref f) vs kw) Q E s := by
  refine wpAny_call ?_
  have N1 : News h₀ L s.heap own := fun p hp => N p (List.mem_append_left _ hp)
  obtain ⟨FG, BG, st, lv⟩ := groundX (R := fun r s' => match r with | .ok (.ret v) => Q v s' | .ok _ => False | .error e => E e s') B F N1 hA hf hke
  refine kla_callFunE hroom (N1 _ ho).1 rfl hco hgen rfl hcd ?_
  rw [hbind]
  refine wpAny_pure (wpAny_newFunctionEnv hcell hloc (fun h₁ hns hsb => ⟨((T.nolimit).keeps F.keep).fresh _ hsb, ?_⟩) hk)
  show codeAny _ _ (.expr body (envX qual scope s.heap.objs.size f (.ref c') [])) _ _
  have hk₁ : ∀ b o, s.heap.get? b = some o → h₁.get? b = some o := fun b o e => hsb.extBut b o (Nat.ne_of_lt (Heap.lt_size e)) (Heap.get?_push_of_some _ e)
  refine kla_codeExpr (wpAny_mono (h _ s.heap.objs.size h₁ ⟨hns, fun b o e => hk₁ b o (of_hideAll _ e), Nat.le_of_eq (hideAll_size _ _)⟩
    (fun p hp => ⟨hk₁ _ _ (N1 p hp).1, Nat.ne_of_lt (Heap.lt_size (N1 p hp).1), hideAll_none _ (List.mem_map_of_mem hp)⟩) BG (X₀.keeps st) (T.keeps st) (fun p hp => Heap.lt_size (N1 p hp).1)) (fun fl s' hl => lv _ _ ?_) fun _ _ y => y)
  obtain ⟨m', own', h', tk', rfl, F', N', hp⟩ := hl
  refine ⟨_, m', own', F', N', fun F2 N2 => ?_⟩
  have hr : ∀ p ∈ rest, (hideAll s.heap (own.map (·.1))).get? p.1 = some p.2 := fun p hp => hideAll_get _ (N p (List.mem_append_right _ hp)).1 (fun q => by
    obtain ⟨q, hq, e⟩ := List.mem_map.mp q
    exact hdis p hp q hq e.symm)
  refine ret _ own' h' tk' hp F2 (fun p hp => ?_) (fun p hp q hq e => ?_)
  · rcases List.mem_append.mp hp with hp | hp
    · exact N2 p hp
    · exact ⟨F'.keep _ _ (hr p hp), (N p (List.mem_append_right _ hp)).2⟩
  · have := (N' q hq).2.2
    rw [← e, hr p hp] at this
    cases this
end
/-- lambda one: -one -/
abbrev lamObj (qual : Str) (pa p1 p2 : Pos) (pm : Value) (c' : Addr) (ctv : Value) : Obj :=
  kla_obj (Str.ofString "<lambda>") qual { posonlyargs := [], args := [{ arg := Str.ofString "one", annotation := none, pos := pa }], vararg := none, kwonlyargs := [], kw_defaults := [], kwarg := none, defaults := [] } (.UnaryOp .USub (.Name (Str.ofString "one") p1) p2)
    { kind := .function, names := [(Str.ofString "one", .local)], isGenerator := false, isCoroutine := false, more := [] } [] pm c' ctv
theorem lam_c (w : World) (mean : ExcName → Option Value) (mg mb : Str → Option Value) (K c' : Addr) (oc : Obj) (vs' : Array Value) (t' : Tok) (qual : Str) (pa p1 p2 : Pos) (pm ctv : Value) (hoc : oc.data = .fields vs') (hq : vs'[1]? = some (.str qual t')) (x : Int) (tx : Tok) :
    Claim w mean mg mb 1 K [(K, lamObj qual pa p1 p2 pm c' ctv), (c', oc)] [.int x tx] [] (fun r own' => own' = [(K, lamObj qual pa p1 p2 pm c' ctv), (c', oc)] ∧ ∃ t, r = .int (-x) t) := by
  unfold Claim
  k_fill
  w_top off
  intro dp un gd cn cs ca ccd cl outer A₀ base h₀ L m rest s Q E hB hF hK hN hT hk hdis hdp hun hret
  refine enter_lam (binds := [(Str.ofString "one", .int x tx)]) hB hF hK hN hT hdis rfl rfl hk (.head _) (codeRec_news hN (.tail _ (.head _)) hoc hq) (by ktr_room) rfl (locs rfl) hret ?_ rfl rfl rfl (by decide)
  intro g L' h' F' N' B' X' T' l'
  clear hret hB hF hK hN hT hdis
  try dsimp only
  refine hideA ?_
  intro Q0 hQ0
  try k_fold
  (repeat' ((fail_if_success (first | with_reducible show wpAny _ _ (PySem.call (Value.builtin "list.append") [_, Value.bytes _ _] _) _ _ _ | with_reducible show wpR _ _ _ _ _ _ | with_reducible show wpAny _ _ (PySem.exec (Stmt.Assign _ (Expr.ListComp _ _ _ _) _) _) _ _ _ | with_reducible show wpAny _ _ (PySem.eval (Expr.ListComp _ _ _ _) _) _ _ _ | with_reducible show wpAny _ _ (PySem.setItem _ _ _) _ _ _ | with_reducible show KswEnd _ _ _ _ _ _ _ _ _ _ _ _ | with_reducible show wpAny _ _ (PySem.call (Value.type "bytes") _ _) _ _ _ | with_reducible show wpAny _ _ (PySem.call (Value.ref _) _ _) _ _ _ | with_reducible show wpAny _ _ (exec (Stmt.While _ _ _ _) _) _ _ _ | with_reducible show wpAny _ _ (pyIter _) _ _ _)); (first | ((with_reducible show wpAny _ _ (PySem.execs (_ :: _) _) _ _ _); (first | ((first | with_reducible show wpAny _ _ _ _ _ (PySem.Shared.mk _ _ _ (_ + _) _) | with_reducible show wpAny _ _ _ _ _ (PySem.Shared.mk _ _ _ (PySem.Shared.toks _) _)); (try dsimp only); refine normG s rfl ?_; intro tkN8; (try clear tkN9); rename Nat => tkN9) | dsimp only)) | (k_unfold; (try dsimp only)) | (k_end; wrow_close) | walk1 | (dsimp only; walk1) | (leave1; walk_say "STEP leave1"; try dsimp only) | fail "no step")))
  refine hQ0 _ _ (Left.intro (by assumption) (by assumption) (fun p hp => hp) ⟨rfl, _, rfl⟩)
end Mine
end
section -- FP
set_option linter.unusedVariables false
namespace Mine
theorem srt_at {l : List Int} (hs : l.Pairwise (· ≤ ·)) {i j : Nat} (hij : i < j) (hj : j < l.length) : l.getD i 0 ≤ l.getD j 0 := by
  rw [List.getD_eq_getElem?_getD, List.getD_eq_getElem?_getD, List.getElem?_eq_getElem (Nat.lt_trans hij hj), List.getElem?_eq_getElem hj]
  exact List.pairwise_iff_getElem.mp hs i j _ hj hij
theorem sort_mono {ns : List Int} (h : ns.Pairwise (· ≤ ·)) {i j : Nat} (hij : i ≤ j) (hj : j < ns.length) : ns.getD i 0 ≤ ns.getD j 0 := by
  rcases Nat.lt_or_eq_of_le hij with q | q
  · exact srt_at h q hj
  · exact q ▸ Int.le_refl _
theorem cnt_lt {x : Int} : ∀ {ns : List Int}, ns.Pairwise (· ≤ ·) → ∀ j, j < ns.length → (ns.getD j 0 < x ↔ j < (ns.filter fun y => decide (y < x)).length)
  | [], _, j, hj => absurd hj (Nat.not_lt_zero _)
  | a :: t, h, j, hj => by
    rw [List.pairwise_cons] at h
    by_cases ha : a < x
    · rw [List.filter_cons_of_pos (p := fun y => decide (y < x)) (decide_eq_true ha), List.length_cons]
      cases j with
      | zero => exact ⟨fun _ => Nat.succ_pos _, fun _ => ha⟩
      | succ j => exact (cnt_lt (x := x) h.2 j (Nat.lt_of_succ_lt_succ hj)).trans Nat.succ_lt_succ_iff.symm
    · have hnil : t.filter (fun y => decide (y < x)) = [] := List.filter_eq_nil_iff.mpr fun y hy q => ha (Int.lt_of_le_of_lt (h.1 y hy) (of_decide_eq_true q))
      rw [List.filter_cons_of_neg (p := fun y => decide (y < x)) (fun q => ha (of_decide_eq_true q)), hnil]
      have hge : ¬ (a :: t).getD j 0 < x := by
        cases j with
        | zero => exact ha
        | succ j => exact fun q => ha (Int.lt_of_le_of_lt (h.1 _ (getD_mem (ks := t) (Nat.lt_of_succ_lt_succ hj))) q)
      exact ⟨fun q => absurd q hge, fun q => absurd q (Nat.not_lt_zero _)⟩
theorem filter_le (ns : List Int) (x : Int) : (ns.filter fun y => decide (y ≤ x)) = ns.filter fun y => decide (y < x + 1) := by
  apply List.filter_congr
  intro y _
  by_cases h : y ≤ x
  · rw [decide_eq_true h, decide_eq_true (Int.lt_add_one_of_le h)]
  · rw [decide_eq_false h, decide_eq_false fun q => h (Int.le_of_lt_add_one q)]
theorem cnt_le {x : Int} {ns : List Int} (h : ns.Pairwise (· ≤ ·)) (j : Nat) (hj : j < ns.length) : ns.getD j 0 ≤ x ↔ j < (ns.filter fun y => decide (y ≤ x)).length := by
  rw [filter_le, ← cnt_lt h j hj]; exact ⟨Int.lt_add_one_of_le, Int.le_of_lt_add_one⟩
theorem mm_of {k T lo hi : Int} (h1 : lo ≤ k) (h2 : k ≤ hi) (A : lo < k → k ≤ T) (B : k < hi → T ≤ k) : k = min (max T lo) hi := by
  rcases Int.lt_or_eq_of_le h1 with q | q
  · have a := A q
    rw [Int.max_eq_left (Int.le_trans h1 a)]
    rcases Int.lt_or_eq_of_le h2 with r | r
    · rw [← Int.le_antisymm a (B r), Int.min_eq_left h2]
    · subst r; exact (Int.min_eq_right a).symm
  · subst q
    rcases Int.lt_or_eq_of_le h2 with r | r
    · rw [Int.max_eq_right (B r), Int.min_eq_left h2]
    · subst r; exact (Int.min_eq_right (Int.le_max_right _ _)).symm
theorem thr_raw {p : Nat → Prop} {lo hi k T : Int} (h0 : 0 ≤ lo) (h : BisAt p lo hi k) (hp : ∀ j : Nat, lo ≤ (j : Int) → (j : Int) < hi → (p j ↔ (j : Int) < T)) : (lo < k → k ≤ T) ∧ (k < hi → T ≤ k) := by
  obtain ⟨h1, h2, h3, h4⟩ := h
  obtain ⟨n, rfl⟩ := Int.eq_ofNat_of_zero_le (Int.le_trans h0 h1)
  constructor
  · intro q
    cases n with
    | zero => exact absurd q (Int.not_lt.mpr h0)
    | succ m =>
      have a := Int.le_of_lt_add_one (show lo < (m : Int) + 1 from q)
      have b : (m : Int) < ((m + 1 : Nat) : Int) := Int.ofNat_lt.mpr (Nat.lt_succ_self m)
      exact (hp m a (Int.lt_of_lt_of_le b h2)).mp (h3 m a b)
  · intro q
    exact Int.not_lt.mp fun r => h4 n (Int.le_refl _) q ((hp n h1 q).mpr r)
theorem thr {p : Nat → Prop} {lo hi k T : Int} (h0 : 0 ≤ lo) (h : BisAt p lo hi k) (hp : ∀ j : Nat, lo ≤ (j : Int) → (j : Int) < hi → (p j ↔ (j : Int) < T)) : k = min (max T lo) hi :=
  mm_of h.1 h.2.1 (thr_raw h0 h hp).1 (thr_raw h0 h hp).2
theorem ceil_iff {j c W : Nat} (h0 : 0 < W) : j * W < c ↔ (j : Int) < ((c : Int) + (W : Int) - 1).fdiv (W : Int) := by
  rw [Int.fdiv_eq_ediv_of_nonneg _ (Int.natCast_nonneg W), Int.lt_iff_add_one_le, Int.le_ediv_iff_mul_le (Int.ofNat_lt.mpr h0), Int.add_mul, Int.one_mul, ← Int.natCast_mul,
    show (c : Int) + W - 1 = (c - 1) + W from by rw [Int.sub_eq_add_neg, Int.sub_eq_add_neg, Int.add_right_comm], Int.add_le_add_iff_right, Int.le_sub_one_iff, Int.ofNat_lt]
theorem ceil_le {c R W : Nat} (h0 : 0 < W) (h : c ≤ R * W) : 0 ≤ ((c : Int) + (W : Int) - 1).fdiv (W : Int) ∧ ((c : Int) + (W : Int) - 1).fdiv (W : Int) ≤ (R : Int) := by
  constructor
  · rw [Int.fdiv_eq_ediv_of_nonneg _ (Int.natCast_nonneg W)]
    exact Int.ediv_nonneg (Int.sub_nonneg_of_le (Int.le_trans (Int.ofNat_le.mpr h0) (Int.le_add_of_nonneg_left (Int.natCast_nonneg c)))) (Int.natCast_nonneg W)
  · exact Int.not_lt.mp fun q => absurd h (Nat.not_le_of_lt ((ceil_iff h0).mpr q))
section
variable {R W : Nat} {ns fs : List Int} {x : Int}
theorem row_lt {i : Nat} (hlen : ns.length = R * W) (hi : i < R) {j : Nat} (h2 : j < i * W + W) : j < ns.length := hlen ▸ Nat.lt_of_lt_of_le h2 (succ_mul_le hi)
theorem firsts_at (hlen : ns.length = R * W) (h0 : 0 < W) (hfs : ∀ j, j < R → fs.getD j 0 = ns.getD (j * W) 0) {p : Int → Prop} {c : Nat} {k : Int} (hc : c ≤ ns.length)
    (hp : ∀ j, j < ns.length → (p (ns.getD j 0) ↔ j < c)) (h : BisAt (fun i => p (fs.getD i 0)) 0 (R : Int) k) : k = ((c : Int) + (W : Int) - 1).fdiv (W : Int) := by
  have hb := ceil_le (R := R) (c := c) h0 (hlen ▸ hc)
  have := thr (Int.le_refl 0) h (T := ((c : Int) + (W : Int) - 1).fdiv (W : Int)) fun j _ hj => by
    have hj' : j < R := Int.ofNat_lt.mp hj
    show p (fs.getD j 0) ↔ _
    rw [hfs j hj', hp _ (row_lt hlen hj' (Nat.lt_add_of_pos_right h0)), ceil_iff h0]
  rw [this, Int.max_eq_left hb.1, Int.min_eq_left hb.2]
theorem firsts_mono (hso : ns.Pairwise (· ≤ ·)) (hlen : ns.length = R * W) (h0 : 0 < W) (hfs : ∀ j, j < R → fs.getD j 0 = ns.getD (j * W) 0) {i j : Nat} (hij : i < j) (hj : j < R) : fs.getD i 0 ≤ fs.getD j 0 := by
  rw [hfs i (Nat.lt_trans hij hj), hfs j hj]
  exact sort_mono hso (Nat.mul_le_mul_right _ (Nat.le_of_lt hij)) (row_lt hlen hj (Nat.lt_add_of_pos_right h0))
theorem srt_self {l : List Int} (h : l.Pairwise (· ≤ ·)) : srt l = l := (srt_eq (List.Perm.refl l) h).symm
theorem chunk_sorted (hso : ns.Pairwise (· ≤ ·)) (i : Nat) : (chunk W i ns).Pairwise (· ≤ ·) := (hso.sublist (List.drop_sublist _ _)).sublist (List.take_sublist _ _)
theorem snake_even (hso : ns.Pairwise (· ≤ ·)) (hlen : ns.length = R * W) {i : Nat} (hi : i < R) (he : i % 2 = 0) {j : Nat} (h1 : i * W ≤ j) (h2 : j < i * W + W) : (bySort W ns 0 R).getD j 0 = ns.getD j 0 := by
  have e := bySort_chunk 0 hlen i hi
  rw [if_neg (by rw [Nat.add_zero, he]; exact Nat.zero_ne_one), srt_self (chunk_sorted hso i)] at e
  obtain ⟨k, rfl⟩ := Nat.exists_eq_add_of_le h1
  have hk := Nat.lt_of_add_lt_add_left h2
  rw [← chunk_getD hk, ← chunk_getD hk, e]
theorem flip_at (c W k : Nat) (hk : k < W) : c + (c + W) - 1 - (c + k) = c + (W - 1 - k) := by
  rw [Nat.sub_sub, Nat.add_left_comm 1 c k, Nat.add_sub_add_left, Nat.add_sub_assoc (Nat.add_comm 1 k ▸ hk), Nat.sub_sub]
theorem snake_odd (hso : ns.Pairwise (· ≤ ·)) (hlen : ns.length = R * W) {i : Nat} (hi : i < R) (he : i % 2 = 1) {j : Nat} (h1 : i * W ≤ j) (h2 : j < i * W + W) : (bySort W ns 0 R).getD j 0 = ns.getD (i * W + (i * W + W) - 1 - j) 0 := by
  have e := bySort_chunk 0 hlen i hi
  rw [if_pos (by rw [Nat.add_zero]; exact he), srt_self (chunk_sorted hso i)] at e
  obtain ⟨k, rfl⟩ := Nat.exists_eq_add_of_le h1
  have hk := Nat.lt_of_add_lt_add_left h2
  have hcl := chunk_full hlen hi
  have hk2 : W - 1 - k < W := Nat.lt_of_le_of_lt (Nat.sub_le _ _) (Nat.sub_one_lt_of_lt hk)
  rw [flip_at _ _ _ hk, ← chunk_getD hk, ← chunk_getD hk2, e, List.getD_eq_getElem?_getD, List.getElem?_reverse (hcl.symm ▸ hk), hcl, ← List.getD_eq_getElem?_getD]
theorem cast_lt {j c W : Nat} (h : (j : Int) < ((c : Nat) : Int) + (W : Int)) : j < c + W := Int.ofNat_lt.mp h
/-- a row that rises -/
theorem row_up (hso : ns.Pairwise (· ≤ ·)) (hlen : ns.length = R * W) {i : Nat} (hi : i < R) (he : i % 2 = 0) {p : Int → Prop} {c : Nat} {k : Int} (hp : ∀ j, j < ns.length → (p (ns.getD j 0) ↔ j < c))
    (h : BisAt (fun j => p ((bySort W ns 0 R).getD j 0)) ((i * W : Nat) : Int) (((i * W : Nat) : Int) + (W : Int)) k) : k = min (max (c : Int) ((i * W : Nat) : Int)) (((i * W : Nat) : Int) + (W : Int)) := by
  refine thr (Int.natCast_nonneg _) h fun j h1 h2 => ?_
  show p ((bySort W ns 0 R).getD j 0) ↔ _
  rw [snake_even hso hlen hi he (Int.ofNat_le.mp h1) (cast_lt h2), hp j (row_lt hlen hi (cast_lt h2)), Int.ofNat_lt]
theorem flip_lt {c W j : Nat} (h1 : c ≤ j) (h2 : j < c + W) : c + (c + W) - 1 - j < c + W := by
  obtain ⟨k, rfl⟩ := Nat.exists_eq_add_of_le h1
  have hk := Nat.lt_of_add_lt_add_left h2
  rw [flip_at _ _ _ hk]
  exact Nat.add_lt_add_left (Nat.lt_of_le_of_lt (Nat.sub_le _ _) (Nat.sub_one_lt_of_lt hk)) c
theorem flip_iff {a W j C : Nat} (h2 : j < a + W) : ¬ a + (a + W) - 1 - j < C ↔ (j : Int) < (a : Int) + ((a : Int) + (W : Int)) - (C : Int) := by omega
theorem fl1 {a b k : Int} (h : k ≤ b) : a ≤ a + b - k := by omega
theorem fl2 {a b k : Int} (h : a ≤ k) : a + b - k ≤ b := by omega
theorem fl3 {a b k C : Int} (h : a + b - C ≤ k) : a + b - k ≤ C := by omega
theorem fl4 {a b k C : Int} (h : k ≤ a + b - C) : C ≤ a + b - k := by omega
theorem fl5 {a b k : Int} (h : a < a + b - k) : k < b := by omega
theorem fl6 {a b k : Int} (h : a + b - k < b) : a < k := by omega
theorem mm_flip {a b C k : Int} (h1 : a ≤ k) (h2 : k ≤ b) (A : a < k → k ≤ a + b - C) (B : k < b → a + b - C ≤ k) : a + b - k = min (max C a) b :=
  mm_of (fl1 h2) (fl2 h1) (fun q => fl3 (B (fl5 q))) (fun q => fl4 (A (fl6 q)))
/-- and one that falls, with the other sign -/
theorem row_down (hso : ns.Pairwise (· ≤ ·)) (hlen : ns.length = R * W) {i : Nat} (hi : i < R) (he : i % 2 = 1) {q : Int → Prop} {p : Int → Prop} {c : Nat} {k : Int} (hp : ∀ j, j < ns.length → (p (ns.getD j 0) ↔ j < c)) (hq : ∀ y, q (-y) ↔ ¬ p y)
    (h : BisAt (fun j => q (-((bySort W ns 0 R).getD j 0))) ((i * W : Nat) : Int) (((i * W : Nat) : Int) + (W : Int)) k) :
    ((i * W : Nat) : Int) + (((i * W : Nat) : Int) + (W : Int)) - k = min (max (c : Int) ((i * W : Nat) : Int)) (((i * W : Nat) : Int) + (W : Int)) := by
  have := thr_raw (Int.natCast_nonneg _) h (T := ((i * W : Nat) : Int) + (((i * W : Nat) : Int) + (W : Int)) - (c : Int)) fun j h1 h2 => by
    show q (-((bySort W ns 0 R).getD j 0)) ↔ _
    have h1 := Int.ofNat_le.mp h1
    have h2 := cast_lt h2
    rw [snake_odd hso hlen hi he h1 h2, hq, hp _ (row_lt hlen hi (flip_lt h1 h2))]
    exact flip_iff h2
  exact mm_flip h.1 h.2.1 this.1 this.2
theorem up_mono (hso : ns.Pairwise (· ≤ ·)) (hlen : ns.length = R * W) {i : Nat} (hi : i < R) (he : i % 2 = 0) {a b : Nat} (h1 : i * W ≤ a) (h2 : a < b) (h3 : b < i * W + W) : (bySort W ns 0 R).getD a 0 ≤ (bySort W ns 0 R).getD b 0 := by
  rw [snake_even hso hlen hi he h1 (Nat.lt_trans h2 h3), snake_even hso hlen hi he (Nat.le_trans h1 (Nat.le_of_lt h2)) h3]
  exact sort_mono hso (Nat.le_of_lt h2) (row_lt hlen hi h3)
theorem down_mono (hso : ns.Pairwise (· ≤ ·)) (hlen : ns.length = R * W) {i : Nat} (hi : i < R) (he : i % 2 = 1) {a b : Nat} (h1 : i * W ≤ a) (h2 : a < b) (h3 : b < i * W + W) : (bySort W ns 0 R).getD b 0 ≤ (bySort W ns 0 R).getD a 0 := by
  have h4 := Nat.lt_trans h2 h3
  rw [snake_odd hso hlen hi he h1 h4, snake_odd hso hlen hi he (Nat.le_trans h1 (Nat.le_of_lt h2)) h3]
  exact sort_mono hso (Nat.sub_le_sub_left (Nat.le_of_lt h2) _) (row_lt hlen hi (flip_lt h1 h4))
end
end Mine
end
section -- NB
open PySem PySem.W PySem.Calls PyProof.Rows
set_option linter.unusedVariables false
set_option maxRecDepth 100000
set_option maxHeartbeats 8000000
namespace Mine
theorem numbers_c (w : World) (mean : ExcName → Option Value) (mg mb : Str → Option Value) (a : Addr) (its : List Value) (zs : List Int) (hI : IntsAre its zs) (hlen : zs.length < 64)
    (dp un : Nat) (gd : Option (List Code)) (cn : Str) (cs : Scope) (ca : Addr) (ccd : Value) (cl : List (Str × Addr)) (outer : List Env) (A₀ : Around) (base h₀ : Heap) (L : Addr) (m : Str → Option Value) (news : List (Addr × Obj)) (s : Shared) (Q E : Value → Shared → Prop) :
   (hq.heap_1_39 w.params).In h₀ → ∀ (hS : base.IsList a its.toArray) (hB : Below A₀ base outer h₀) (hF : Fr h₀ L s.heap m) (hN : News h₀ L s.heap news) (hT : Top topProg Lo mean mg mb h₀) (hk : cs.kind = .function) (hdp : dp + 3 < recursionLimit) (hun : un + 8 * 3 < cLine)
    (ret : ∀ (D : Addr) (ys : List Value) (ns : List Int) (n : Nat) h' tk', IntsAre ys ns → ns.length = 12 → Fr h₀ L h' m → News h₀ L h' ((D, listOf ys.toArray n) :: news) → (∀ p ∈ news, p.1 ≠ D) → Q (.ref D) { s with heap := h', toks := tk' }),
    wpAny (model PySem.Challenge.rw_pk0050_01.row.prog w) (ktrTop dp un gd cn cs L ca ccd cl outer) (call (.ref 53) [.ref a] []) Q E s := by
  k_fill
  w_top off
  intro hK hS hB hF hN hT hk hdp hun ret
  have hret : ∀ r own' h' tk', (∃ D ys ns n, r = .ref D ∧ own' = [(D, listOf ys.toArray n)] ∧ IntsAre ys ns ∧ ns.length = 12) → Fr h₀ L h' m → News h₀ L h' (own' ++ news) → (∀ p ∈ news, ∀ q ∈ own', p.1 ≠ q.1) → Q r { s with heap := h', toks := tk' } := by
    rintro r own' h' tk' ⟨D, ys, ns, n, rfl, rfl, h1, h2⟩ F N ne
    exact ret D ys ns n h' tk' h1 h2 F N fun p hp => ne p hp _ (.head _)
  clear ret
  have hdis : ∀ p ∈ news, ∀ q ∈ ([] : List (Addr × Obj)), p.1 ≠ q.1 := fun p hp q hq => nomatch hq
  have hN2 : News h₀ L s.heap ([] ++ news) := hN
  clear hN
  with_reducible show wpAny _ _ _ _ _ _
  k_dflt (refine' enter_ownC (binds := [(Str.ofString "script", .ref a)]) ?k1 ?k2 ?k3 ?k4 ?k5 ?kd ?kA ?kF ?kK ?k6 ?k7 ?k8 ?k9 ?kB ?kR ?_ ?c2 ?c3 ?c4 ?c5; (((case kA => exact rfl); (case kF => exact rfl); (case kK => assumption); (case k1 => k_asm); (case k2 => k_asm); (case k3 => k_asm); (case k4 => k_asm); (case k5 => k_asm); (case kd => assumption); (case k6 => k_is); (case k7 => k_is); (case k8 => first | exact room0 (by assumption) | ktr_room); (case k9 => first | exact BindsTo.of_eq rfl | exact kp_binds (by k_in) (fun _ => rfl)); (case c5 => decide +kernel); (case kB => exact rfl); (case c2 => exact rfl); (case c3 => exact rfl); (case c4 => exact rfl); (case kR => assumption))))
  intro g L' h' tk' cells' F' N' Y' B' X' T' l'
  try k_lift B'
  k_cells Y'
  rename_i o1 o2 d1 d2
  try simp only [List.cons_append, List.nil_append, List.append_nil] at N'
  clear hret hB hF hK hN2 hT hdis
  try dsimp only
  refine hideA ?_
  intro Q0 hQ0
  (repeat' ((fail_if_success (first | with_reducible show Exists _ | with_reducible show wpAny _ _ (PySem.call (Value.builtin "list.append") [_, Value.bytes _ _] _) _ _ _ | with_reducible show wpR _ _ _ _ _ _ | with_reducible show wpAny _ _ (PySem.exec (Stmt.Assign _ (Expr.ListComp _ _ _ _) _) _) _ _ _ | with_reducible show wpAny _ _ (PySem.eval (Expr.ListComp _ _ _ _) _) _ _ _ | with_reducible show wpAny _ _ (PySem.setItem _ _ _) _ _ _ | with_reducible show KswEnd _ _ _ _ _ _ _ _ _ _ _ _ | with_reducible show wpAny _ _ (PySem.call (Value.type "bytes") _ _) _ _ _ | with_reducible show wpAny _ _ (PySem.call (Value.ref _) _ _) _ _ _ | with_reducible show wpAny _ _ (exec (Stmt.While _ _ _ _) _) _ _ _ | with_reducible show wpAny _ _ (pyIter _) _ _ _)); (first | ((with_reducible show wpAny _ _ (PySem.execs (_ :: _) _) _ _ _); (first | ((first | with_reducible show wpAny _ _ _ _ _ (PySem.Shared.mk _ _ _ (_ + _) _) | with_reducible show wpAny _ _ _ _ _ (PySem.Shared.mk _ _ _ (PySem.Shared.toks _) _)); (try dsimp only); refine normG s rfl ?_; intro tkN8; (try clear tkN9); rename Nat => tkN9) | dsimp only)) | (k_unfold; (try dsimp only)) | (k_end; wrow_close) | walk1 | (dsimp only; walk1) | (leave1; walk_say "STEP leave1"; try dsimp only) | fail "no step")))
  have hl5 := IntsAre.length hI
  k_dflt (refine ListComp_W (F₀ := by k_asm) (by with_unfolding_all rfl) (by decide) (by rfl) (by decide) (by rfl) ?_)
  (repeat' ((fail_if_success (first | with_reducible show Exists _ | with_reducible show wpAny _ _ (PySem.call (Value.builtin "list.append") [_, Value.bytes _ _] _) _ _ _ | with_reducible show wpR _ _ _ _ _ _ | with_reducible show wpAny _ _ (PySem.exec (Stmt.Assign _ (Expr.ListComp _ _ _ _) _) _) _ _ _ | with_reducible show wpAny _ _ (PySem.eval (Expr.ListComp _ _ _ _) _) _ _ _ | with_reducible show wpAny _ _ (PySem.setItem _ _ _) _ _ _ | with_reducible show KswEnd _ _ _ _ _ _ _ _ _ _ _ _ | with_reducible show wpAny _ _ (PySem.call (Value.type "bytes") _ _) _ _ _ | with_reducible show wpAny _ _ (PySem.call (Value.ref _) _ _) _ _ _ | with_reducible show wpAny _ _ (exec (Stmt.While _ _ _ _) _) _ _ _ | with_reducible show wpAny _ _ (pyIter _) _ _ _)); (first | ((with_reducible show wpAny _ _ (PySem.execs (_ :: _) _) _ _ _); (first | ((first | with_reducible show wpAny _ _ _ _ _ (PySem.Shared.mk _ _ _ (_ + _) _) | with_reducible show wpAny _ _ _ _ _ (PySem.Shared.mk _ _ _ (PySem.Shared.toks _) _)); (try dsimp only); refine normG s rfl ?_; intro tkN8; (try clear tkN9); rename Nat => tkN9) | dsimp only)) | (k_unfold; (try dsimp only)) | (k_end; wrow_close) | walk1 | (dsimp only; walk1) | (leave1; walk_say "STEP leave1"; try dsimp only) | fail "no step")))
  rename IsRange _ _ _ _ _ _ _ _ => hR0
  refine .inr ⟨_, _, _, _, _, _, _, 12, _, rfl, rfl, by k_asm, by k_asm, hR0, by decide, by decide, by rw [sizeLine_eq]; omega, ?_⟩
  rintro s₂ ⟨hh2, rfl⟩
  refine comp_all (fun i ys => ∃ ns, IntsAre ys ns ∧ ns.length = i) ⟨_, .nil, rfl⟩ trivial ?_ ?_
  · rintro i ys hi ⟨ns, hT, hnl⟩ v I oI C oC D m₂ h20 tk20 E' ⟨t20, rfl⟩ hC hx F20 N20 off ⟨ne1, ne2, ne3⟩
    simp only [LCg.Off3, and_true] at off
    have hiv : (0 : Int) + (i : Int) * 1 = (i : Int) := by omega
    rw [hiv] at hx
    (repeat' ((fail_if_success (first | with_reducible show Exists _ | with_reducible show wpAny _ _ (PySem.call (Value.builtin "list.append") [_, Value.bytes _ _] _) _ _ _ | with_reducible show wpR _ _ _ _ _ _ | with_reducible show wpAny _ _ (PySem.exec (Stmt.Assign _ (Expr.ListComp _ _ _ _) _) _) _ _ _ | with_reducible show wpAny _ _ (PySem.eval (Expr.ListComp _ _ _ _) _) _ _ _ | with_reducible show wpAny _ _ (PySem.setItem _ _ _) _ _ _ | with_reducible show KswEnd _ _ _ _ _ _ _ _ _ _ _ _ | with_reducible show wpAny _ _ (PySem.call (Value.type "bytes") _ _) _ _ _ | with_reducible show wpAny _ _ (PySem.call (Value.ref _) _ _) _ _ _ | with_reducible show wpAny _ _ (exec (Stmt.While _ _ _ _) _) _ _ _ | with_reducible show wpAny _ _ (pyIter _) _ _ _)); (first | ((with_reducible show wpAny _ _ (PySem.execs (_ :: _) _) _ _ _); (first | ((first | with_reducible show wpAny _ _ _ _ _ (PySem.Shared.mk _ _ _ (_ + _) _) | with_reducible show wpAny _ _ _ _ _ (PySem.Shared.mk _ _ _ (PySem.Shared.toks _) _)); (try dsimp only); refine normG s rfl ?_; intro tkN8; (try clear tkN9); rename Nat => tkN9) | dsimp only)) | (k_unfold; (try dsimp only)) | (k_end; wrow_close) | walk1 | (dsimp only; walk1) | (leave1; walk_say "STEP leave1"; try dsimp only) | fail "no step")))
    all_goals exact ⟨_, _, rfl, by k_asm, by k_asm, _, hT.append (.cons _ _ .nil), by rw [List.length_append, hnl]; rfl⟩
  · rintro ys ⟨ns, hT, hnl⟩
    (repeat' ((fail_if_success (first | with_reducible show Exists _ | with_reducible show wpAny _ _ (PySem.call (Value.builtin "list.append") [_, Value.bytes _ _] _) _ _ _ | with_reducible show wpR _ _ _ _ _ _ | with_reducible show wpAny _ _ (PySem.exec (Stmt.Assign _ (Expr.ListComp _ _ _ _) _) _) _ _ _ | with_reducible show wpAny _ _ (PySem.eval (Expr.ListComp _ _ _ _) _) _ _ _ | with_reducible show wpAny _ _ (PySem.setItem _ _ _) _ _ _ | with_reducible show KswEnd _ _ _ _ _ _ _ _ _ _ _ _ | with_reducible show wpAny _ _ (PySem.call (Value.type "bytes") _ _) _ _ _ | with_reducible show wpAny _ _ (PySem.call (Value.ref _) _ _) _ _ _ | with_reducible show wpAny _ _ (exec (Stmt.While _ _ _ _) _) _ _ _ | with_reducible show wpAny _ _ (pyIter _) _ _ _)); (first | ((with_reducible show wpAny _ _ (PySem.execs (_ :: _) _) _ _ _); (first | ((first | with_reducible show wpAny _ _ _ _ _ (PySem.Shared.mk _ _ _ (_ + _) _) | with_reducible show wpAny _ _ _ _ _ (PySem.Shared.mk _ _ _ (PySem.Shared.toks _) _)); (try dsimp only); refine normG s rfl ?_; intro tkN8; (try clear tkN9); rename Nat => tkN9) | dsimp only)) | (k_unfold; (try dsimp only)) | (k_end; wrow_close) | walk1 | (dsimp only; walk1) | (leave1; walk_say "STEP leave1"; try dsimp only) | fail "no step")))
    refine hQ0 _ _ (Left.intro (own' := [(_, LCg.lst ys)]) (by assumption) (by assumption) (by (((try simp only [List.append_nil, List.nil_append, List.cons_append, List.append_assoc]); first | exact (fun p hp => hp) | (simp only [List.forall_mem_cons, List.not_mem_nil, false_implies, implies_true, and_true, true_and]; (repeat' apply And.intro) <;> first | trivial | k_mem) | (simp; done)))) ⟨_, ys, ns, _, rfl, rfl, hT, hnl⟩)
end Mine
end
section -- RZ
open PySem PySem.W PySem.Calls PyProof.Rows
set_option maxRecDepth 100000
set_option linter.unusedVariables false
namespace Mine
section
variable {prog : Program} {w : World} {A : Around} {E : Value → Shared → Prop} {s : Shared}
theorem range_new_0 (a b : Int) (t u v : Tok) :
    MeetsIn prog w (Builtin.«range.__new__» ⟨[.type "range", .int a t, .int b u, .int 0 v], []⟩) (raisesNew "ValueError") :=
  .of_wp fun A R s h => by
    have hsub := F.called_range.sub
    obtain ⟨hp, g, d, tk, os⟩ := s
    obtain ⟨hh, h⟩ := h
    wp_walk
    refine raiseError_exc (msg := "range() arg 3 must not be zero") excClass_ValueError hh ?_
    intro h' tk e hx
    exact h h' tk e hx
theorem call_range_0 {a b : Int} {t u v : Tok} {Q : Value → Shared → Prop} (hh : A.handled = none)
    (h : ∀ h' tk e, Heap.NewExc s.heap h' e "ValueError" → E (.ref e) { s with heap := h', toks := tk }) :
    wpAny (model prog w) A (call (.type "range") [.int a t, .int b u, .int 0 v]) Q E s :=
  callType_meetsIn F.called_range (F.typeCall_range_3 _ _ _) (F.newCall_range_3 _ _ _) F.entry_range_new F.entry_object_init (range_new_0 a b t u v)
    (Q₁ := fun _ _ => False) ⟨hh, fun h' tk e hx => h h' tk e hx⟩ (fun _ _ q => q.elim)
theorem seqIndex_out {k : Int} {n : Nat} (h1 : (n : Int) ≤ k) : seqIndex? k n = none := by
  unfold seqIndex?
  first
    | (rw [if_neg (by omega), if_neg (by omega)])
    | (simp; omega)
    | (split <;> simp_all <;> omega)
theorem ba_setItem_out {D : Addr} {b : Array UInt8} {k v : Int} {t u : Tok} {Q : Unit → Shared → Prop} (hh : A.handled = none) (hS : s.heap.get? D = some (baOf b)) (h0 : (b.size : Int) ≤ k) (hk : k < 1000000) (hv0 : 0 ≤ v) (hv1 : v < 256)
    (hE : ∀ h' tk e, Heap.NewExc s.heap h' e "IndexError" → E (.ref e) { s with heap := h', toks := tk }) :
    wpAny (model prog w) A (setItem (.ref D) (.int k t) (.int v u)) Q E s := by
  have hT : s.TypeIs (.ref D) "bytearray" := ⟨_, hS, rfl⟩
  unfold setItem
  try with_reducible refine wpAny_holding ?_
  first | refine wpAny_bind (wpAny_pure ?_) | skip
  refine wpAny_bind (wpAny_sequenceKey hT (by decide) ?_)
  refine wpAny_bind (wpAny_callSpecial?_slot (name := Str.ofString "__setitem__") hT ba_slot_set
    (wpAny_call_entry ba_slot_set hT ba_entry_set ?_ (ba_args_set _ _ _)))
  show wpAny _ _ (Builtin.Bytes.subscript? (.int k t) >>= _) _ _ s
  refine wpAny_bind (ba_subscript (by omega) (by omega) ?_)
  show wpAny _ _ (Builtin.Bytes.byteValue (.int v u) >>= _) _ _ s
  refine wpAny_bind (ba_byteValue hv0 hv1 ?_)
  refine wpAny_bind (ba_payload hS ?_)
  rw [seqIndex_out h0]
  dsimp only
  refine wpAny_bind (m := (do rule "bytearray.subscript.out-of-range"; raiseError "IndexError" "bytearray index out of range" : Sem Unit)) ?_
  refine wpAny_bind (wpAny_rule (raiseError_exc (msg := "bytearray index out of range") excClass_IndexError hh fun h' tk e hx => hE h' tk e hx))
theorem ba_set_out {h₀ : Heap} {L : Addr} {m : Str → Option Value} {news : List (Addr × Obj)} {D : Addr} {b : Array UInt8} {k v : Int} {t u : Tok} {Q : Unit → Shared → Prop} (hh : A.handled = none) (F : Fr h₀ L s.heap m) (N : News h₀ L s.heap news)
    (hD : (D, baOf b) ∈ news) (h0 : (b.size : Int) ≤ k) (hk : k < 1000000) (hv0 : 0 ≤ v) (hv1 : v < 256)
    (hE : ∀ h' tk e, Heap.NewExc s.heap h' e "IndexError" → E (.ref e) { s with heap := h', toks := tk }) :
    wpAny (model prog w) A (setItem (.ref D) (.int k t) (.int v u)) Q E s := ba_setItem_out hh (N _ hD).1 h0 hk hv0 hv1 hE
end
end Mine
end
section -- RV
open PySem PySem.W PySem.Calls PyProof.Rows PyProof.V PySem.Spec
set_option maxRecDepth 100000
set_option linter.unusedVariables false
namespace Mine
open Builtin
def rvb (b : Array UInt8) : Array UInt8 := Bytes.sliced b ((b.size : Int) - 1) (-1) (-1)
theorem filterMap_all (b : Array UInt8) : (List.range b.size).filterMap (b[·]?) = b.toList := by
  have h := pick_run b 0 b.size
  have e : (List.range b.size).map (0 + ·) = List.range b.size := by
    rw [show ((0 + ·) : Nat → Nat) = _root_.id from funext fun k => Nat.zero_add k, List.map_id]
  rw [e, List.drop_zero, List.take_of_length_le (by rw [Array.length_toList]; exact Nat.le_refl _)] at h
  exact h
theorem rvb_list (b : Array UInt8) : (rvb b).toList = b.toList.reverse := by
  unfold rvb Bytes.sliced
  rw [krv_sliceRange, krv_range, List.filterMap_reverse, filterMap_all]
theorem rvb_ints (b : Array UInt8) : KBw.bInts (rvb b) = (KBw.bInts b).reverse := by
  unfold KBw.bInts
  rw [rvb_list, List.map_reverse]
theorem rvb_size (b : Array UInt8) : (rvb b).size = b.size := by
  rw [← Array.length_toList, rvb_list, List.length_reverse, Array.length_toList]
theorem meets_rev (b : Array UInt8) (t tv : Tok) (a : Addr) :
    Meets («bytes.__getitem__» ⟨[.bytes b t, .ref a], []⟩) (fun _ R s => s.heap.IsSliceOf a .none .none (.int (-1) tv) ∧ b.size ≤ sizeLine ∧ ∀ t' k, R (.ok (.ret (.bytes (rvb b) t'))) { s with toks := k }) := by
  refine .of_wp fun prog w A R s hS => ?_
  obtain ⟨⟨o, ho, hc, hd⟩, hsz, h⟩ := hS
  have hT : s.TypeIs (.ref a) "slice" := ⟨o, ho, hc⟩
  show wpAny _ _ (Bytes.payload (.bytes b t) >>= fun r => _) _ _ s
  refine wpAny_bind (wpAny_of_eq (a := b) rfl ?_)
  show wpAny _ _ (Bytes.subscript? (.ref a) >>= fun r => _) _ _ s
  refine wpAny_bind ?_
  unfold Bytes.subscript?
  refine wpAny_bind (wpAny_specialOf hT slice_no_index (wpAny_pure ?_))
  refine wpAny_bind (wpAny_typeOf hT ?_)
  show wpAny _ _ (Bytes.sliceParts (.ref a) >>= fun r => _) _ _ s
  refine wpAny_bind ?_
  unfold Bytes.sliceParts
  refine wpAny_bind (wpAny_field (x := .int (-1) tv) ho hd rfl ?_)
  kby_int
  refine wpAny_ite (KBy.ite_no (show ¬ ((rawInt (-1) == rawInt 0) = true) from by decide) ?_)
  refine wpAny_bind (wpAny_field (x := .none) ho hd rfl ?_)
  kby_none
  refine wpAny_bind (wpAny_field (x := .none) ho hd rfl ?_)
  kby_none
  refine wpAny_pure ?_
  have go : wpAny (model prog w) A.in1 (sliceIndices (rawPart none) (rawPart none) (rawPart (some (-1))) b.size) (fun r s' => r = sliceBounds none none (some (-1)) b.size ∧ s' = s) (fun _ _ => False) s :=
    wpAny_of_eq (sliceIndices_raw none none (some (-1)) b.size (by decide)) ⟨rfl, rfl⟩
  refine wpAny_bind (wpAny_mono go (fun r s' hr => ?_) fun _ _ e => e.elim)
  obtain ⟨hr1, hr2⟩ := hr
  subst hr1 hr2
  rw [krv_bounds]
  refine wpAny_ite (KBy.ite_no (by simp) ?_)
  exact wpAny_bind (wpAny_mkBytes (wpAny_pure ⟨_, rfl, h _ _⟩) (by show (rvb b).size ≤ _; rw [rvb_size]; exact hsz))
section
variable {prog : Program} {w : World} {A : Around} {E : Value → Shared → Prop} {s : Shared} {value slice : PySem.Expr} {b : Array UInt8} {t tv : Tok} {h₀ : Heap} {L : Addr} {m : PySem.Str → Option Value} {news : List (Addr × Obj)} {Q : Value → Shared → Prop} {ks : List Int}
theorem rev_K (hF : Fr h₀ L s.heap m) (hN : News h₀ L s.heap news) (hk : KBw.bInts b = ks) (hz : ks.length ≤ 16777216)
    (h : ∀ h' t' k, Fr h₀ L h' m → News h₀ L h' news → KBw.bInts (rvb b) = ks.reverse → Q (.bytes (rvb b) t') { s with heap := h', toks := k })
    (hs : subscripted slice false (.bytes b t) (.ref s.heap.objs.size) = operate [.ref s.heap.objs.size, .bytes b t] (getItem (.bytes b t) (.ref s.heap.objs.size)) := by with_unfolding_all rfl)
    (ht : ∀ r, letTemporaryGo value (.bytes b t) r = pure () := by intro _; with_unfolding_all rfl) :
    wpAny (model prog w) A (subscriptTail value slice (.bytes b t) (.ref s.heap.objs.size)) Q E { s with heap := s.heap.push { cls := .type "slice", data := .fields #[.none, .none, .int (-1) tv] } } :=
  tail_of_ItemOn ⟨"bytes", _, FB.slot_bytes_getitem.lookup, typeIs_bytes _ _ _, getItem_meets (typeIs_bytes _ _ _) (by decide) FB.slot_bytes_getitem FB.entry_bytes_getitem (FB.args_bytes_getitem_2 _ _) (meets_rev b t tv _)
    ⟨Heap.IsSliceOf.new _ _ _ _, (by rw [← KBw.ints_length b, hk, sizeLine_eq]; exact hz), fun t' k => h _ _ _ (hF.push _) (News.pushKeep hN _) (by rw [rvb_ints, hk])⟩⟩ hs ht
end
end Mine
end
section -- EQ
open PySem PySem.W PySem.Calls PyProof.Rows
set_option maxRecDepth 100000
set_option linter.unusedVariables false
namespace Mine
open PySem.SeqAt
theorem hideQ {α : Type} {M : Model} {A : Around} {E : Value → Shared → Prop} {s : Shared} {t : Sem α} {Q : α → Shared → Prop}
    (h : ∀ (Q0 : α → Shared → Prop), (∀ a s', Q a s' → Q0 a s') → wpAny M A t Q0 E s) : wpAny M A t Q E s := h Q fun _ _ x => x
theorem hideQR {α : Type} {M : Model} {A : Around} {E : Value → Shared → Prop} {s : Shared} {t : Sem α} {Q : α → Shared → Prop}
    (h : ∀ (Q0 : α → Shared → Prop), (∀ a s', Q a s' → Q0 a s') → wpR M A t Q0 E s) : wpR M A t Q E s := h Q fun _ _ x => x
theorem hideRP {M : Model} {A : Around} {E : Value → Shared → Prop} {s : Shared} {body : List Stmt} {env : Env} {Q : Flow → Shared → Prop} (hp : PassesOwn M A env E)
    (h : ∀ (Q0 : Flow → Shared → Prop) (E0 : Value → Shared → Prop), (∀ a s', Q a s' → Q0 a s') → (∀ e s', E e s' → E0 e s') → PassesOwn M A env E0 → wpR M A (execs body env) Q0 E0 s) : wpR M A (execs body env) Q E s := h Q E (fun _ _ x => x) (fun _ _ x => x) hp
section
variable {prog : Program} {w : World} {A : Around} {E : Value → Shared → Prop} {s : Shared}
theorem eqAt_bytes (a : Array UInt8) (t u : Tok) : EqAt A s (.bytes a t) (.bytes a u) true := fun prog w E Q h => by
  unfold eqBool
  refine wpAny_holding ?_
  refine wpAny_ite_split (fun hab => ?_) (fun _ => ?_)
  · exact wpAny_bind (wpAny_rule (wpAny_pure h))
  · refine wpAny_bind ?_
    show wpAny _ _ (compareOp .Eq (.bytes a t) (.bytes a u)) _ _ _
    refine eq_bytes ?_
    have e : decide (a = a) = true := by simp
    simp only [beq_self_eq_true]
    exact wpAny_truthy_bool h
theorem eqAt_str (a : Str) (t u : Tok) : EqAt A s (.str a t) (.str a u) true := by
  have := EqAt.str_str (A := A) (s := s) a t a u
  rwa [show (a == a) = true by simp] at this
theorem eq_list4 {l b : Addr} {news : List (Addr × Obj)} {h₀ : Heap} {L : Addr} {x1 x2 x3 x4 y1 y2 y3 y4 : Value} {n n2 : Nat} {Q : Value → Shared → Prop} (N : News h₀ L s.heap news) (hl : (l, listOf #[x1, x2, x3, x4] n) ∈ news) (hb : (b, listOf #[y1, y2, y3, y4] n2) ∈ news) (hu : A.units < cLine)
    (h1 : EqAt A.in1 s x1 y1 true) (h2 : EqAt A.in1 s x2 y2 true) (h3 : EqAt A.in1 s x3 y3 true) (h4 : EqAt A.in1 s x4 y4 true) (h : Q (.bool true) s) : wpAny (model prog w) A (compareOp .Eq (.ref l) (.ref b)) Q E s := by
  refine eq_listAt (e := fun _ => true) ⟨_, (N _ hl).1, rfl, _, rfl⟩ ⟨_, (N _ hb).1, rfl, _, rfl⟩ rfl hu ?_ ?_
  · intro j p q
    have p' : j < 4 := p
    rcases (show j = 0 ∨ j = 1 ∨ j = 2 ∨ j = 3 by omega) with rfl | rfl | rfl | rfl
    · exact h1
    · exact h2
    · exact h3
    · exact h4
  · have e : (List.range (#[x1, x2, x3, x4] : Array Value).size).all (fun _ => true) = true := by simp
    rw [e]; exact h
theorem eq_push4 {l b : Addr} {news : List (Addr × Obj)} {h₀ : Heap} {L : Addr} {x1 x2 x3 x4 y1 y2 y3 y4 : Value} {n n2 : Nat} {Q : Value → Shared → Prop} (N : News h₀ L s.heap news) (hl : (l, listOf ((((#[].push x1).push x2).push x3).push x4) n) ∈ news) (hb : (b, listOf #[y1, y2, y3, y4] n2) ∈ news) (hu : A.units < cLine)
    (h1 : EqAt A.in1 s x1 y1 true) (h2 : EqAt A.in1 s x2 y2 true) (h3 : EqAt A.in1 s x3 y3 true) (h4 : EqAt A.in1 s x4 y4 true) (h : Q (.bool true) s) : wpAny (model prog w) A (compareOp .Eq (.ref l) (.ref b)) Q E s :=
  eq_list4 (x1 := x1) (x2 := x2) (x3 := x3) (x4 := x4) (n := n) (n2 := n2) N (by simpa using hl) hb hu h1 h2 h3 h4 h
theorem item_made4 {value slice : Expr} {l : Addr} {news : List (Addr × Obj)} {h₀ : Heap} {L : Addr} {items : Array Value} {n : Nat} {k : Int} {u : Tok} {x : Value} {tl : List Value} {Q : Value → Shared → Prop} (N : News h₀ L s.heap news) (hl : (l, listOf items n) ∈ news)
    (h0 : 0 ≤ k) (hfit : k < 2 ^ 63) (hx : items.toList.drop k.toNat = x :: tl) (h : Q x s)
    (hs : subscripted slice false (.ref l) (.int k u) = operate [.ref l, .int k u] (getItem (.ref l) (.int k u)) := by with_unfolding_all rfl) (hg : ∀ r, letTemporaryGo value (.ref l) r = pure () := by intro _; with_unfolding_all rfl) :
    wpAny (model prog w) A (subscriptTail value slice (.ref l) (.int k u)) Q E s :=
  item_list ⟨_, (N _ hl).1, rfl, _, rfl⟩ h0 hfit (by
    have e : (items.toList.drop k.toNat)[0]? = some x := by rw [hx]; rfl
    rw [List.getElem?_drop, Nat.add_zero] at e
    rw [← Array.getElem?_toList]; exact e) h hs hg
theorem isinst_bytes {a : Array UInt8} {t : Tok} {Q : Value → Shared → Prop} (h : Q (.bool true) s) : wpAny (model prog w) A (call (.builtin "isinstance") [.bytes a t, .type "bytes"]) Q E s :=
  call_isinstance_yes (T := "bytes") rfl (by first | exact meta_bytes | decide | kernel_rfl) (by first | exact sub_bytes_bytes | (rw [isSubtype_type]; kernel_rfl)) h
end
end Mine
end
section -- RF
open PySem PySem.W PySem.Calls PyProof.Rows
set_option linter.unusedVariables false
set_option maxRecDepth 100000
set_option maxHeartbeats 8000000
namespace Mine
theorem refused_c (w : World) (mean : ExcName → Option Value) (mg mb : Str → Option Value) (cn : Str) (cs : Scope) (ca : Addr) (ccd : Value) (h₀ : Heap) (L : Addr) (m : Str → Option Value) (ps : Array Value) (s : Shared) (Q E : Value → Shared → Prop)
   (b : Array UInt8) (W : Nat) (t0 t1 : Tok) (h0 : 0 < W) (h1 : W < 100) (hk : cs.kind = .function)
   (hB : Below callerA h₀ [] h₀) : (hq.heap_1_39 w.params).In h₀ → ∀ (hF : Fr h₀ L s.heap m) (hN : News h₀ L s.heap [(100, tabObj #[]), (95, tabObj ps)]) (hT : Top topProg Lo mean mg mb h₀) (hl : ∀ p ∈ [((100 : Addr), tabObj #[]), ((95 : Addr), tabObj ps)], p.1 < L)
   (ret : ∀ (ps2 : Array Value) h' tk', Fr h₀ L h' m → News h₀ L h' [(100, tabObj ps2), (95, tabObj ps)] → Q (.bool true) { s with heap := h', toks := tk' }),
   wpR (model PySem.Challenge.rw_pk0050_01.row.prog w) (callerA.deeper (envOf cn cs L ca ccd)) (call (.ref 105) [.bytes b t0, .int W t1] []) Q E s := by
  k_fill
  w_top off
  intro hX hF hN hT hl ret
  obtain ⟨kk, nm, gg, cc, mo⟩ := cs
  dsimp only at hk
  subst hk
  have hC1 : CodeHd h₀ 104 100 := codeHd_of_K hX (by kernel_rfl)
  k_lt hl
  with_reducible show wpR _ _ _ _ _ _
  refine wpR_call ?_
  k_dflt (refine' defS0R ?k1 ?k2 ?k3 ?k4 ?k5 ?kA ?k6 ?k7 ?k8 ?k9 ?kB ?_ ?cK ?c2 ?c3 ?c4 ?c5; (((case kA => exact rfl); (case k2 => k_asm); (case k1 => k_asm); (case k3 => k_asm); (case k4 => k_asm); (case k5 => k_asm); (case k6 => k_is); (case k7 => k_is); (case k8 => k_room); (case k9 => first | exact binds_K (by k_in) rfl (by k_is) rfl rfl rfl | exact BindsTo.of_eq rfl); (case kB => exact locs rfl); (case cK => exact rfl); (case c2 => exact rfl); (case c3 => exact rfl); (case c4 => exact rfl); (case c5 => decide))))
  intro g' L' h' FG' F' N' B' X' T' D'
  (try dsimp only)
  (try k_lift B')
  (try k_fold)
  refine hideQR ?_
  intro QE1 hQE1
  refine execs_A ?_
  (repeat' ((fail_if_success (first | with_reducible show wpAny _ _ (compareOp CmpOp.Eq (Value.ref _) (Value.ref _)) _ _ _ | with_reducible show wpR _ _ _ _ _ _ | with_reducible show wpAny _ _ (PySem.call (Value.builtin "list.append") [_, Value.bytes _ _] _) _ _ _ | with_reducible show wpAny _ _ (PySem.exec (Stmt.Assign _ (Expr.ListComp _ _ _ _) _) _) _ _ _ | with_reducible show wpAny _ _ (PySem.eval (Expr.ListComp _ _ _ _) _) _ _ _ | with_reducible show wpAny _ _ (PySem.setItem _ _ _) _ _ _ | with_reducible show KswEnd _ _ _ _ _ _ _ _ _ _ _ _ | with_reducible show wpAny _ _ (PySem.call (Value.type "bytes") _ _) _ _ _ | with_reducible show wpAny _ _ (PySem.call (Value.ref _) _ _) _ _ _ | with_reducible show wpAny _ _ (exec (Stmt.While _ _ _ _) _) _ _ _ | with_reducible show wpAny _ _ (pyIter _) _ _ _)); (first | ((with_reducible show wpAny _ _ (PySem.execs (_ :: _) _) _ _ _); (first | ((first | with_reducible show wpAny _ _ _ _ _ (PySem.Shared.mk _ _ _ (_ + _) _) | with_reducible show wpAny _ _ _ _ _ (PySem.Shared.mk _ _ _ (PySem.Shared.toks _) _)); (try dsimp only); refine normG s rfl ?_; intro tkN8; (try clear tkN9); rename Nat => tkN9) | dsimp only)) | (k_unfold; (try dsimp only)) | (k_end; wrow_close) | walk1 | (dsimp only; walk1) | (leave1; walk_say "STEP leave1"; try dsimp only) | fail "no step")))
  refine execs_R (For_R ?_)
  (repeat' ((fail_if_success (first | with_reducible show wpAny _ _ (compareOp CmpOp.Eq (Value.ref _) (Value.ref _)) _ _ _ | with_reducible show wpR _ _ _ _ _ _ | with_reducible show wpAny _ _ (PySem.call (Value.builtin "list.append") [_, Value.bytes _ _] _) _ _ _ | with_reducible show wpAny _ _ (PySem.exec (Stmt.Assign _ (Expr.ListComp _ _ _ _) _) _) _ _ _ | with_reducible show wpAny _ _ (PySem.eval (Expr.ListComp _ _ _ _) _) _ _ _ | with_reducible show wpAny _ _ (PySem.setItem _ _ _) _ _ _ | with_reducible show KswEnd _ _ _ _ _ _ _ _ _ _ _ _ | with_reducible show wpAny _ _ (PySem.call (Value.type "bytes") _ _) _ _ _ | with_reducible show wpAny _ _ (PySem.call (Value.ref _) _ _) _ _ _ | with_reducible show wpAny _ _ (exec (Stmt.While _ _ _ _) _) _ _ _ | with_reducible show wpAny _ _ (pyIter _) _ _ _)); (first | ((with_reducible show wpAny _ _ (PySem.execs (_ :: _) _) _ _ _); (first | ((first | with_reducible show wpAny _ _ _ _ _ (PySem.Shared.mk _ _ _ (_ + _) _) | with_reducible show wpAny _ _ _ _ _ (PySem.Shared.mk _ _ _ (PySem.Shared.toks _) _)); (try dsimp only); refine normG s rfl ?_; intro tkN8; (try clear tkN9); rename Nat => tkN9) | dsimp only)) | (k_unfold; (try dsimp only)) | (k_end; wrow_close) | walk1 | (dsimp only; walk1) | (leave1; walk_say "STEP leave1"; try dsimp only) | fail "no step")))
  refine iter_list (by k_asm) (by k_asm) (by k_mem) ?_
  intro I it0 hi0 hit0 F5 N5 l5
  k_lt l5
  refine turn_l 0 hit0 F5 N5 (by k_mem) ?_ rfl ?_
  · (((try simp only [List.append_nil, List.nil_append, List.cons_append, List.append_assoc]); first   | (simp only [List.forall_mem_cons, List.not_mem_nil, false_implies, implies_true, and_true, true_and, ne_eq]; done)   | ((simp only [List.forall_mem_cons, List.not_mem_nil, false_implies, implies_true, and_true, true_and]); (repeat' apply And.intro) <;> first | trivial | assumption | exact Ne.symm (by assumption) | k_ne)))
  intro hi1 it1 hit1 F6 N6
  refine normA s rfl ?_
  (repeat' ((fail_if_success (first | with_reducible show wpAny _ _ (compareOp CmpOp.Eq (Value.ref _) (Value.ref _)) _ _ _ | with_reducible show wpR _ _ _ _ _ _ | with_reducible show wpAny _ _ (PySem.call (Value.builtin "list.append") [_, Value.bytes _ _] _) _ _ _ | with_reducible show wpAny _ _ (PySem.exec (Stmt.Assign _ (Expr.ListComp _ _ _ _) _) _) _ _ _ | with_reducible show wpAny _ _ (PySem.eval (Expr.ListComp _ _ _ _) _) _ _ _ | with_reducible show wpAny _ _ (PySem.setItem _ _ _) _ _ _ | with_reducible show KswEnd _ _ _ _ _ _ _ _ _ _ _ _ | with_reducible show wpAny _ _ (PySem.call (Value.type "bytes") _ _) _ _ _ | with_reducible show wpAny _ _ (PySem.call (Value.ref _) _ _) _ _ _ | with_reducible show wpAny _ _ (exec (Stmt.While _ _ _ _) _) _ _ _ | with_reducible show wpAny _ _ (pyIter _) _ _ _)); (first | ((with_reducible show wpAny _ _ (PySem.execs (_ :: _) _) _ _ _); (first | ((first | with_reducible show wpAny _ _ _ _ _ (PySem.Shared.mk _ _ _ (_ + _) _) | with_reducible show wpAny _ _ _ _ _ (PySem.Shared.mk _ _ _ (PySem.Shared.toks _) _)); (try dsimp only); refine normG s rfl ?_; intro tkN8; (try clear tkN9); rename Nat => tkN9) | dsimp only)) | (k_unfold; (try dsimp only)) | (k_end; wrow_close) | walk1 | (dsimp only; walk1) | (leave1; walk_say "STEP leave1"; try dsimp only) | fail "no step")))
  refine wpR_any ?_
  refine hideQ ?_
  intro QT1 hQT1
  (repeat' (first | ((with_reducible show wpAny _ _ (PySem.execs (_ :: _) _) _ _ _); (first | ((first | with_reducible show wpAny _ _ _ _ _ (PySem.Shared.mk _ _ _ (_ + _) _) | with_reducible show wpAny _ _ _ _ _ (PySem.Shared.mk _ _ _ (PySem.Shared.toks _) _)); (try dsimp only); refine normG s rfl ?_; intro tkN8; (try clear tkN9); rename Nat => tkN9) | dsimp only)) | (k_unfold; (try dsimp only)) | (k_end; kc_close) | walk1 | (dsimp only; walk1) | (leave1; walk_say "STEP leave1"; try dsimp only) | fail "no step"))
  refine hQT1 _ _ ?_
  clear hQT1
  first | refine normA s rfl ?_ | refine normR s rfl ?_ | skip
  dsimp only [TurnPost]
  rename Fr _ _ _ _ => F7
  rename News _ _ _ _ => N7
  refine turn_l 1 hit1 F7 N7 (by k_mem) ?_ rfl ?_
  · (((try simp only [List.append_nil, List.nil_append, List.cons_append, List.append_assoc]); first   | (simp only [List.forall_mem_cons, List.not_mem_nil, false_implies, implies_true, and_true, true_and, ne_eq]; done)   | ((simp only [List.forall_mem_cons, List.not_mem_nil, false_implies, implies_true, and_true, true_and]); (repeat' apply And.intro) <;> first | trivial | assumption | exact Ne.symm (by assumption) | k_ne)))
  intro hi2 it2 hit2 F8 N8
  refine normA s rfl ?_
  (repeat' ((fail_if_success (first | with_reducible show wpAny _ _ (compareOp CmpOp.Eq (Value.ref _) (Value.ref _)) _ _ _ | with_reducible show wpR _ _ _ _ _ _ | with_reducible show wpAny _ _ (PySem.call (Value.builtin "list.append") [_, Value.bytes _ _] _) _ _ _ | with_reducible show wpAny _ _ (PySem.exec (Stmt.Assign _ (Expr.ListComp _ _ _ _) _) _) _ _ _ | with_reducible show wpAny _ _ (PySem.eval (Expr.ListComp _ _ _ _) _) _ _ _ | with_reducible show wpAny _ _ (PySem.setItem _ _ _) _ _ _ | with_reducible show KswEnd _ _ _ _ _ _ _ _ _ _ _ _ | with_reducible show wpAny _ _ (PySem.call (Value.type "bytes") _ _) _ _ _ | with_reducible show wpAny _ _ (PySem.call (Value.ref _) _ _) _ _ _ | with_reducible show wpAny _ _ (exec (Stmt.While _ _ _ _) _) _ _ _ | with_reducible show wpAny _ _ (pyIter _) _ _ _)); (first | ((with_reducible show wpAny _ _ (PySem.execs (_ :: _) _) _ _ _); (first | ((first | with_reducible show wpAny _ _ _ _ _ (PySem.Shared.mk _ _ _ (_ + _) _) | with_reducible show wpAny _ _ _ _ _ (PySem.Shared.mk _ _ _ (PySem.Shared.toks _) _)); (try dsimp only); refine normG s rfl ?_; intro tkN8; (try clear tkN9); rename Nat => tkN9) | dsimp only)) | (k_unfold; (try dsimp only)) | (k_end; wrow_close) | walk1 | (dsimp only; walk1) | (leave1; walk_say "STEP leave1"; try dsimp only) | fail "no step")))
  refine wpR_any ?_
  refine hideQ ?_
  intro QT2 hQT2
  (repeat' (first | ((with_reducible show wpAny _ _ (PySem.execs (_ :: _) _) _ _ _); (first | ((first | with_reducible show wpAny _ _ _ _ _ (PySem.Shared.mk _ _ _ (_ + _) _) | with_reducible show wpAny _ _ _ _ _ (PySem.Shared.mk _ _ _ (PySem.Shared.toks _) _)); (try dsimp only); refine normG s rfl ?_; intro tkN8; (try clear tkN9); rename Nat => tkN9) | dsimp only)) | (k_unfold; (try dsimp only)) | (k_end; kc_close) | walk1 | (dsimp only; walk1) | (leave1; walk_say "STEP leave1"; try dsimp only) | fail "no step"))
  refine hQT2 _ _ ?_
  clear hQT2
  first | refine normA s rfl ?_ | refine normR s rfl ?_ | skip
  dsimp only [TurnPost]
  rename Fr _ _ _ _ => F9
  rename News _ _ _ _ => N9
  refine done_l 2 rfl hit2 F9 N9 (by k_mem) ?_ rfl ?_
  · (((try simp only [List.append_nil, List.nil_append, List.cons_append, List.append_assoc]); first   | (simp only [List.forall_mem_cons, List.not_mem_nil, false_implies, implies_true, and_true, true_and, ne_eq]; done)   | ((simp only [List.forall_mem_cons, List.not_mem_nil, false_implies, implies_true, and_true, true_and]); (repeat' apply And.intro) <;> first | trivial | assumption | exact Ne.symm (by assumption) | k_ne)))
  intro hi3 F10 N10
  refine wpR_any ?_
  refine normA s rfl ?_
  (repeat' ((fail_if_success (first | with_reducible show wpAny _ _ (compareOp CmpOp.Eq (Value.ref _) (Value.ref _)) _ _ _ | with_reducible show wpR _ _ _ _ _ _ | with_reducible show wpAny _ _ (PySem.call (Value.builtin "list.append") [_, Value.bytes _ _] _) _ _ _ | with_reducible show wpAny _ _ (PySem.exec (Stmt.Assign _ (Expr.ListComp _ _ _ _) _) _) _ _ _ | with_reducible show wpAny _ _ (PySem.eval (Expr.ListComp _ _ _ _) _) _ _ _ | with_reducible show wpAny _ _ (PySem.setItem _ _ _) _ _ _ | with_reducible show KswEnd _ _ _ _ _ _ _ _ _ _ _ _ | with_reducible show wpAny _ _ (PySem.call (Value.type "bytes") _ _) _ _ _ | with_reducible show wpAny _ _ (PySem.call (Value.ref _) _ _) _ _ _ | with_reducible show wpAny _ _ (exec (Stmt.While _ _ _ _) _) _ _ _ | with_reducible show wpAny _ _ (pyIter _) _ _ _)); (first | ((with_reducible show wpAny _ _ (PySem.execs (_ :: _) _) _ _ _); (first | ((first | with_reducible show wpAny _ _ _ _ _ (PySem.Shared.mk _ _ _ (_ + _) _) | with_reducible show wpAny _ _ _ _ _ (PySem.Shared.mk _ _ _ (PySem.Shared.toks _) _)); (try dsimp only); refine normG s rfl ?_; intro tkN8; (try clear tkN9); rename Nat => tkN9) | dsimp only)) | (k_unfold; (try dsimp only)) | (k_end; wrow_close) | walk1 | (dsimp only; walk1) | (leave1; walk_say "STEP leave1"; try dsimp only) | fail "no step")))
  rename News _ _ _ _ => N14
  k_dflt (refine' eq_push4 N14 ?kq1 ?kq2 ?kq3 (eqAt_str _ _ _) (eqAt_str _ _ _) (eqAt_str _ _ _) (eqAt_str _ _ _) ?_; (case kq1 => k_mem); (case kq2 => k_mem); (case kq3 => k_units))
  (repeat' ((fail_if_success (first | with_reducible show wpAny _ _ (compareOp CmpOp.Eq (Value.ref _) (Value.ref _)) _ _ _ | with_reducible show wpR _ _ _ _ _ _ | with_reducible show wpAny _ _ (PySem.call (Value.builtin "list.append") [_, Value.bytes _ _] _) _ _ _ | with_reducible show wpAny _ _ (PySem.exec (Stmt.Assign _ (Expr.ListComp _ _ _ _) _) _) _ _ _ | with_reducible show wpAny _ _ (PySem.eval (Expr.ListComp _ _ _ _) _) _ _ _ | with_reducible show wpAny _ _ (PySem.setItem _ _ _) _ _ _ | with_reducible show KswEnd _ _ _ _ _ _ _ _ _ _ _ _ | with_reducible show wpAny _ _ (PySem.call (Value.type "bytes") _ _) _ _ _ | with_reducible show wpAny _ _ (PySem.call (Value.ref _) _ _) _ _ _ | with_reducible show wpAny _ _ (exec (Stmt.While _ _ _ _) _) _ _ _ | with_reducible show wpAny _ _ (pyIter _) _ _ _)); (first | ((with_reducible show wpAny _ _ (PySem.execs (_ :: _) _) _ _ _); (first | ((first | with_reducible show wpAny _ _ _ _ _ (PySem.Shared.mk _ _ _ (_ + _) _) | with_reducible show wpAny _ _ _ _ _ (PySem.Shared.mk _ _ _ (PySem.Shared.toks _) _)); (try dsimp only); refine normG s rfl ?_; intro tkN8; (try clear tkN9); rename Nat => tkN9) | dsimp only)) | (k_unfold; (try dsimp only)) | (k_end; wrow_close) | walk1 | (dsimp only; walk1) | (leave1; walk_say "STEP leave1"; try dsimp only) | fail "no step")))
  refine hQE1 _ _ ?_
  (repeat' ((fail_if_success (first | with_reducible show wpAny _ _ (compareOp CmpOp.Eq (Value.ref _) (Value.ref _)) _ _ _ | with_reducible show wpR _ _ _ _ _ _ | with_reducible show wpAny _ _ (PySem.call (Value.builtin "list.append") [_, Value.bytes _ _] _) _ _ _ | with_reducible show wpAny _ _ (PySem.exec (Stmt.Assign _ (Expr.ListComp _ _ _ _) _) _) _ _ _ | with_reducible show wpAny _ _ (PySem.eval (Expr.ListComp _ _ _ _) _) _ _ _ | with_reducible show wpAny _ _ (PySem.setItem _ _ _) _ _ _ | with_reducible show KswEnd _ _ _ _ _ _ _ _ _ _ _ _ | with_reducible show wpAny _ _ (PySem.call (Value.type "bytes") _ _) _ _ _ | with_reducible show wpAny _ _ (PySem.call (Value.ref _) _ _) _ _ _ | with_reducible show wpAny _ _ (exec (Stmt.While _ _ _ _) _) _ _ _ | with_reducible show wpAny _ _ (pyIter _) _ _ _)); (first | ((with_reducible show wpAny _ _ (PySem.execs (_ :: _) _) _ _ _); (first | ((first | with_reducible show wpAny _ _ _ _ _ (PySem.Shared.mk _ _ _ (_ + _) _) | with_reducible show wpAny _ _ _ _ _ (PySem.Shared.mk _ _ _ (PySem.Shared.toks _) _)); (try dsimp only); refine normG s rfl ?_; intro tkN8; (try clear tkN9); rename Nat => tkN9) | dsimp only)) | (k_unfold; (try dsimp only)) | (k_end; wrow_close) | walk1 | (dsimp only; walk1) | (leave1; walk_say "STEP leave1"; try dsimp only) | fail "no step")))
  rename Fr _ _ _ _ => F11
  rename News _ _ _ _ => N11
  exact ret _ _ _ F11 (News.sub N11 (by (((try simp only [List.append_nil, List.nil_append, List.cons_append, List.append_assoc]); first | exact (fun p hp => hp) | (simp only [List.forall_mem_cons, List.not_mem_nil, false_implies, implies_true, and_true, true_and]; (repeat' apply And.intro) <;> first | trivial | k_mem) | (simp; done)))))
end Mine
end
section -- WD
open PySem PySem.W PySem.Calls PyProof.Rows
set_option linter.unusedVariables false
set_option maxRecDepth 100000
set_option maxHeartbeats 8000000
namespace Mine
theorem swap_one {l r : List Int} (h : SwapTo 1 l l.length r) : r = l := by
  obtain ⟨h1, h2⟩ := h
  apply List.ext_getElem h1
  intro i p q
  have := h2 i 0 q (by omega)
  have e1 : i * 1 + 0 = i := by omega
  have e2 : i * 1 + (1 - 1 - 0) = i := by omega
  rw [e1, List.getD_eq_getElem?_getD, List.getD_eq_getElem?_getD, List.getElem?_eq_getElem p, List.getElem?_eq_getElem q] at this
  exact this
theorem swap_all {l r : List Int} (h : SwapTo l.length l 1 r) : r = l.reverse := by
  obtain ⟨h1, h2⟩ := h
  apply List.ext_getElem (by rw [List.length_reverse]; exact h1)
  intro i p q
  have := h2 0 i (by omega) (by omega)
  have e1 : 0 * l.length + i = i := by omega
  have e2 : 0 * l.length + (l.length - 1 - i) = l.length - 1 - i := by omega
  rw [e1, e2, List.getD_eq_getElem?_getD, List.getD_eq_getElem?_getD, List.getElem?_eq_getElem p, List.getElem?_eq_getElem (by omega)] at this
  rw [List.getElem_reverse]
  exact this
theorem News.drop1 {h₀ h : Heap} {L : Addr} {p : Addr × Obj} {news : List (Addr × Obj)} (N : News h₀ L h (p :: news)) : News h₀ L h news := fun q hq => N q (.tail _ hq)
theorem use0R {w : World} {mean : ExcName → Option Value} {mg mb : Str → Option Value} {k : Nat} {f : Addr} {vs : List Value} {kw : List (Str × Value)} {P : Value → Prop} (C : ClaimR w mean mg mb k f [] vs kw (fun r own' => own' = [] ∧ P r))
    {dp un : Nat} {gd : Option (List Code)} {cn : Str} {cs : Scope} {a : Addr} {ccd : Value} {cl : List (Str × Addr)} {outer : List Env} {A₀ : Around} {base h₀ : Heap} {L : Addr} {m : Str → Option Value} {news : List (Addr × Obj)} {s : Shared} {Q E : Value → Shared → Prop}
    (B : Below A₀ base outer h₀) (F : Fr h₀ L s.heap m) (X : (hq.heap_1_39 w.params).In h₀) (N : News h₀ L s.heap news) (T : Top topProg Lo mean mg mb h₀) (hk : cs.kind = .function) (hdp : dp + k < recursionLimit) (hun : un + 8 * k < cLine)
    (ret : ∀ r h' tk', P r → Fr h₀ L h' m → News h₀ L h' news → Q r { s with heap := h', toks := tk' }) :
      wpR (model PySem.Challenge.rw_pk0050_01.row.prog w) (ktrTop dp un gd cn cs L a ccd cl outer) (call (.ref f) vs kw) Q E s :=
  use_claimR C news B F X N T hk (fun p hp => by simpa using hp) (fun p hp q hq => nomatch hq) hdp hun fun r own' h' tk' hp F' N' _ => by
    obtain ⟨rfl, hp⟩ := hp
    exact ret r h' tk' hp F' (by simpa using N')
theorem use0 {w : World} {mean : ExcName → Option Value} {mg mb : Str → Option Value} {k : Nat} {f : Addr} {vs : List Value} {kw : List (Str × Value)} {P : Value → Prop} (C : Claim w mean mg mb k f [] vs kw (fun r own' => own' = [] ∧ P r))
    {dp un : Nat} {gd : Option (List Code)} {cn : Str} {cs : Scope} {a : Addr} {ccd : Value} {cl : List (Str × Addr)} {outer : List Env} {A₀ : Around} {base h₀ : Heap} {L : Addr} {m : Str → Option Value} {news : List (Addr × Obj)} {s : Shared} {Q E : Value → Shared → Prop}
    (B : Below A₀ base outer h₀) (F : Fr h₀ L s.heap m) (X : (hq.heap_1_39 w.params).In h₀) (N : News h₀ L s.heap news) (T : Top topProg Lo mean mg mb h₀) (hk : cs.kind = .function) (hdp : dp + k < recursionLimit) (hun : un + 8 * k < cLine)
    (ret : ∀ r h' tk', P r → Fr h₀ L h' m → News h₀ L h' news → Q r { s with heap := h', toks := tk' }) :
      wpAny (model PySem.Challenge.rw_pk0050_01.row.prog w) (ktrTop dp un gd cn cs L a ccd cl outer) (call (.ref f) vs kw) Q E s :=
  use_claim C news B F X N T hk (fun p hp => by simpa using hp) (fun p hp q hq => nomatch hq) hdp hun fun r own' h' tk' hp F' N' _ => by
    obtain ⟨rfl, hp⟩ := hp
    exact ret r h' tk' hp F' (by simpa using N')
local macro_rules | `(tactic| walk_at "call builtin:isinstance") => `(tactic| (k_here; (with_reducible refine isinst_bytes ?_)))
local macro_rules | `(tactic| passes_own) => `(tactic| assumption)
theorem words_c (w : World) (mean : ExcName → Option Value) (mg mb : Str → Option Value) (cn : Str) (cs : Scope) (ca : Addr) (ccd : Value) (h₀ : Heap) (L : Addr) (m : Str → Option Value) (rest : List (Addr × Obj)) (s : Shared) (Q E : Value → Shared → Prop)
   (b : Array UInt8) (ks : List Int) (hb : KBw.bInts b = ks) (h7 : 7 < ks.length) (h14 : ks.length < 14) (t0 : Tok) (hk : cs.kind = .function)
   (hB : Below callerA h₀ [] h₀) : (hq.heap_1_39 w.params).In h₀ → ∀ (hF : Fr h₀ L s.heap m) (Dr : Addr) (itr : List Value) (nr : Nat) (hN : News h₀ L s.heap [(Dr, listOf itr.toArray nr), (100, tabObj #[]), (95, tabObj #[])]) (hT : Top topProg Lo mean mg mb h₀) (hl : ∀ p ∈ [(Dr, listOf itr.toArray nr), ((100 : Addr), tabObj #[]), ((95 : Addr), tabObj #[])], p.1 ≠ L)
   (ret : ∀ h' tk', Fr h₀ L h' m → News h₀ L h' [(Dr, listOf itr.toArray nr), (100, tabObj #[]), (95, tabObj #[])] → Q (.bool true) { s with heap := h', toks := tk' }),
   wpR (model PySem.Challenge.rw_pk0050_01.row.prog w) (callerA.deeper (envOf cn cs L ca ccd)) (call (.ref 112) [.bytes b t0] []) Q E s := by
  k_fill
  w_top off
  intro hX hF Dr itr nr hN hT hl ret
  obtain ⟨kk, nm, gg, cc, mo⟩ := cs
  dsimp only at hk
  subst hk
  with_reducible show wpR _ _ _ _ _ _
  refine wpR_call ?_
  k_dflt (refine' defS0R ?k1 ?k2 ?k3 ?k4 ?k5 ?kA ?k6 ?k7 ?k8 ?k9 ?kB ?_ ?cK ?c2 ?c3 ?c4 ?c5; (((case kA => exact rfl); (case k2 => k_asm); (case k1 => k_asm); (case k3 => k_asm); (case k4 => k_asm); (case k5 => k_asm); (case k6 => k_is); (case k7 => k_is); (case k8 => k_room); (case k9 => first | exact binds_K (by k_in) rfl (by k_is) rfl rfl rfl | exact BindsTo.of_eq rfl); (case kB => exact locs rfl); (case cK => exact rfl); (case c2 => exact rfl); (case c3 => exact rfl); (case c4 => exact rfl); (case c5 => decide))))
  intro g' L' h' FG' F' N' B' X' T' D'
  (try dsimp only)
  (try k_lift B')
  (try k_fold)
  refine execs_A ?_
  (repeat' ((fail_if_success (first | with_reducible show wpAny _ _ (subscriptTail _ _ (Value.ref _) (Value.int _ _)) _ _ _ | with_reducible show wpAny _ _ (compareOp CmpOp.Eq (Value.ref _) (Value.ref _)) _ _ _ | with_reducible show wpR _ _ _ _ _ _ | with_reducible show wpAny _ _ (PySem.call (Value.builtin "list.append") [_, Value.bytes _ _] _) _ _ _ | with_reducible show wpAny _ _ (PySem.exec (Stmt.Assign _ (Expr.ListComp _ _ _ _) _) _) _ _ _ | with_reducible show wpAny _ _ (PySem.eval (Expr.ListComp _ _ _ _) _) _ _ _ | with_reducible show wpAny _ _ (PySem.setItem _ _ _) _ _ _ | with_reducible show KswEnd _ _ _ _ _ _ _ _ _ _ _ _ | with_reducible show wpAny _ _ (PySem.call (Value.type "bytes") _ _) _ _ _ | with_reducible show wpAny _ _ (PySem.call (Value.ref _) _ _) _ _ _ | with_reducible show wpAny _ _ (exec (Stmt.While _ _ _ _) _) _ _ _ | with_reducible show wpAny _ _ (pyIter _) _ _ _)); (first | ((with_reducible show wpAny _ _ _ _ _ _); (first | ((first | with_reducible show wpAny _ _ _ _ _ (PySem.Shared.mk _ _ _ (_ + _) _) | with_reducible show wpAny _ _ _ _ _ (PySem.Shared.mk _ _ _ (PySem.Shared.toks _) _)); (try dsimp only); refine normG s rfl ?_; intro tkN8; (try clear tkN9); rename Nat => tkN9) | ((with_reducible show wpAny _ _ (PySem.execs (_ :: _) _) _ _ _); dsimp only))) | (k_unfold; (try dsimp only)) | (k_end; wrow_close) | walk1 | (dsimp only; walk1) | (leave1; walk_say "STEP leave1"; try dsimp only) | fail "no step")))
  refine execs_R (For_R ?_)
  (repeat' ((fail_if_success (first | with_reducible show wpAny _ _ (subscriptTail _ _ (Value.ref _) (Value.int _ _)) _ _ _ | with_reducible show wpAny _ _ (compareOp CmpOp.Eq (Value.ref _) (Value.ref _)) _ _ _ | with_reducible show wpR _ _ _ _ _ _ | with_reducible show wpAny _ _ (PySem.call (Value.builtin "list.append") [_, Value.bytes _ _] _) _ _ _ | with_reducible show wpAny _ _ (PySem.exec (Stmt.Assign _ (Expr.ListComp _ _ _ _) _) _) _ _ _ | with_reducible show wpAny _ _ (PySem.eval (Expr.ListComp _ _ _ _) _) _ _ _ | with_reducible show wpAny _ _ (PySem.setItem _ _ _) _ _ _ | with_reducible show KswEnd _ _ _ _ _ _ _ _ _ _ _ _ | with_reducible show wpAny _ _ (PySem.call (Value.type "bytes") _ _) _ _ _ | with_reducible show wpAny _ _ (PySem.call (Value.ref _) _ _) _ _ _ | with_reducible show wpAny _ _ (exec (Stmt.While _ _ _ _) _) _ _ _ | with_reducible show wpAny _ _ (pyIter _) _ _ _)); (first | ((with_reducible show wpAny _ _ _ _ _ _); (first | ((first | with_reducible show wpAny _ _ _ _ _ (PySem.Shared.mk _ _ _ (_ + _) _) | with_reducible show wpAny _ _ _ _ _ (PySem.Shared.mk _ _ _ (PySem.Shared.toks _) _)); (try dsimp only); refine normG s rfl ?_; intro tkN8; (try clear tkN9); rename Nat => tkN9) | ((with_reducible show wpAny _ _ (PySem.execs (_ :: _) _) _ _ _); dsimp only))) | (k_unfold; (try dsimp only)) | (k_end; wrow_close) | walk1 | (dsimp only; walk1) | (leave1; walk_say "STEP leave1"; try dsimp only) | fail "no step")))
  refine iter_list (by k_asm) (by k_asm) (by k_mem) ?_
  intro I it0 hi0 hit0 F5 N5 l5
  k_lt l5
  refine turn_l 0 hit0 F5 N5 (by k_mem) ?_ rfl ?_
  · (((try simp only [List.append_nil, List.nil_append, List.cons_append, List.append_assoc]); first   | (simp only [List.forall_mem_cons, List.not_mem_nil, false_implies, implies_true, and_true, true_and, ne_eq]; done)   | ((simp only [List.forall_mem_cons, List.not_mem_nil, false_implies, implies_true, and_true, true_and]); (repeat' apply And.intro) <;> first | trivial | assumption | exact Ne.symm (by assumption) | k_ne)))
  intro hi1 it1 hit1 F6 N6
  (repeat' ((fail_if_success (first | with_reducible show wpAny _ _ (subscriptTail _ _ (Value.ref _) (Value.int _ _)) _ _ _ | with_reducible show wpAny _ _ (compareOp CmpOp.Eq (Value.ref _) (Value.ref _)) _ _ _ | with_reducible show wpR _ _ _ _ _ _ | with_reducible show wpAny _ _ (PySem.call (Value.builtin "list.append") [_, Value.bytes _ _] _) _ _ _ | with_reducible show wpAny _ _ (PySem.exec (Stmt.Assign _ (Expr.ListComp _ _ _ _) _) _) _ _ _ | with_reducible show wpAny _ _ (PySem.eval (Expr.ListComp _ _ _ _) _) _ _ _ | with_reducible show wpAny _ _ (PySem.setItem _ _ _) _ _ _ | with_reducible show KswEnd _ _ _ _ _ _ _ _ _ _ _ _ | with_reducible show wpAny _ _ (PySem.call (Value.type "bytes") _ _) _ _ _ | with_reducible show wpAny _ _ (PySem.call (Value.ref _) _ _) _ _ _ | with_reducible show wpAny _ _ (exec (Stmt.While _ _ _ _) _) _ _ _ | with_reducible show wpAny _ _ (pyIter _) _ _ _)); (first | ((with_reducible show wpAny _ _ _ _ _ _); (first | ((first | with_reducible show wpAny _ _ _ _ _ (PySem.Shared.mk _ _ _ (_ + _) _) | with_reducible show wpAny _ _ _ _ _ (PySem.Shared.mk _ _ _ (PySem.Shared.toks _) _)); (try dsimp only); refine normG s rfl ?_; intro tkN8; (try clear tkN9); rename Nat => tkN9) | ((with_reducible show wpAny _ _ (PySem.execs (_ :: _) _) _ _ _); dsimp only))) | (k_unfold; (try dsimp only)) | (k_end; wrow_close) | walk1 | (dsimp only; walk1) | (leave1; walk_say "STEP leave1"; try dsimp only) | fail "no step")))
  refine execs_R (Try_R (execs_R (Expr_R (Method1_R ?_))))
  (repeat' ((fail_if_success (first | with_reducible show wpAny _ _ (subscriptTail _ _ (Value.ref _) (Value.int _ _)) _ _ _ | with_reducible show wpAny _ _ (compareOp CmpOp.Eq (Value.ref _) (Value.ref _)) _ _ _ | with_reducible show wpR _ _ _ _ _ _ | with_reducible show wpAny _ _ (PySem.call (Value.builtin "list.append") [_, Value.bytes _ _] _) _ _ _ | with_reducible show wpAny _ _ (PySem.exec (Stmt.Assign _ (Expr.ListComp _ _ _ _) _) _) _ _ _ | with_reducible show wpAny _ _ (PySem.eval (Expr.ListComp _ _ _ _) _) _ _ _ | with_reducible show wpAny _ _ (PySem.setItem _ _ _) _ _ _ | with_reducible show KswEnd _ _ _ _ _ _ _ _ _ _ _ _ | with_reducible show wpAny _ _ (PySem.call (Value.type "bytes") _ _) _ _ _ | with_reducible show wpAny _ _ (PySem.call (Value.ref _) _ _) _ _ _ | with_reducible show wpAny _ _ (exec (Stmt.While _ _ _ _) _) _ _ _ | with_reducible show wpAny _ _ (pyIter _) _ _ _)); (first | ((with_reducible show wpAny _ _ _ _ _ _); (first | ((first | with_reducible show wpAny _ _ _ _ _ (PySem.Shared.mk _ _ _ (_ + _) _) | with_reducible show wpAny _ _ _ _ _ (PySem.Shared.mk _ _ _ (PySem.Shared.toks _) _)); (try dsimp only); refine normG s rfl ?_; intro tkN8; (try clear tkN9); rename Nat => tkN9) | ((with_reducible show wpAny _ _ (PySem.execs (_ :: _) _) _ _ _); dsimp only))) | (k_unfold; (try dsimp only)) | (k_end; wrow_close) | walk1 | (dsimp only; walk1) | (leave1; walk_say "STEP leave1"; try dsimp only) | fail "no step")))
  refine call_def_R (K := hq.heap_1_39 w.params) ?_
  (repeat' ((fail_if_success (first | with_reducible show wpAny _ _ (subscriptTail _ _ (Value.ref _) (Value.int _ _)) _ _ _ | with_reducible show wpAny _ _ (compareOp CmpOp.Eq (Value.ref _) (Value.ref _)) _ _ _ | with_reducible show wpR _ _ _ _ _ _ | with_reducible show wpAny _ _ (PySem.call (Value.builtin "list.append") [_, Value.bytes _ _] _) _ _ _ | with_reducible show wpAny _ _ (PySem.exec (Stmt.Assign _ (Expr.ListComp _ _ _ _) _) _) _ _ _ | with_reducible show wpAny _ _ (PySem.eval (Expr.ListComp _ _ _ _) _) _ _ _ | with_reducible show wpAny _ _ (PySem.setItem _ _ _) _ _ _ | with_reducible show KswEnd _ _ _ _ _ _ _ _ _ _ _ _ | with_reducible show wpAny _ _ (PySem.call (Value.type "bytes") _ _) _ _ _ | with_reducible show wpAny _ _ (PySem.call (Value.ref _) _ _) _ _ _ | with_reducible show wpAny _ _ (exec (Stmt.While _ _ _ _) _) _ _ _ | with_reducible show wpAny _ _ (pyIter _) _ _ _)); (first | ((with_reducible show wpAny _ _ _ _ _ _); (first | ((first | with_reducible show wpAny _ _ _ _ _ (PySem.Shared.mk _ _ _ (_ + _) _) | with_reducible show wpAny _ _ _ _ _ (PySem.Shared.mk _ _ _ (PySem.Shared.toks _) _)); (try dsimp only); refine normG s rfl ?_; intro tkN8; (try clear tkN9); rename Nat => tkN9) | ((with_reducible show wpAny _ _ (PySem.execs (_ :: _) _) _ _ _); dsimp only))) | (k_unfold; (try dsimp only)) | (k_end; wrow_close) | walk1 | (dsimp only; walk1) | (leave1; walk_say "STEP leave1"; try dsimp only) | fail "no step")))
  refine wpR_call ?_
  k_dflt (refine' defSR ?k1 ?k2 ?k3 ?k4 ?k5 ?XB ?TB ?D ?T0 ?kA ?k6 ?k7 ?k8 ?k9 ?kB ?_ ?cK ?c2 ?c3 ?c4 ?c5; (((case kA => exact rfl); (case k2 => k_asm); (case k1 => k_asm); (case XB => assumption); (case TB => assumption); (case D => assumption); (case T0 => first | assumption | exact KtsTurn.refl); (case k3 => k_asm); (case k4 => k_asm); (case k5 => k_asm); (case k6 => k_is); (case k7 => k_is); (case k8 => k_room); (case k9 => first | exact binds_K (by k_in) rfl (by k_is) rfl rfl rfl | exact BindsTo.of_eq rfl); (case kB => exact locs rfl); (case cK => exact rfl); (case c2 => exact rfl); (case c3 => exact rfl); (case c4 => exact rfl); (case c5 => decide))))
  intro g2 L2 h2 FG2 F7 N7 B2 X2 T2 D2
  (try dsimp only)
  (try k_lift B2)
  (try k_fold)
  refine hideRP (by first | passes_own | with_unfolding_all passes_own) ?_
  intro QE1 EE1 hQE1 hEE1 hPE1
  have hpos : 0 < ks.length := by omega
  refine execs_R (assign_R (Call_R ?_) ?_)
  rotate_left
  · rfl
  (repeat' ((fail_if_success (first | with_reducible show wpAny _ _ (subscriptTail _ _ (Value.ref _) (Value.int _ _)) _ _ _ | with_reducible show wpAny _ _ (compareOp CmpOp.Eq (Value.ref _) (Value.ref _)) _ _ _ | with_reducible show wpR _ _ _ _ _ _ | with_reducible show wpAny _ _ (PySem.call (Value.builtin "list.append") [_, Value.bytes _ _] _) _ _ _ | with_reducible show wpAny _ _ (PySem.exec (Stmt.Assign _ (Expr.ListComp _ _ _ _) _) _) _ _ _ | with_reducible show wpAny _ _ (PySem.eval (Expr.ListComp _ _ _ _) _) _ _ _ | with_reducible show wpAny _ _ (PySem.setItem _ _ _) _ _ _ | with_reducible show KswEnd _ _ _ _ _ _ _ _ _ _ _ _ | with_reducible show wpAny _ _ (PySem.call (Value.type "bytes") _ _) _ _ _ | with_reducible show wpAny _ _ (PySem.call (Value.ref _) _ _) _ _ _ | with_reducible show wpAny _ _ (exec (Stmt.While _ _ _ _) _) _ _ _ | with_reducible show wpAny _ _ (pyIter _) _ _ _)); (first | ((with_reducible show wpAny _ _ _ _ _ _); (first | ((first | with_reducible show wpAny _ _ _ _ _ (PySem.Shared.mk _ _ _ (_ + _) _) | with_reducible show wpAny _ _ _ _ _ (PySem.Shared.mk _ _ _ (PySem.Shared.toks _) _)); (try dsimp only); refine normG s rfl ?_; intro tkN8; (try clear tkN9); rename Nat => tkN9) | ((with_reducible show wpAny _ _ (PySem.execs (_ :: _) _) _ _ _); dsimp only))) | (k_unfold; (try dsimp only)) | (k_end; wrow_close) | walk1 | (dsimp only; walk1) | (leave1; walk_say "STEP leave1"; try dsimp only) | fail "no step")))
  refine callWith_type_R1 ?_
  (repeat' ((fail_if_success (first | with_reducible show wpAny _ _ (subscriptTail _ _ (Value.ref _) (Value.int _ _)) _ _ _ | with_reducible show wpAny _ _ (compareOp CmpOp.Eq (Value.ref _) (Value.ref _)) _ _ _ | with_reducible show wpR _ _ _ _ _ _ | with_reducible show wpAny _ _ (PySem.call (Value.builtin "list.append") [_, Value.bytes _ _] _) _ _ _ | with_reducible show wpAny _ _ (PySem.exec (Stmt.Assign _ (Expr.ListComp _ _ _ _) _) _) _ _ _ | with_reducible show wpAny _ _ (PySem.eval (Expr.ListComp _ _ _ _) _) _ _ _ | with_reducible show wpAny _ _ (PySem.setItem _ _ _) _ _ _ | with_reducible show KswEnd _ _ _ _ _ _ _ _ _ _ _ _ | with_reducible show wpAny _ _ (PySem.call (Value.type "bytes") _ _) _ _ _ | with_reducible show wpAny _ _ (PySem.call (Value.ref _) _ _) _ _ _ | with_reducible show wpAny _ _ (exec (Stmt.While _ _ _ _) _) _ _ _ | with_reducible show wpAny _ _ (pyIter _) _ _ _)); (first | ((with_reducible show wpAny _ _ _ _ _ _); (first | ((first | with_reducible show wpAny _ _ _ _ _ (PySem.Shared.mk _ _ _ (_ + _) _) | with_reducible show wpAny _ _ _ _ _ (PySem.Shared.mk _ _ _ (PySem.Shared.toks _) _)); (try dsimp only); refine normG s rfl ?_; intro tkN8; (try clear tkN9); rename Nat => tkN9) | ((with_reducible show wpAny _ _ (PySem.execs (_ :: _) _) _ _ _); dsimp only))) | (k_unfold; (try dsimp only)) | (k_end; wrow_close) | walk1 | (dsimp only; walk1) | (leave1; walk_say "STEP leave1"; try dsimp only) | fail "no step")))
  refine ba_make_K (by k_asm) (by k_asm) hpos (by omega) ?_
  intro D h2 F2 N2 l2
  k_lt l2
  dsimp only
  (repeat' ((fail_if_success (first | with_reducible show wpAny _ _ (subscriptTail _ _ (Value.ref _) (Value.int _ _)) _ _ _ | with_reducible show wpAny _ _ (compareOp CmpOp.Eq (Value.ref _) (Value.ref _)) _ _ _ | with_reducible show wpR _ _ _ _ _ _ | with_reducible show wpAny _ _ (PySem.call (Value.builtin "list.append") [_, Value.bytes _ _] _) _ _ _ | with_reducible show wpAny _ _ (PySem.exec (Stmt.Assign _ (Expr.ListComp _ _ _ _) _) _) _ _ _ | with_reducible show wpAny _ _ (PySem.eval (Expr.ListComp _ _ _ _) _) _ _ _ | with_reducible show wpAny _ _ (PySem.setItem _ _ _) _ _ _ | with_reducible show KswEnd _ _ _ _ _ _ _ _ _ _ _ _ | with_reducible show wpAny _ _ (PySem.call (Value.type "bytes") _ _) _ _ _ | with_reducible show wpAny _ _ (PySem.call (Value.ref _) _ _) _ _ _ | with_reducible show wpAny _ _ (exec (Stmt.While _ _ _ _) _) _ _ _ | with_reducible show wpAny _ _ (pyIter _) _ _ _)); (first | ((with_reducible show wpAny _ _ _ _ _ _); (first | ((first | with_reducible show wpAny _ _ _ _ _ (PySem.Shared.mk _ _ _ (_ + _) _) | with_reducible show wpAny _ _ _ _ _ (PySem.Shared.mk _ _ _ (PySem.Shared.toks _) _)); (try dsimp only); refine normG s rfl ?_; intro tkN8; (try clear tkN9); rename Nat => tkN9) | ((with_reducible show wpAny _ _ (PySem.execs (_ :: _) _) _ _ _); dsimp only))) | (k_unfold; (try dsimp only)) | (k_end; wrow_close) | walk1 | (dsimp only; walk1) | (leave1; walk_say "STEP leave1"; try dsimp only) | fail "no step")))
  refine wpR_any ?_
  (repeat' (first | ((with_reducible show wpAny _ _ _ _ _ _); (first | ((first | with_reducible show wpAny _ _ _ _ _ (PySem.Shared.mk _ _ _ (_ + _) _) | with_reducible show wpAny _ _ _ _ _ (PySem.Shared.mk _ _ _ (PySem.Shared.toks _) _)); (try dsimp only); refine normG s rfl ?_; intro tkN8; (try clear tkN9); rename Nat => tkN9) | ((with_reducible show wpAny _ _ (PySem.execs (_ :: _) _) _ _ _); dsimp only))) | (k_unfold; (try dsimp only)) | (k_end; kc_close) | walk1 | (dsimp only; walk1) | (leave1; walk_say "STEP leave1"; try dsimp only) | fail "no step"))
  refine call_range_0 rfl ?_
  intro h9 tk9 e9 hx9
  refine hEE1 _ _ ?_
  dsimp only at hx9 ⊢
  (repeat' (first | ((with_reducible show wpAny _ _ _ _ _ _); (first | ((first | with_reducible show wpAny _ _ _ _ _ (PySem.Shared.mk _ _ _ (_ + _) _) | with_reducible show wpAny _ _ _ _ _ (PySem.Shared.mk _ _ _ (PySem.Shared.toks _) _)); (try dsimp only); refine normG s rfl ?_; intro tkN8; (try clear tkN9); rename Nat => tkN9) | ((with_reducible show wpAny _ _ (PySem.execs (_ :: _) _) _ _ _); dsimp only))) | (k_unfold; (try dsimp only)) | (k_end; kc_close) | walk1 | (dsimp only; walk1) | (leave1; walk_say "STEP leave1"; try dsimp only) | fail "no step"))
  dsimp only
  refine wpR_any ?_
  (repeat' (first | ((with_reducible show wpAny _ _ _ _ _ _); (first | ((first | with_reducible show wpAny _ _ _ _ _ (PySem.Shared.mk _ _ _ (_ + _) _) | with_reducible show wpAny _ _ _ _ _ (PySem.Shared.mk _ _ _ (PySem.Shared.toks _) _)); (try dsimp only); refine normG s rfl ?_; intro tkN8; (try clear tkN9); rename Nat => tkN9) | ((with_reducible show wpAny _ _ (PySem.execs (_ :: _) _) _ _ _); dsimp only))) | (k_unfold; (try dsimp only)) | (k_end; kc_close) | walk1 | (dsimp only; walk1) | (leave1; walk_say "STEP leave1"; try dsimp only) | fail "no step"))
  dsimp only [TurnPost]
  rename Fr _ _ _ _ => F5
  rename News _ _ _ _ => N5
  replace N5 := News.drop1 N5
  refine turn_l 1 hit1 F5 N5 (by k_mem) ?_ rfl ?_
  · (((try simp only [List.append_nil, List.nil_append, List.cons_append, List.append_assoc]); first   | (simp only [List.forall_mem_cons, List.not_mem_nil, false_implies, implies_true, and_true, true_and, ne_eq]; done)   | ((simp only [List.forall_mem_cons, List.not_mem_nil, false_implies, implies_true, and_true, true_and]); (repeat' apply And.intro) <;> first | trivial | assumption | exact Ne.symm (by assumption) | k_ne)))
  intro hi2 it2 hit2 F6 N6
  (repeat' ((fail_if_success (first | with_reducible show wpAny _ _ (subscriptTail _ _ (Value.ref _) (Value.int _ _)) _ _ _ | with_reducible show wpAny _ _ (compareOp CmpOp.Eq (Value.ref _) (Value.ref _)) _ _ _ | with_reducible show wpR _ _ _ _ _ _ | with_reducible show wpAny _ _ (PySem.call (Value.builtin "list.append") [_, Value.bytes _ _] _) _ _ _ | with_reducible show wpAny _ _ (PySem.exec (Stmt.Assign _ (Expr.ListComp _ _ _ _) _) _) _ _ _ | with_reducible show wpAny _ _ (PySem.eval (Expr.ListComp _ _ _ _) _) _ _ _ | with_reducible show wpAny _ _ (PySem.setItem _ _ _) _ _ _ | with_reducible show KswEnd _ _ _ _ _ _ _ _ _ _ _ _ | with_reducible show wpAny _ _ (PySem.call (Value.type "bytes") _ _) _ _ _ | with_reducible show wpAny _ _ (PySem.call (Value.ref _) _ _) _ _ _ | with_reducible show wpAny _ _ (exec (Stmt.While _ _ _ _) _) _ _ _ | with_reducible show wpAny _ _ (pyIter _) _ _ _)); (first | ((with_reducible show wpAny _ _ _ _ _ _); (first | ((first | with_reducible show wpAny _ _ _ _ _ (PySem.Shared.mk _ _ _ (_ + _) _) | with_reducible show wpAny _ _ _ _ _ (PySem.Shared.mk _ _ _ (PySem.Shared.toks _) _)); (try dsimp only); refine normG s rfl ?_; intro tkN8; (try clear tkN9); rename Nat => tkN9) | ((with_reducible show wpAny _ _ (PySem.execs (_ :: _) _) _ _ _); dsimp only))) | (k_unfold; (try dsimp only)) | (k_end; wrow_close) | walk1 | (dsimp only; walk1) | (leave1; walk_say "STEP leave1"; try dsimp only) | fail "no step")))
  refine execs_R (Try_R (execs_R (Expr_R (Method1_R ?_))))
  (repeat' ((fail_if_success (first | with_reducible show wpAny _ _ (subscriptTail _ _ (Value.ref _) (Value.int _ _)) _ _ _ | with_reducible show wpAny _ _ (compareOp CmpOp.Eq (Value.ref _) (Value.ref _)) _ _ _ | with_reducible show wpR _ _ _ _ _ _ | with_reducible show wpAny _ _ (PySem.call (Value.builtin "list.append") [_, Value.bytes _ _] _) _ _ _ | with_reducible show wpAny _ _ (PySem.exec (Stmt.Assign _ (Expr.ListComp _ _ _ _) _) _) _ _ _ | with_reducible show wpAny _ _ (PySem.eval (Expr.ListComp _ _ _ _) _) _ _ _ | with_reducible show wpAny _ _ (PySem.setItem _ _ _) _ _ _ | with_reducible show KswEnd _ _ _ _ _ _ _ _ _ _ _ _ | with_reducible show wpAny _ _ (PySem.call (Value.type "bytes") _ _) _ _ _ | with_reducible show wpAny _ _ (PySem.call (Value.ref _) _ _) _ _ _ | with_reducible show wpAny _ _ (exec (Stmt.While _ _ _ _) _) _ _ _ | with_reducible show wpAny _ _ (pyIter _) _ _ _)); (first | ((with_reducible show wpAny _ _ _ _ _ _); (first | ((first | with_reducible show wpAny _ _ _ _ _ (PySem.Shared.mk _ _ _ (_ + _) _) | with_reducible show wpAny _ _ _ _ _ (PySem.Shared.mk _ _ _ (PySem.Shared.toks _) _)); (try dsimp only); refine normG s rfl ?_; intro tkN8; (try clear tkN9); rename Nat => tkN9) | ((with_reducible show wpAny _ _ (PySem.execs (_ :: _) _) _ _ _); dsimp only))) | (k_unfold; (try dsimp only)) | (k_end; wrow_close) | walk1 | (dsimp only; walk1) | (leave1; walk_say "STEP leave1"; try dsimp only) | fail "no step")))
  refine call_def_R (K := hq.heap_1_39 w.params) ?_
  (repeat' ((fail_if_success (first | with_reducible show wpAny _ _ (subscriptTail _ _ (Value.ref _) (Value.int _ _)) _ _ _ | with_reducible show wpAny _ _ (compareOp CmpOp.Eq (Value.ref _) (Value.ref _)) _ _ _ | with_reducible show wpR _ _ _ _ _ _ | with_reducible show wpAny _ _ (PySem.call (Value.builtin "list.append") [_, Value.bytes _ _] _) _ _ _ | with_reducible show wpAny _ _ (PySem.exec (Stmt.Assign _ (Expr.ListComp _ _ _ _) _) _) _ _ _ | with_reducible show wpAny _ _ (PySem.eval (Expr.ListComp _ _ _ _) _) _ _ _ | with_reducible show wpAny _ _ (PySem.setItem _ _ _) _ _ _ | with_reducible show KswEnd _ _ _ _ _ _ _ _ _ _ _ _ | with_reducible show wpAny _ _ (PySem.call (Value.type "bytes") _ _) _ _ _ | with_reducible show wpAny _ _ (PySem.call (Value.ref _) _ _) _ _ _ | with_reducible show wpAny _ _ (exec (Stmt.While _ _ _ _) _) _ _ _ | with_reducible show wpAny _ _ (pyIter _) _ _ _)); (first | ((with_reducible show wpAny _ _ _ _ _ _); (first | ((first | with_reducible show wpAny _ _ _ _ _ (PySem.Shared.mk _ _ _ (_ + _) _) | with_reducible show wpAny _ _ _ _ _ (PySem.Shared.mk _ _ _ (PySem.Shared.toks _) _)); (try dsimp only); refine normG s rfl ?_; intro tkN8; (try clear tkN9); rename Nat => tkN9) | ((with_reducible show wpAny _ _ (PySem.execs (_ :: _) _) _ _ _); dsimp only))) | (k_unfold; (try dsimp only)) | (k_end; wrow_close) | walk1 | (dsimp only; walk1) | (leave1; walk_say "STEP leave1"; try dsimp only) | fail "no step")))
  refine hideR ?_
  intro QC1 hQC1
  k_dflt (refine' use0R (swap_c w mean mg mb b ks hb ks.length 1 (by omega) (by omega) (by omega) _ _ (by omega) (by omega)) ?k1 ?k2 ?k3 ?k4 ?k5 ?k6 ?k9 ?k10 ?_; (((case k1 => k_asm); (case k2 => k_asm); (case k3 => k_asm); (case k4 => k_asm); (case k5 => k_asm); (case k6 => exact rfl); (case k9 => first | exact room1 (by assumption) (by decide) | ktr_room); (case k10 => first | exact units1 (by assumption) (by decide) | ktr_units))))
  rintro r h7 tk7 ⟨rb, rs, tr, rfl, hrb, hSw⟩ F7 N7
  refine hQC1 _ _ ?_
  clear hQC1
  first | refine normA s rfl ?_ | refine normR s rfl ?_ | skip
  (repeat' ((fail_if_success (first | with_reducible show wpAny _ _ (subscriptTail _ _ (Value.ref _) (Value.int _ _)) _ _ _ | with_reducible show wpAny _ _ (compareOp CmpOp.Eq (Value.ref _) (Value.ref _)) _ _ _ | with_reducible show wpR _ _ _ _ _ _ | with_reducible show wpAny _ _ (PySem.call (Value.builtin "list.append") [_, Value.bytes _ _] _) _ _ _ | with_reducible show wpAny _ _ (PySem.exec (Stmt.Assign _ (Expr.ListComp _ _ _ _) _) _) _ _ _ | with_reducible show wpAny _ _ (PySem.eval (Expr.ListComp _ _ _ _) _) _ _ _ | with_reducible show wpAny _ _ (PySem.setItem _ _ _) _ _ _ | with_reducible show KswEnd _ _ _ _ _ _ _ _ _ _ _ _ | with_reducible show wpAny _ _ (PySem.call (Value.type "bytes") _ _) _ _ _ | with_reducible show wpAny _ _ (PySem.call (Value.ref _) _ _) _ _ _ | with_reducible show wpAny _ _ (exec (Stmt.While _ _ _ _) _) _ _ _ | with_reducible show wpAny _ _ (pyIter _) _ _ _)); (first | ((with_reducible show wpAny _ _ _ _ _ _); (first | ((first | with_reducible show wpAny _ _ _ _ _ (PySem.Shared.mk _ _ _ (_ + _) _) | with_reducible show wpAny _ _ _ _ _ (PySem.Shared.mk _ _ _ (PySem.Shared.toks _) _)); (try dsimp only); refine normG s rfl ?_; intro tkN8; (try clear tkN9); rename Nat => tkN9) | ((with_reducible show wpAny _ _ (PySem.execs (_ :: _) _) _ _ _); dsimp only))) | (k_unfold; (try dsimp only)) | (k_end; wrow_close) | walk1 | (dsimp only; walk1) | (leave1; walk_say "STEP leave1"; try dsimp only) | fail "no step")))
  have e1 : rb = b := bInts_inj (hrb.trans ((swap_one hSw).trans hb.symm))
  subst e1
  refine append_K (by k_asm) (by k_asm) (by k_upd) ?_ (by rw [sizeLine_eq]; exact Nat.le_of_ble_eq_true rfl)
  intro h8 F8 N8
  (repeat' ((fail_if_success (first | with_reducible show wpAny _ _ (subscriptTail _ _ (Value.ref _) (Value.int _ _)) _ _ _ | with_reducible show wpAny _ _ (compareOp CmpOp.Eq (Value.ref _) (Value.ref _)) _ _ _ | with_reducible show wpR _ _ _ _ _ _ | with_reducible show wpAny _ _ (PySem.call (Value.builtin "list.append") [_, Value.bytes _ _] _) _ _ _ | with_reducible show wpAny _ _ (PySem.exec (Stmt.Assign _ (Expr.ListComp _ _ _ _) _) _) _ _ _ | with_reducible show wpAny _ _ (PySem.eval (Expr.ListComp _ _ _ _) _) _ _ _ | with_reducible show wpAny _ _ (PySem.setItem _ _ _) _ _ _ | with_reducible show KswEnd _ _ _ _ _ _ _ _ _ _ _ _ | with_reducible show wpAny _ _ (PySem.call (Value.type "bytes") _ _) _ _ _ | with_reducible show wpAny _ _ (PySem.call (Value.ref _) _ _) _ _ _ | with_reducible show wpAny _ _ (exec (Stmt.While _ _ _ _) _) _ _ _ | with_reducible show wpAny _ _ (pyIter _) _ _ _)); (first | ((with_reducible show wpAny _ _ _ _ _ _); (first | ((first | with_reducible show wpAny _ _ _ _ _ (PySem.Shared.mk _ _ _ (_ + _) _) | with_reducible show wpAny _ _ _ _ _ (PySem.Shared.mk _ _ _ (PySem.Shared.toks _) _)); (try dsimp only); refine normG s rfl ?_; intro tkN8; (try clear tkN9); rename Nat => tkN9) | ((with_reducible show wpAny _ _ (PySem.execs (_ :: _) _) _ _ _); dsimp only))) | (k_unfold; (try dsimp only)) | (k_end; wrow_close) | walk1 | (dsimp only; walk1) | (leave1; walk_say "STEP leave1"; try dsimp only) | fail "no step")))
  refine wpR_any ?_
  (repeat' (first | ((with_reducible show wpAny _ _ _ _ _ _); (first | ((first | with_reducible show wpAny _ _ _ _ _ (PySem.Shared.mk _ _ _ (_ + _) _) | with_reducible show wpAny _ _ _ _ _ (PySem.Shared.mk _ _ _ (PySem.Shared.toks _) _)); (try dsimp only); refine normG s rfl ?_; intro tkN8; (try clear tkN9); rename Nat => tkN9) | ((with_reducible show wpAny _ _ (PySem.execs (_ :: _) _) _ _ _); dsimp only))) | (k_unfold; (try dsimp only)) | (k_end; kc_close) | walk1 | (dsimp only; walk1) | (leave1; walk_say "STEP leave1"; try dsimp only) | fail "no step"))
  refine wpR_any ?_
  (repeat' (first | ((with_reducible show wpAny _ _ _ _ _ _); (first | ((first | with_reducible show wpAny _ _ _ _ _ (PySem.Shared.mk _ _ _ (_ + _) _) | with_reducible show wpAny _ _ _ _ _ (PySem.Shared.mk _ _ _ (PySem.Shared.toks _) _)); (try dsimp only); refine normG s rfl ?_; intro tkN8; (try clear tkN9); rename Nat => tkN9) | ((with_reducible show wpAny _ _ (PySem.execs (_ :: _) _) _ _ _); dsimp only))) | (k_unfold; (try dsimp only)) | (k_end; kc_close) | walk1 | (dsimp only; walk1) | (leave1; walk_say "STEP leave1"; try dsimp only) | fail "no step"))
  dsimp only [TurnPost]
  rename Fr _ _ _ _ => F8
  rename News _ _ _ _ => N8
  refine turn_l 2 hit2 F8 N8 (by k_mem) ?_ rfl ?_
  · (((try simp only [List.append_nil, List.nil_append, List.cons_append, List.append_assoc]); first   | (simp only [List.forall_mem_cons, List.not_mem_nil, false_implies, implies_true, and_true, true_and, ne_eq]; done)   | ((simp only [List.forall_mem_cons, List.not_mem_nil, false_implies, implies_true, and_true, true_and]); (repeat' apply And.intro) <;> first | trivial | assumption | exact Ne.symm (by assumption) | k_ne)))
  intro hi3 it3 hit3 F9 N9
  (repeat' ((fail_if_success (first | with_reducible show wpAny _ _ (subscriptTail _ _ (Value.ref _) (Value.int _ _)) _ _ _ | with_reducible show wpAny _ _ (compareOp CmpOp.Eq (Value.ref _) (Value.ref _)) _ _ _ | with_reducible show wpR _ _ _ _ _ _ | with_reducible show wpAny _ _ (PySem.call (Value.builtin "list.append") [_, Value.bytes _ _] _) _ _ _ | with_reducible show wpAny _ _ (PySem.exec (Stmt.Assign _ (Expr.ListComp _ _ _ _) _) _) _ _ _ | with_reducible show wpAny _ _ (PySem.eval (Expr.ListComp _ _ _ _) _) _ _ _ | with_reducible show wpAny _ _ (PySem.setItem _ _ _) _ _ _ | with_reducible show KswEnd _ _ _ _ _ _ _ _ _ _ _ _ | with_reducible show wpAny _ _ (PySem.call (Value.type "bytes") _ _) _ _ _ | with_reducible show wpAny _ _ (PySem.call (Value.ref _) _ _) _ _ _ | with_reducible show wpAny _ _ (exec (Stmt.While _ _ _ _) _) _ _ _ | with_reducible show wpAny _ _ (pyIter _) _ _ _)); (first | ((with_reducible show wpAny _ _ _ _ _ _); (first | ((first | with_reducible show wpAny _ _ _ _ _ (PySem.Shared.mk _ _ _ (_ + _) _) | with_reducible show wpAny _ _ _ _ _ (PySem.Shared.mk _ _ _ (PySem.Shared.toks _) _)); (try dsimp only); refine normG s rfl ?_; intro tkN8; (try clear tkN9); rename Nat => tkN9) | ((with_reducible show wpAny _ _ (PySem.execs (_ :: _) _) _ _ _); dsimp only))) | (k_unfold; (try dsimp only)) | (k_end; wrow_close) | walk1 | (dsimp only; walk1) | (leave1; walk_say "STEP leave1"; try dsimp only) | fail "no step")))
  refine execs_R (Try_R (execs_R (Expr_R (Method1_R ?_))))
  (repeat' ((fail_if_success (first | with_reducible show wpAny _ _ (subscriptTail _ _ (Value.ref _) (Value.int _ _)) _ _ _ | with_reducible show wpAny _ _ (compareOp CmpOp.Eq (Value.ref _) (Value.ref _)) _ _ _ | with_reducible show wpR _ _ _ _ _ _ | with_reducible show wpAny _ _ (PySem.call (Value.builtin "list.append") [_, Value.bytes _ _] _) _ _ _ | with_reducible show wpAny _ _ (PySem.exec (Stmt.Assign _ (Expr.ListComp _ _ _ _) _) _) _ _ _ | with_reducible show wpAny _ _ (PySem.eval (Expr.ListComp _ _ _ _) _) _ _ _ | with_reducible show wpAny _ _ (PySem.setItem _ _ _) _ _ _ | with_reducible show KswEnd _ _ _ _ _ _ _ _ _ _ _ _ | with_reducible show wpAny _ _ (PySem.call (Value.type "bytes") _ _) _ _ _ | with_reducible show wpAny _ _ (PySem.call (Value.ref _) _ _) _ _ _ | with_reducible show wpAny _ _ (exec (Stmt.While _ _ _ _) _) _ _ _ | with_reducible show wpAny _ _ (pyIter _) _ _ _)); (first | ((with_reducible show wpAny _ _ _ _ _ _); (first | ((first | with_reducible show wpAny _ _ _ _ _ (PySem.Shared.mk _ _ _ (_ + _) _) | with_reducible show wpAny _ _ _ _ _ (PySem.Shared.mk _ _ _ (PySem.Shared.toks _) _)); (try dsimp only); refine normG s rfl ?_; intro tkN8; (try clear tkN9); rename Nat => tkN9) | ((with_reducible show wpAny _ _ (PySem.execs (_ :: _) _) _ _ _); dsimp only))) | (k_unfold; (try dsimp only)) | (k_end; wrow_close) | walk1 | (dsimp only; walk1) | (leave1; walk_say "STEP leave1"; try dsimp only) | fail "no step")))
  refine call_def_R (K := hq.heap_1_39 w.params) ?_
  (repeat' ((fail_if_success (first | with_reducible show wpAny _ _ (subscriptTail _ _ (Value.ref _) (Value.int _ _)) _ _ _ | with_reducible show wpAny _ _ (compareOp CmpOp.Eq (Value.ref _) (Value.ref _)) _ _ _ | with_reducible show wpR _ _ _ _ _ _ | with_reducible show wpAny _ _ (PySem.call (Value.builtin "list.append") [_, Value.bytes _ _] _) _ _ _ | with_reducible show wpAny _ _ (PySem.exec (Stmt.Assign _ (Expr.ListComp _ _ _ _) _) _) _ _ _ | with_reducible show wpAny _ _ (PySem.eval (Expr.ListComp _ _ _ _) _) _ _ _ | with_reducible show wpAny _ _ (PySem.setItem _ _ _) _ _ _ | with_reducible show KswEnd _ _ _ _ _ _ _ _ _ _ _ _ | with_reducible show wpAny _ _ (PySem.call (Value.type "bytes") _ _) _ _ _ | with_reducible show wpAny _ _ (PySem.call (Value.ref _) _ _) _ _ _ | with_reducible show wpAny _ _ (exec (Stmt.While _ _ _ _) _) _ _ _ | with_reducible show wpAny _ _ (pyIter _) _ _ _)); (first | ((with_reducible show wpAny _ _ _ _ _ _); (first | ((first | with_reducible show wpAny _ _ _ _ _ (PySem.Shared.mk _ _ _ (_ + _) _) | with_reducible show wpAny _ _ _ _ _ (PySem.Shared.mk _ _ _ (PySem.Shared.toks _) _)); (try dsimp only); refine normG s rfl ?_; intro tkN8; (try clear tkN9); rename Nat => tkN9) | ((with_reducible show wpAny _ _ (PySem.execs (_ :: _) _) _ _ _); dsimp only))) | (k_unfold; (try dsimp only)) | (k_end; wrow_close) | walk1 | (dsimp only; walk1) | (leave1; walk_say "STEP leave1"; try dsimp only) | fail "no step")))
  refine wpR_call ?_
  k_dflt (refine' defSR ?k1 ?k2 ?k3 ?k4 ?k5 ?XB ?TB ?D ?T0 ?kA ?k6 ?k7 ?k8 ?k9 ?kB ?_ ?cK ?c2 ?c3 ?c4 ?c5; (((case kA => exact rfl); (case k2 => k_asm); (case k1 => k_asm); (case XB => assumption); (case TB => assumption); (case D => assumption); (case T0 => first | assumption | exact KtsTurn.refl); (case k3 => k_asm); (case k4 => k_asm); (case k5 => k_asm); (case k6 => k_is); (case k7 => k_is); (case k8 => k_room); (case k9 => first | exact binds_K (by k_in) rfl (by k_is) rfl rfl rfl | exact BindsTo.of_eq rfl); (case kB => exact locs rfl); (case cK => exact rfl); (case c2 => exact rfl); (case c3 => exact rfl); (case c4 => exact rfl); (case c5 => decide))))
  intro g2 L2 h2 FG2 F7 N7 B2 X2 T2 D2
  (try dsimp only)
  (try k_lift B2)
  (try k_fold)
  refine hideRP (by first | passes_own | with_unfolding_all passes_own) ?_
  intro QE2 EE2 hQE2 hEE2 hPE2
  refine execs_R (assign_R (Call_R ?_) ?_)
  rotate_left
  · rfl
  (repeat' ((fail_if_success (first | with_reducible show wpAny _ _ (subscriptTail _ _ (Value.ref _) (Value.int _ _)) _ _ _ | with_reducible show wpAny _ _ (compareOp CmpOp.Eq (Value.ref _) (Value.ref _)) _ _ _ | with_reducible show wpR _ _ _ _ _ _ | with_reducible show wpAny _ _ (PySem.call (Value.builtin "list.append") [_, Value.bytes _ _] _) _ _ _ | with_reducible show wpAny _ _ (PySem.exec (Stmt.Assign _ (Expr.ListComp _ _ _ _) _) _) _ _ _ | with_reducible show wpAny _ _ (PySem.eval (Expr.ListComp _ _ _ _) _) _ _ _ | with_reducible show wpAny _ _ (PySem.setItem _ _ _) _ _ _ | with_reducible show KswEnd _ _ _ _ _ _ _ _ _ _ _ _ | with_reducible show wpAny _ _ (PySem.call (Value.type "bytes") _ _) _ _ _ | with_reducible show wpAny _ _ (PySem.call (Value.ref _) _ _) _ _ _ | with_reducible show wpAny _ _ (exec (Stmt.While _ _ _ _) _) _ _ _ | with_reducible show wpAny _ _ (pyIter _) _ _ _)); (first | ((with_reducible show wpAny _ _ _ _ _ _); (first | ((first | with_reducible show wpAny _ _ _ _ _ (PySem.Shared.mk _ _ _ (_ + _) _) | with_reducible show wpAny _ _ _ _ _ (PySem.Shared.mk _ _ _ (PySem.Shared.toks _) _)); (try dsimp only); refine normG s rfl ?_; intro tkN8; (try clear tkN9); rename Nat => tkN9) | ((with_reducible show wpAny _ _ (PySem.execs (_ :: _) _) _ _ _); dsimp only))) | (k_unfold; (try dsimp only)) | (k_end; wrow_close) | walk1 | (dsimp only; walk1) | (leave1; walk_say "STEP leave1"; try dsimp only) | fail "no step")))
  refine callWith_type_R1 ?_
  (repeat' ((fail_if_success (first | with_reducible show wpAny _ _ (subscriptTail _ _ (Value.ref _) (Value.int _ _)) _ _ _ | with_reducible show wpAny _ _ (compareOp CmpOp.Eq (Value.ref _) (Value.ref _)) _ _ _ | with_reducible show wpR _ _ _ _ _ _ | with_reducible show wpAny _ _ (PySem.call (Value.builtin "list.append") [_, Value.bytes _ _] _) _ _ _ | with_reducible show wpAny _ _ (PySem.exec (Stmt.Assign _ (Expr.ListComp _ _ _ _) _) _) _ _ _ | with_reducible show wpAny _ _ (PySem.eval (Expr.ListComp _ _ _ _) _) _ _ _ | with_reducible show wpAny _ _ (PySem.setItem _ _ _) _ _ _ | with_reducible show KswEnd _ _ _ _ _ _ _ _ _ _ _ _ | with_reducible show wpAny _ _ (PySem.call (Value.type "bytes") _ _) _ _ _ | with_reducible show wpAny _ _ (PySem.call (Value.ref _) _ _) _ _ _ | with_reducible show wpAny _ _ (exec (Stmt.While _ _ _ _) _) _ _ _ | with_reducible show wpAny _ _ (pyIter _) _ _ _)); (first | ((with_reducible show wpAny _ _ _ _ _ _); (first | ((first | with_reducible show wpAny _ _ _ _ _ (PySem.Shared.mk _ _ _ (_ + _) _) | with_reducible show wpAny _ _ _ _ _ (PySem.Shared.mk _ _ _ (PySem.Shared.toks _) _)); (try dsimp only); refine normG s rfl ?_; intro tkN8; (try clear tkN9); rename Nat => tkN9) | ((with_reducible show wpAny _ _ (PySem.execs (_ :: _) _) _ _ _); dsimp only))) | (k_unfold; (try dsimp only)) | (k_end; wrow_close) | walk1 | (dsimp only; walk1) | (leave1; walk_say "STEP leave1"; try dsimp only) | fail "no step")))
  refine ba_make_K (by k_asm) (by k_asm) hpos (by omega) ?_
  intro D h2 F2 N2 l2
  k_lt l2
  dsimp only
  (repeat' ((fail_if_success (first | with_reducible show wpAny _ _ (subscriptTail _ _ (Value.ref _) (Value.int _ _)) _ _ _ | with_reducible show wpAny _ _ (compareOp CmpOp.Eq (Value.ref _) (Value.ref _)) _ _ _ | with_reducible show wpR _ _ _ _ _ _ | with_reducible show wpAny _ _ (PySem.call (Value.builtin "list.append") [_, Value.bytes _ _] _) _ _ _ | with_reducible show wpAny _ _ (PySem.exec (Stmt.Assign _ (Expr.ListComp _ _ _ _) _) _) _ _ _ | with_reducible show wpAny _ _ (PySem.eval (Expr.ListComp _ _ _ _) _) _ _ _ | with_reducible show wpAny _ _ (PySem.setItem _ _ _) _ _ _ | with_reducible show KswEnd _ _ _ _ _ _ _ _ _ _ _ _ | with_reducible show wpAny _ _ (PySem.call (Value.type "bytes") _ _) _ _ _ | with_reducible show wpAny _ _ (PySem.call (Value.ref _) _ _) _ _ _ | with_reducible show wpAny _ _ (exec (Stmt.While _ _ _ _) _) _ _ _ | with_reducible show wpAny _ _ (pyIter _) _ _ _)); (first | ((with_reducible show wpAny _ _ _ _ _ _); (first | ((first | with_reducible show wpAny _ _ _ _ _ (PySem.Shared.mk _ _ _ (_ + _) _) | with_reducible show wpAny _ _ _ _ _ (PySem.Shared.mk _ _ _ (PySem.Shared.toks _) _)); (try dsimp only); refine normG s rfl ?_; intro tkN8; (try clear tkN9); rename Nat => tkN9) | ((with_reducible show wpAny _ _ (PySem.execs (_ :: _) _) _ _ _); dsimp only))) | (k_unfold; (try dsimp only)) | (k_end; wrow_close) | walk1 | (dsimp only; walk1) | (leave1; walk_say "STEP leave1"; try dsimp only) | fail "no step")))
  refine wpR_any ?_
  (repeat' ((fail_if_success (first | with_reducible show wpAny _ _ (subscriptTail _ _ (Value.ref _) (Value.int _ _)) _ _ _ | with_reducible show wpAny _ _ (compareOp CmpOp.Eq (Value.ref _) (Value.ref _)) _ _ _ | with_reducible show wpR _ _ _ _ _ _ | with_reducible show wpAny _ _ (PySem.call (Value.builtin "list.append") [_, Value.bytes _ _] _) _ _ _ | with_reducible show wpAny _ _ (PySem.exec (Stmt.Assign _ (Expr.ListComp _ _ _ _) _) _) _ _ _ | with_reducible show wpAny _ _ (PySem.eval (Expr.ListComp _ _ _ _) _) _ _ _ | with_reducible show wpAny _ _ (PySem.setItem _ _ _) _ _ _ | with_reducible show KswEnd _ _ _ _ _ _ _ _ _ _ _ _ | with_reducible show wpAny _ _ (PySem.call (Value.type "bytes") _ _) _ _ _ | with_reducible show wpAny _ _ (PySem.call (Value.ref _) _ _) _ _ _ | with_reducible show wpAny _ _ (exec (Stmt.While _ _ _ _) _) _ _ _ | with_reducible show wpAny _ _ (pyIter _) _ _ _)); (first | ((with_reducible show wpAny _ _ _ _ _ _); (first | ((first | with_reducible show wpAny _ _ _ _ _ (PySem.Shared.mk _ _ _ (_ + _) _) | with_reducible show wpAny _ _ _ _ _ (PySem.Shared.mk _ _ _ (PySem.Shared.toks _) _)); (try dsimp only); refine normG s rfl ?_; intro tkN8; (try clear tkN9); rename Nat => tkN9) | ((with_reducible show wpAny _ _ (PySem.execs (_ :: _) _) _ _ _); dsimp only))) | (k_unfold; (try dsimp only)) | (k_end; wrow_close) | walk1 | (dsimp only; walk1) | (leave1; walk_say "STEP leave1"; try dsimp only) | fail "no step")))
  rename IsRange _ _ _ _ _ _ _ _ => hR1
  rename Fr _ _ _ _ => F5
  rename News _ _ _ _ => N5
  have hsz : Builtin.Range.rangeSize 0 (ks.length : Int) 7 = ((2 : Nat) : Int) := by
    unfold Builtin.Range.rangeSize
    rw [if_pos (by omega), if_pos (by omega)]
    omega
  first | (refine normG s rfl ?_; intro tkR9) | (refine normH s rfl ?_; intro tkR9) | skip
  refine rng_loop (σ := Array UInt8) (n := 2) (fun c => [(D, baOf c), (I, it3), (_, listOf _ _), (_, listOf _ _), (Dr, listOf itr.toArray nr), (100, tabObj #[]), (95, tabObj #[])]) (fun _ => []) [Str.ofString "j"] (fun i => 7 * (i : Int))
    (fun i c => c.size = ks.length ∧ i < 2) (Array.replicate ks.length 0) (by intro i; omega) rfl hR1 (rs_small (by omega) (by omega) (by omega) (by omega) (by omega) (by omega)) hsz F5 N5 (by kst_all) ?_ ?_ ?_
  · simp
  · rintro I4 it4 i c t4 u4 h4 tk4 hi ⟨hP, _⟩ hne F N
    clear hR1 F5 N5
    dsimp only [envOf] at F N
    refine hideQ ?_
    intro Q4 hQ4
    simp only [List.forall_mem_cons, List.not_mem_nil, false_implies, implies_true, and_true, true_and] at hne
    obtain ⟨hn1, hn2, hn3, hn4, hn5, hn6, hn7⟩ := hne
    have qn1 : @Ne Nat _ _ := hn1
    have qn2 : @Ne Nat _ _ := hn2
    have qn3 : @Ne Nat _ _ := hn3
    have qn4 : @Ne Nat _ _ := hn4
    have qn5 : @Ne Nat _ _ := hn5
    have qn6 : @Ne Nat _ _ := hn6
    have qn7 : @Ne Nat _ _ := hn7
    (repeat' ((fail_if_success (first | with_reducible show wpAny _ _ (subscriptTail _ _ (Value.ref _) (Value.int _ _)) _ _ _ | with_reducible show wpAny _ _ (compareOp CmpOp.Eq (Value.ref _) (Value.ref _)) _ _ _ | with_reducible show wpR _ _ _ _ _ _ | with_reducible show wpAny _ _ (PySem.call (Value.builtin "list.append") [_, Value.bytes _ _] _) _ _ _ | with_reducible show wpAny _ _ (PySem.exec (Stmt.Assign _ (Expr.ListComp _ _ _ _) _) _) _ _ _ | with_reducible show wpAny _ _ (PySem.eval (Expr.ListComp _ _ _ _) _) _ _ _ | with_reducible show wpAny _ _ (PySem.setItem _ _ _) _ _ _ | with_reducible show KswEnd _ _ _ _ _ _ _ _ _ _ _ _ | with_reducible show wpAny _ _ (PySem.call (Value.type "bytes") _ _) _ _ _ | with_reducible show wpAny _ _ (PySem.call (Value.ref _) _ _) _ _ _ | with_reducible show wpAny _ _ (exec (Stmt.While _ _ _ _) _) _ _ _ | with_reducible show wpAny _ _ (pyIter _) _ _ _)); (first | ((with_reducible show wpAny _ _ _ _ _ _); (first | ((first | with_reducible show wpAny _ _ _ _ _ (PySem.Shared.mk _ _ _ (_ + _) _) | with_reducible show wpAny _ _ _ _ _ (PySem.Shared.mk _ _ _ (PySem.Shared.toks _) _)); (try dsimp only); refine normG s rfl ?_; intro tkN8; (try clear tkN9); rename Nat => tkN9) | ((with_reducible show wpAny _ _ (PySem.execs (_ :: _) _) _ _ _); dsimp only))) | (k_unfold; (try dsimp only)) | (k_end; wrow_close) | walk1 | (dsimp only; walk1) | (leave1; walk_say "STEP leave1"; try dsimp only) | fail "no step")))
    rename IsRange _ _ _ _ _ _ _ _ => hR2
    rename Fr _ _ _ _ => F6
    rename News _ _ _ _ => N6
    rcases (show i = 0 ∨ i = 1 by omega) with rfl | rfl
    · first | (refine normG s rfl ?_; intro tkR9) | (refine normH s rfl ?_; intro tkR9) | skip
      refine rng_loop (σ := Array UInt8) (n := 7) (fun c => [(I4, it4), (D, baOf c), (I, it3), (_, listOf _ _), (_, listOf _ _), (Dr, listOf itr.toArray nr), (100, tabObj #[]), (95, tabObj #[])]) (fun _ => []) [] (fun j => (j : Int))
        (fun j c => c.size = ks.length) c (by intro i; omega) rfl hR2 (rs_small (by omega) (by omega) (by omega) (by omega) (by omega) (by omega)) (rs_one 7) F6 N6 (by kst_all) hP ?_ ?_
      · rintro I5 it5 j c2 t5 u5 h5 tk5 hj hP2 hne F N
        clear hR2 F6 N6
        dsimp only [envOf] at F N
        refine hideQ ?_
        intro Q5 hQ5
        simp only [List.forall_mem_cons, List.not_mem_nil, false_implies, implies_true, and_true, true_and] at hne
        obtain ⟨hm0, hm1, hm2, hm3, hm4, hm5, hm6, hm7⟩ := hne
        have qm0 : @Ne Nat _ _ := hm0
        have qm1 : @Ne Nat _ _ := hm1
        have qm2 : @Ne Nat _ _ := hm2
        have qm3 : @Ne Nat _ _ := hm3
        have qm4 : @Ne Nat _ _ := hm4
        have qm5 : @Ne Nat _ _ := hm5
        have qm6 : @Ne Nat _ _ := hm6
        have qm7 : @Ne Nat _ _ := hm7
        replace hP2 : c2.size = ks.length := hP2
        (repeat' ((fail_if_success (first | with_reducible show wpAny _ _ (subscriptTail _ _ (Value.ref _) (Value.int _ _)) _ _ _ | with_reducible show wpAny _ _ (compareOp CmpOp.Eq (Value.ref _) (Value.ref _)) _ _ _ | with_reducible show wpR _ _ _ _ _ _ | with_reducible show wpAny _ _ (PySem.call (Value.builtin "list.append") [_, Value.bytes _ _] _) _ _ _ | with_reducible show wpAny _ _ (PySem.exec (Stmt.Assign _ (Expr.ListComp _ _ _ _) _) _) _ _ _ | with_reducible show wpAny _ _ (PySem.eval (Expr.ListComp _ _ _ _) _) _ _ _ | with_reducible show wpAny _ _ (PySem.setItem _ _ _) _ _ _ | with_reducible show KswEnd _ _ _ _ _ _ _ _ _ _ _ _ | with_reducible show wpAny _ _ (PySem.call (Value.type "bytes") _ _) _ _ _ | with_reducible show wpAny _ _ (PySem.call (Value.ref _) _ _) _ _ _ | with_reducible show wpAny _ _ (exec (Stmt.While _ _ _ _) _) _ _ _ | with_reducible show wpAny _ _ (pyIter _) _ _ _)); (first | ((with_reducible show wpAny _ _ _ _ _ _); (first | ((first | with_reducible show wpAny _ _ _ _ _ (PySem.Shared.mk _ _ _ (_ + _) _) | with_reducible show wpAny _ _ _ _ _ (PySem.Shared.mk _ _ _ (PySem.Shared.toks _) _)); (try dsimp only); refine normG s rfl ?_; intro tkN8; (try clear tkN9); rename Nat => tkN9) | ((with_reducible show wpAny _ _ (PySem.execs (_ :: _) _) _ _ _); dsimp only))) | (k_unfold; (try dsimp only)) | (k_end; wrow_close) | walk1 | (dsimp only; walk1) | (leave1; walk_say "STEP leave1"; try dsimp only) | fail "no step")))
        refine ba_set_K (by k_asm) (by k_asm) (by k_upd) (by omega) (by omega) (by omega) (by assumption) (by assumption) ?_
        intro h8 F8 N8
        dsimp only
        (repeat' ((fail_if_success (first | with_reducible show wpAny _ _ (subscriptTail _ _ (Value.ref _) (Value.int _ _)) _ _ _ | with_reducible show wpAny _ _ (compareOp CmpOp.Eq (Value.ref _) (Value.ref _)) _ _ _ | with_reducible show wpR _ _ _ _ _ _ | with_reducible show wpAny _ _ (PySem.call (Value.builtin "list.append") [_, Value.bytes _ _] _) _ _ _ | with_reducible show wpAny _ _ (PySem.exec (Stmt.Assign _ (Expr.ListComp _ _ _ _) _) _) _ _ _ | with_reducible show wpAny _ _ (PySem.eval (Expr.ListComp _ _ _ _) _) _ _ _ | with_reducible show wpAny _ _ (PySem.setItem _ _ _) _ _ _ | with_reducible show KswEnd _ _ _ _ _ _ _ _ _ _ _ _ | with_reducible show wpAny _ _ (PySem.call (Value.type "bytes") _ _) _ _ _ | with_reducible show wpAny _ _ (PySem.call (Value.ref _) _ _) _ _ _ | with_reducible show wpAny _ _ (exec (Stmt.While _ _ _ _) _) _ _ _ | with_reducible show wpAny _ _ (pyIter _) _ _ _)); (first | ((with_reducible show wpAny _ _ _ _ _ _); (first | ((first | with_reducible show wpAny _ _ _ _ _ (PySem.Shared.mk _ _ _ (_ + _) _) | with_reducible show wpAny _ _ _ _ _ (PySem.Shared.mk _ _ _ (PySem.Shared.toks _) _)); (try dsimp only); refine normG s rfl ?_; intro tkN8; (try clear tkN9); rename Nat => tkN9) | ((with_reducible show wpAny _ _ (PySem.execs (_ :: _) _) _ _ _); dsimp only))) | (k_unfold; (try dsimp only)) | (k_end; wrow_close) | walk1 | (dsimp only; walk1) | (leave1; walk_say "STEP leave1"; try dsimp only) | fail "no step")))
        refine hQ5 _ _ ?_
        dsimp only [RngPost]
        refine rng_end (c2.setIfInBounds _ _) (by assumption) (by assumption) (by k_mem) (by (((try simp only [List.append_nil, List.nil_append, List.cons_append, List.append_assoc]); first | exact (fun p hp => hp) | (simp only [List.forall_mem_cons, List.not_mem_nil, false_implies, implies_true, and_true, true_and]; (repeat' apply And.intro) <;> first | trivial | k_mem) | (simp; done)))) (by (((try simp only [List.append_nil, List.nil_append, List.cons_append, List.append_assoc]); first   | (simp only [List.forall_mem_cons, List.not_mem_nil, false_implies, implies_true, and_true, true_and, ne_eq]; done)   | ((simp only [List.forall_mem_cons, List.not_mem_nil, false_implies, implies_true, and_true, true_and]); (repeat' apply And.intro) <;> first | trivial | assumption | exact Ne.symm (by assumption) | k_ne)))) (by kst_all) (by ((intro z h1 h2 h3; (simp only [List.forall_mem_cons, List.not_mem_nil, false_implies, implies_true, and_true, ne_eq] at h2); (simp only [List.contains_cons, List.contains_nil, Bool.or_false, Bool.or_eq_false_iff, beq_eq_false_iff_ne, ne_eq] at h3); (simp [kstB, h1, h2, h3]; done)))) ?_
        simpa using hP2
      · rintro c2 u5 h5 tk5 hP2 F N
        clear hR2 F6 N6
        dsimp only [envOf] at F N
        (repeat' ((fail_if_success (first | with_reducible show wpAny _ _ (subscriptTail _ _ (Value.ref _) (Value.int _ _)) _ _ _ | with_reducible show wpAny _ _ (compareOp CmpOp.Eq (Value.ref _) (Value.ref _)) _ _ _ | with_reducible show wpR _ _ _ _ _ _ | with_reducible show wpAny _ _ (PySem.call (Value.builtin "list.append") [_, Value.bytes _ _] _) _ _ _ | with_reducible show wpAny _ _ (PySem.exec (Stmt.Assign _ (Expr.ListComp _ _ _ _) _) _) _ _ _ | with_reducible show wpAny _ _ (PySem.eval (Expr.ListComp _ _ _ _) _) _ _ _ | with_reducible show wpAny _ _ (PySem.setItem _ _ _) _ _ _ | with_reducible show KswEnd _ _ _ _ _ _ _ _ _ _ _ _ | with_reducible show wpAny _ _ (PySem.call (Value.type "bytes") _ _) _ _ _ | with_reducible show wpAny _ _ (PySem.call (Value.ref _) _ _) _ _ _ | with_reducible show wpAny _ _ (exec (Stmt.While _ _ _ _) _) _ _ _ | with_reducible show wpAny _ _ (pyIter _) _ _ _)); (first | ((with_reducible show wpAny _ _ _ _ _ _); (first | ((first | with_reducible show wpAny _ _ _ _ _ (PySem.Shared.mk _ _ _ (_ + _) _) | with_reducible show wpAny _ _ _ _ _ (PySem.Shared.mk _ _ _ (PySem.Shared.toks _) _)); (try dsimp only); refine normG s rfl ?_; intro tkN8; (try clear tkN9); rename Nat => tkN9) | ((with_reducible show wpAny _ _ (PySem.execs (_ :: _) _) _ _ _); dsimp only))) | (k_unfold; (try dsimp only)) | (k_end; wrow_close) | walk1 | (dsimp only; walk1) | (leave1; walk_say "STEP leave1"; try dsimp only) | fail "no step")))
        refine hQ4 _ _ ?_
        dsimp only [RngPost]
        refine rng_end c2 (by assumption) (by assumption) (by k_mem) (by (((try simp only [List.append_nil, List.nil_append, List.cons_append, List.append_assoc]); first | exact (fun p hp => hp) | (simp only [List.forall_mem_cons, List.not_mem_nil, false_implies, implies_true, and_true, true_and]; (repeat' apply And.intro) <;> first | trivial | k_mem) | (simp; done)))) (by (((try simp only [List.append_nil, List.nil_append, List.cons_append, List.append_assoc]); first   | (simp only [List.forall_mem_cons, List.not_mem_nil, false_implies, implies_true, and_true, true_and, ne_eq]; done)   | ((simp only [List.forall_mem_cons, List.not_mem_nil, false_implies, implies_true, and_true, true_and]); (repeat' apply And.intro) <;> first | trivial | assumption | exact Ne.symm (by assumption) | k_ne)))) (by kst_all) (by ((intro z h1 h2 h3; (simp only [List.forall_mem_cons, List.not_mem_nil, false_implies, implies_true, and_true, ne_eq] at h2); (simp only [List.contains_cons, List.contains_nil, Bool.or_false, Bool.or_eq_false_iff, beq_eq_false_iff_ne, ne_eq] at h3); (simp [kstB, h1, h2, h3]; done)))) ?_
        exact ⟨hP2, by omega⟩
    · first | (refine normG s rfl ?_; intro tkR9) | (refine normH s rfl ?_; intro tkR9) | skip
      refine rng_loop (σ := Array UInt8) (n := 7) (fun c => [(I4, it4), (D, baOf c), (I, it3), (_, listOf _ _), (_, listOf _ _), (Dr, listOf itr.toArray nr), (100, tabObj #[]), (95, tabObj #[])]) (fun _ => []) [] (fun j => (j : Int))
        (fun j c => c.size = ks.length ∧ j = 0) c (by intro i; omega) rfl hR2 (rs_small (by omega) (by omega) (by omega) (by omega) (by omega) (by omega)) (rs_one 7) F6 N6 (by kst_all) ⟨hP, rfl⟩ ?_ ?_
      · rintro I5 it5 j c2 t5 u5 h5 tk5 hj ⟨hP2, rfl⟩ hne F N
        clear hR2 F6 N6
        dsimp only [envOf] at F N
        refine hideQ ?_
        intro Q6 hQ6
        simp only [List.forall_mem_cons, List.not_mem_nil, false_implies, implies_true, and_true, true_and] at hne
        obtain ⟨hm0, hm1, hm2, hm3, hm4, hm5, hm6, hm7⟩ := hne
        have qm0 : @Ne Nat _ _ := hm0
        have qm1 : @Ne Nat _ _ := hm1
        have qm2 : @Ne Nat _ _ := hm2
        have qm3 : @Ne Nat _ _ := hm3
        have qm4 : @Ne Nat _ _ := hm4
        have qm5 : @Ne Nat _ _ := hm5
        have qm6 : @Ne Nat _ _ := hm6
        have qm7 : @Ne Nat _ _ := hm7
        replace hP2 : c2.size = ks.length := hP2
        (repeat' ((fail_if_success (first | with_reducible show wpAny _ _ (subscriptTail _ _ (Value.ref _) (Value.int _ _)) _ _ _ | with_reducible show wpAny _ _ (compareOp CmpOp.Eq (Value.ref _) (Value.ref _)) _ _ _ | with_reducible show wpR _ _ _ _ _ _ | with_reducible show wpAny _ _ (PySem.call (Value.builtin "list.append") [_, Value.bytes _ _] _) _ _ _ | with_reducible show wpAny _ _ (PySem.exec (Stmt.Assign _ (Expr.ListComp _ _ _ _) _) _) _ _ _ | with_reducible show wpAny _ _ (PySem.eval (Expr.ListComp _ _ _ _) _) _ _ _ | with_reducible show wpAny _ _ (PySem.setItem _ _ _) _ _ _ | with_reducible show KswEnd _ _ _ _ _ _ _ _ _ _ _ _ | with_reducible show wpAny _ _ (PySem.call (Value.type "bytes") _ _) _ _ _ | with_reducible show wpAny _ _ (PySem.call (Value.ref _) _ _) _ _ _ | with_reducible show wpAny _ _ (exec (Stmt.While _ _ _ _) _) _ _ _ | with_reducible show wpAny _ _ (pyIter _) _ _ _)); (first | ((with_reducible show wpAny _ _ _ _ _ _); (first | ((first | with_reducible show wpAny _ _ _ _ _ (PySem.Shared.mk _ _ _ (_ + _) _) | with_reducible show wpAny _ _ _ _ _ (PySem.Shared.mk _ _ _ (PySem.Shared.toks _) _)); (try dsimp only); refine normG s rfl ?_; intro tkN8; (try clear tkN9); rename Nat => tkN9) | ((with_reducible show wpAny _ _ (PySem.execs (_ :: _) _) _ _ _); dsimp only))) | (k_unfold; (try dsimp only)) | (k_end; wrow_close) | walk1 | (dsimp only; walk1) | (leave1; walk_say "STEP leave1"; try dsimp only) | fail "no step")))
        refine ba_set_out rfl (by k_asm) (by k_asm) (by k_mem) (by omega) (by omega) (by assumption) (by assumption) ?_
        intro h9 tk9 e9 hx9
        refine hEE2 _ _ ?_
        dsimp only at hx9 ⊢
        (repeat' (first | ((with_reducible show wpAny _ _ _ _ _ _); (first | ((first | with_reducible show wpAny _ _ _ _ _ (PySem.Shared.mk _ _ _ (_ + _) _) | with_reducible show wpAny _ _ _ _ _ (PySem.Shared.mk _ _ _ (PySem.Shared.toks _) _)); (try dsimp only); refine normG s rfl ?_; intro tkN8; (try clear tkN9); rename Nat => tkN9) | ((with_reducible show wpAny _ _ (PySem.execs (_ :: _) _) _ _ _); dsimp only))) | (k_unfold; (try dsimp only)) | (k_end; kc_close) | walk1 | (dsimp only; walk1) | (leave1; walk_say "STEP leave1"; try dsimp only) | fail "no step"))
        dsimp only
        refine wpR_any ?_
        (repeat' (first | ((with_reducible show wpAny _ _ _ _ _ _); (first | ((first | with_reducible show wpAny _ _ _ _ _ (PySem.Shared.mk _ _ _ (_ + _) _) | with_reducible show wpAny _ _ _ _ _ (PySem.Shared.mk _ _ _ (PySem.Shared.toks _) _)); (try dsimp only); refine normG s rfl ?_; intro tkN8; (try clear tkN9); rename Nat => tkN9) | ((with_reducible show wpAny _ _ (PySem.execs (_ :: _) _) _ _ _); dsimp only))) | (k_unfold; (try dsimp only)) | (k_end; kc_close) | walk1 | (dsimp only; walk1) | (leave1; walk_say "STEP leave1"; try dsimp only) | fail "no step"))
        dsimp only [TurnPost]
        clear hm0 hm1 hm2 hm3 hm4 hm5 hm6 hm7
        rename Fr _ _ _ _ => F5
        rename News _ _ _ _ => N5
        replace N5 := News.drop1 (News.drop1 (News.drop1 N5))
        refine turn_l 3 hit3 F5 N5 (by k_mem) ?_ rfl ?_
        · (((try simp only [List.append_nil, List.nil_append, List.cons_append, List.append_assoc]); first   | (simp only [List.forall_mem_cons, List.not_mem_nil, false_implies, implies_true, and_true, true_and, ne_eq]; done)   | ((simp only [List.forall_mem_cons, List.not_mem_nil, false_implies, implies_true, and_true, true_and]); (repeat' apply And.intro) <;> first | trivial | assumption | exact Ne.symm (by assumption) | k_ne)))
        intro hi4 it4 hit4 F6 N6
        (repeat' ((fail_if_success (first | with_reducible show wpAny _ _ (subscriptTail _ _ (Value.ref _) (Value.int _ _)) _ _ _ | with_reducible show wpAny _ _ (compareOp CmpOp.Eq (Value.ref _) (Value.ref _)) _ _ _ | with_reducible show wpR _ _ _ _ _ _ | with_reducible show wpAny _ _ (PySem.call (Value.builtin "list.append") [_, Value.bytes _ _] _) _ _ _ | with_reducible show wpAny _ _ (PySem.exec (Stmt.Assign _ (Expr.ListComp _ _ _ _) _) _) _ _ _ | with_reducible show wpAny _ _ (PySem.eval (Expr.ListComp _ _ _ _) _) _ _ _ | with_reducible show wpAny _ _ (PySem.setItem _ _ _) _ _ _ | with_reducible show KswEnd _ _ _ _ _ _ _ _ _ _ _ _ | with_reducible show wpAny _ _ (PySem.call (Value.type "bytes") _ _) _ _ _ | with_reducible show wpAny _ _ (PySem.call (Value.ref _) _ _) _ _ _ | with_reducible show wpAny _ _ (exec (Stmt.While _ _ _ _) _) _ _ _ | with_reducible show wpAny _ _ (pyIter _) _ _ _)); (first | ((with_reducible show wpAny _ _ _ _ _ _); (first | ((first | with_reducible show wpAny _ _ _ _ _ (PySem.Shared.mk _ _ _ (_ + _) _) | with_reducible show wpAny _ _ _ _ _ (PySem.Shared.mk _ _ _ (PySem.Shared.toks _) _)); (try dsimp only); refine normG s rfl ?_; intro tkN8; (try clear tkN9); rename Nat => tkN9) | ((with_reducible show wpAny _ _ (PySem.execs (_ :: _) _) _ _ _); dsimp only))) | (k_unfold; (try dsimp only)) | (k_end; wrow_close) | walk1 | (dsimp only; walk1) | (leave1; walk_say "STEP leave1"; try dsimp only) | fail "no step")))
        refine execs_R (Try_R (execs_R (Expr_R (Method1_R ?_))))
        (repeat' ((fail_if_success (first | with_reducible show wpAny _ _ (subscriptTail _ _ (Value.ref _) (Value.int _ _)) _ _ _ | with_reducible show wpAny _ _ (compareOp CmpOp.Eq (Value.ref _) (Value.ref _)) _ _ _ | with_reducible show wpR _ _ _ _ _ _ | with_reducible show wpAny _ _ (PySem.call (Value.builtin "list.append") [_, Value.bytes _ _] _) _ _ _ | with_reducible show wpAny _ _ (PySem.exec (Stmt.Assign _ (Expr.ListComp _ _ _ _) _) _) _ _ _ | with_reducible show wpAny _ _ (PySem.eval (Expr.ListComp _ _ _ _) _) _ _ _ | with_reducible show wpAny _ _ (PySem.setItem _ _ _) _ _ _ | with_reducible show KswEnd _ _ _ _ _ _ _ _ _ _ _ _ | with_reducible show wpAny _ _ (PySem.call (Value.type "bytes") _ _) _ _ _ | with_reducible show wpAny _ _ (PySem.call (Value.ref _) _ _) _ _ _ | with_reducible show wpAny _ _ (exec (Stmt.While _ _ _ _) _) _ _ _ | with_reducible show wpAny _ _ (pyIter _) _ _ _)); (first | ((with_reducible show wpAny _ _ _ _ _ _); (first | ((first | with_reducible show wpAny _ _ _ _ _ (PySem.Shared.mk _ _ _ (_ + _) _) | with_reducible show wpAny _ _ _ _ _ (PySem.Shared.mk _ _ _ (PySem.Shared.toks _) _)); (try dsimp only); refine normG s rfl ?_; intro tkN8; (try clear tkN9); rename Nat => tkN9) | ((with_reducible show wpAny _ _ (PySem.execs (_ :: _) _) _ _ _); dsimp only))) | (k_unfold; (try dsimp only)) | (k_end; wrow_close) | walk1 | (dsimp only; walk1) | (leave1; walk_say "STEP leave1"; try dsimp only) | fail "no step")))
        refine call_def_R (K := hq.heap_1_39 w.params) ?_
        (repeat' ((fail_if_success (first | with_reducible show wpAny _ _ (subscriptTail _ _ (Value.ref _) (Value.int _ _)) _ _ _ | with_reducible show wpAny _ _ (compareOp CmpOp.Eq (Value.ref _) (Value.ref _)) _ _ _ | with_reducible show wpR _ _ _ _ _ _ | with_reducible show wpAny _ _ (PySem.call (Value.builtin "list.append") [_, Value.bytes _ _] _) _ _ _ | with_reducible show wpAny _ _ (PySem.exec (Stmt.Assign _ (Expr.ListComp _ _ _ _) _) _) _ _ _ | with_reducible show wpAny _ _ (PySem.eval (Expr.ListComp _ _ _ _) _) _ _ _ | with_reducible show wpAny _ _ (PySem.setItem _ _ _) _ _ _ | with_reducible show KswEnd _ _ _ _ _ _ _ _ _ _ _ _ | with_reducible show wpAny _ _ (PySem.call (Value.type "bytes") _ _) _ _ _ | with_reducible show wpAny _ _ (PySem.call (Value.ref _) _ _) _ _ _ | with_reducible show wpAny _ _ (exec (Stmt.While _ _ _ _) _) _ _ _ | with_reducible show wpAny _ _ (pyIter _) _ _ _)); (first | ((with_reducible show wpAny _ _ _ _ _ _); (first | ((first | with_reducible show wpAny _ _ _ _ _ (PySem.Shared.mk _ _ _ (_ + _) _) | with_reducible show wpAny _ _ _ _ _ (PySem.Shared.mk _ _ _ (PySem.Shared.toks _) _)); (try dsimp only); refine normG s rfl ?_; intro tkN8; (try clear tkN9); rename Nat => tkN9) | ((with_reducible show wpAny _ _ (PySem.execs (_ :: _) _) _ _ _); dsimp only))) | (k_unfold; (try dsimp only)) | (k_end; wrow_close) | walk1 | (dsimp only; walk1) | (leave1; walk_say "STEP leave1"; try dsimp only) | fail "no step")))
        refine hideR ?_
        intro QC2 hQC2
        k_dflt (refine' use0R (swap_c w mean mg mb rb ks hb 1 ks.length (by omega) (by omega) (by omega) _ _ (by omega) (by omega)) ?k1 ?k2 ?k3 ?k4 ?k5 ?k6 ?k9 ?k10 ?_; (((case k1 => k_asm); (case k2 => k_asm); (case k3 => k_asm); (case k4 => k_asm); (case k5 => k_asm); (case k6 => exact rfl); (case k9 => first | exact room1 (by assumption) (by decide) | ktr_room); (case k10 => first | exact units1 (by assumption) (by decide) | ktr_units))))
        rintro r h7 tk7 ⟨rb2, rs2, tr2, rfl, hrb2, hSw2⟩ F7 N7
        refine hQC2 _ _ ?_
        clear hQC2
        first | refine normA s rfl ?_ | refine normR s rfl ?_ | skip
        rw [swap_all hSw2] at hrb2
        (repeat' ((fail_if_success (first | with_reducible show wpAny _ _ (subscriptTail _ _ (Value.ref _) (Value.int _ _)) _ _ _ | with_reducible show wpAny _ _ (compareOp CmpOp.Eq (Value.ref _) (Value.ref _)) _ _ _ | with_reducible show wpR _ _ _ _ _ _ | with_reducible show wpAny _ _ (PySem.call (Value.builtin "list.append") [_, Value.bytes _ _] _) _ _ _ | with_reducible show wpAny _ _ (PySem.exec (Stmt.Assign _ (Expr.ListComp _ _ _ _) _) _) _ _ _ | with_reducible show wpAny _ _ (PySem.eval (Expr.ListComp _ _ _ _) _) _ _ _ | with_reducible show wpAny _ _ (PySem.setItem _ _ _) _ _ _ | with_reducible show KswEnd _ _ _ _ _ _ _ _ _ _ _ _ | with_reducible show wpAny _ _ (PySem.call (Value.type "bytes") _ _) _ _ _ | with_reducible show wpAny _ _ (PySem.call (Value.ref _) _ _) _ _ _ | with_reducible show wpAny _ _ (exec (Stmt.While _ _ _ _) _) _ _ _ | with_reducible show wpAny _ _ (pyIter _) _ _ _)); (first | ((with_reducible show wpAny _ _ _ _ _ _); (first | ((first | with_reducible show wpAny _ _ _ _ _ (PySem.Shared.mk _ _ _ (_ + _) _) | with_reducible show wpAny _ _ _ _ _ (PySem.Shared.mk _ _ _ (PySem.Shared.toks _) _)); (try dsimp only); refine normG s rfl ?_; intro tkN8; (try clear tkN9); rename Nat => tkN9) | ((with_reducible show wpAny _ _ (PySem.execs (_ :: _) _) _ _ _); dsimp only))) | (k_unfold; (try dsimp only)) | (k_end; wrow_close) | walk1 | (dsimp only; walk1) | (leave1; walk_say "STEP leave1"; try dsimp only) | fail "no step")))
        refine append_K (by k_asm) (by k_asm) (by k_upd) ?_ (by rw [sizeLine_eq]; exact Nat.le_of_ble_eq_true rfl)
        intro h8 F8 N8
        (repeat' ((fail_if_success (first | with_reducible show wpAny _ _ (subscriptTail _ _ (Value.ref _) (Value.int _ _)) _ _ _ | with_reducible show wpAny _ _ (compareOp CmpOp.Eq (Value.ref _) (Value.ref _)) _ _ _ | with_reducible show wpR _ _ _ _ _ _ | with_reducible show wpAny _ _ (PySem.call (Value.builtin "list.append") [_, Value.bytes _ _] _) _ _ _ | with_reducible show wpAny _ _ (PySem.exec (Stmt.Assign _ (Expr.ListComp _ _ _ _) _) _) _ _ _ | with_reducible show wpAny _ _ (PySem.eval (Expr.ListComp _ _ _ _) _) _ _ _ | with_reducible show wpAny _ _ (PySem.setItem _ _ _) _ _ _ | with_reducible show KswEnd _ _ _ _ _ _ _ _ _ _ _ _ | with_reducible show wpAny _ _ (PySem.call (Value.type "bytes") _ _) _ _ _ | with_reducible show wpAny _ _ (PySem.call (Value.ref _) _ _) _ _ _ | with_reducible show wpAny _ _ (exec (Stmt.While _ _ _ _) _) _ _ _ | with_reducible show wpAny _ _ (pyIter _) _ _ _)); (first | ((with_reducible show wpAny _ _ _ _ _ _); (first | ((first | with_reducible show wpAny _ _ _ _ _ (PySem.Shared.mk _ _ _ (_ + _) _) | with_reducible show wpAny _ _ _ _ _ (PySem.Shared.mk _ _ _ (PySem.Shared.toks _) _)); (try dsimp only); refine normG s rfl ?_; intro tkN8; (try clear tkN9); rename Nat => tkN9) | ((with_reducible show wpAny _ _ (PySem.execs (_ :: _) _) _ _ _); dsimp only))) | (k_unfold; (try dsimp only)) | (k_end; wrow_close) | walk1 | (dsimp only; walk1) | (leave1; walk_say "STEP leave1"; try dsimp only) | fail "no step")))
        refine wpR_any ?_
        (repeat' (first | ((with_reducible show wpAny _ _ _ _ _ _); (first | ((first | with_reducible show wpAny _ _ _ _ _ (PySem.Shared.mk _ _ _ (_ + _) _) | with_reducible show wpAny _ _ _ _ _ (PySem.Shared.mk _ _ _ (PySem.Shared.toks _) _)); (try dsimp only); refine normG s rfl ?_; intro tkN8; (try clear tkN9); rename Nat => tkN9) | ((with_reducible show wpAny _ _ (PySem.execs (_ :: _) _) _ _ _); dsimp only))) | (k_unfold; (try dsimp only)) | (k_end; kc_close) | walk1 | (dsimp only; walk1) | (leave1; walk_say "STEP leave1"; try dsimp only) | fail "no step"))
        refine wpR_any ?_
        (repeat' (first | ((with_reducible show wpAny _ _ _ _ _ _); (first | ((first | with_reducible show wpAny _ _ _ _ _ (PySem.Shared.mk _ _ _ (_ + _) _) | with_reducible show wpAny _ _ _ _ _ (PySem.Shared.mk _ _ _ (PySem.Shared.toks _) _)); (try dsimp only); refine normG s rfl ?_; intro tkN8; (try clear tkN9); rename Nat => tkN9) | ((with_reducible show wpAny _ _ (PySem.execs (_ :: _) _) _ _ _); dsimp only))) | (k_unfold; (try dsimp only)) | (k_end; kc_close) | walk1 | (dsimp only; walk1) | (leave1; walk_say "STEP leave1"; try dsimp only) | fail "no step"))
        dsimp only [TurnPost]
        rename Fr _ _ _ _ => F8
        rename News _ _ _ _ => N8
        refine done_l 4 rfl hit4 F8 N8 (by k_mem) ?_ rfl ?_
        · (((try simp only [List.append_nil, List.nil_append, List.cons_append, List.append_assoc]); first   | (simp only [List.forall_mem_cons, List.not_mem_nil, false_implies, implies_true, and_true, true_and, ne_eq]; done)   | ((simp only [List.forall_mem_cons, List.not_mem_nil, false_implies, implies_true, and_true, true_and]); (repeat' apply And.intro) <;> first | trivial | assumption | exact Ne.symm (by assumption) | k_ne)))
        intro h11 F11 N11
        refine wpR_any ?_
        (repeat' (first | ((with_reducible show wpAny _ _ _ _ _ _); (first | ((first | with_reducible show wpAny _ _ _ _ _ (PySem.Shared.mk _ _ _ (_ + _) _) | with_reducible show wpAny _ _ _ _ _ (PySem.Shared.mk _ _ _ (PySem.Shared.toks _) _)); (try dsimp only); refine normG s rfl ?_; intro tkN8; (try clear tkN9); rename Nat => tkN9) | ((with_reducible show wpAny _ _ (PySem.execs (_ :: _) _) _ _ _); dsimp only))) | (k_unfold; (try dsimp only)) | (k_end; kc_close) | walk1 | (dsimp only; walk1) | (leave1; walk_say "STEP leave1"; try dsimp only) | fail "no step"))
        rename Fr _ _ _ _ => F12
        rename News _ _ _ _ => N12
        refine rev_K (s := ⟨_, _, _, _, _⟩) F12 N12 hb (by omega) ?_
        intro h13 t13 k13 F13 N13 hrv
        have e2 : rvb rb = rb2 := bInts_inj (hrv.trans hrb2.symm)
        rw [e2]
        (repeat' ((fail_if_success (first | with_reducible show wpAny _ _ (subscriptTail _ _ (Value.ref _) (Value.int _ _)) _ _ _ | with_reducible show wpAny _ _ (compareOp CmpOp.Eq (Value.ref _) (Value.ref _)) _ _ _ | with_reducible show wpR _ _ _ _ _ _ | with_reducible show wpAny _ _ (PySem.call (Value.builtin "list.append") [_, Value.bytes _ _] _) _ _ _ | with_reducible show wpAny _ _ (PySem.exec (Stmt.Assign _ (Expr.ListComp _ _ _ _) _) _) _ _ _ | with_reducible show wpAny _ _ (PySem.eval (Expr.ListComp _ _ _ _) _) _ _ _ | with_reducible show wpAny _ _ (PySem.setItem _ _ _) _ _ _ | with_reducible show KswEnd _ _ _ _ _ _ _ _ _ _ _ _ | with_reducible show wpAny _ _ (PySem.call (Value.type "bytes") _ _) _ _ _ | with_reducible show wpAny _ _ (PySem.call (Value.ref _) _ _) _ _ _ | with_reducible show wpAny _ _ (exec (Stmt.While _ _ _ _) _) _ _ _ | with_reducible show wpAny _ _ (pyIter _) _ _ _)); (first | ((with_reducible show wpAny _ _ _ _ _ _); (first | ((first | with_reducible show wpAny _ _ _ _ _ (PySem.Shared.mk _ _ _ (_ + _) _) | with_reducible show wpAny _ _ _ _ _ (PySem.Shared.mk _ _ _ (PySem.Shared.toks _) _)); (try dsimp only); refine normG s rfl ?_; intro tkN8; (try clear tkN9); rename Nat => tkN9) | ((with_reducible show wpAny _ _ (PySem.execs (_ :: _) _) _ _ _); dsimp only))) | (k_unfold; (try dsimp only)) | (k_end; wrow_close) | walk1 | (dsimp only; walk1) | (leave1; walk_say "STEP leave1"; try dsimp only) | fail "no step")))
        rename News _ _ _ _ => N14
        k_dflt (refine' eq_push4 N14 ?kq1 ?kq2 ?kq3 (eqAt_str _ _ _) (eqAt_bytes _ _ _) (eqAt_str _ _ _) (eqAt_bytes _ _ _) ?_; (case kq1 => k_mem); (case kq2 => k_mem); (case kq3 => k_units))
        simp only [List.push_toArray, List.nil_append, List.cons_append] at N14
        (repeat' ((fail_if_success (first | with_reducible show wpAny _ _ (subscriptTail _ _ (Value.ref _) (Value.int _ _)) _ _ _ | with_reducible show wpAny _ _ (compareOp CmpOp.Eq (Value.ref _) (Value.ref _)) _ _ _ | with_reducible show wpR _ _ _ _ _ _ | with_reducible show wpAny _ _ (PySem.call (Value.builtin "list.append") [_, Value.bytes _ _] _) _ _ _ | with_reducible show wpAny _ _ (PySem.exec (Stmt.Assign _ (Expr.ListComp _ _ _ _) _) _) _ _ _ | with_reducible show wpAny _ _ (PySem.eval (Expr.ListComp _ _ _ _) _) _ _ _ | with_reducible show wpAny _ _ (PySem.setItem _ _ _) _ _ _ | with_reducible show KswEnd _ _ _ _ _ _ _ _ _ _ _ _ | with_reducible show wpAny _ _ (PySem.call (Value.type "bytes") _ _) _ _ _ | with_reducible show wpAny _ _ (PySem.call (Value.ref _) _ _) _ _ _ | with_reducible show wpAny _ _ (exec (Stmt.While _ _ _ _) _) _ _ _ | with_reducible show wpAny _ _ (pyIter _) _ _ _)); (first | ((with_reducible show wpAny _ _ _ _ _ _); (first | ((first | with_reducible show wpAny _ _ _ _ _ (PySem.Shared.mk _ _ _ (_ + _) _) | with_reducible show wpAny _ _ _ _ _ (PySem.Shared.mk _ _ _ (PySem.Shared.toks _) _)); (try dsimp only); refine normG s rfl ?_; intro tkN8; (try clear tkN9); rename Nat => tkN9) | ((with_reducible show wpAny _ _ (PySem.execs (_ :: _) _) _ _ _); dsimp only))) | (k_unfold; (try dsimp only)) | (k_end; wrow_close) | walk1 | (dsimp only; walk1) | (leave1; walk_say "STEP leave1"; try dsimp only) | fail "no step")))
        refine item_made4 N14 (by k_mem) (by decide) (by decide) rfl ?_
        (repeat' ((fail_if_success (first | with_reducible show wpAny _ _ (subscriptTail _ _ (Value.ref _) (Value.int _ _)) _ _ _ | with_reducible show wpAny _ _ (compareOp CmpOp.Eq (Value.ref _) (Value.ref _)) _ _ _ | with_reducible show wpR _ _ _ _ _ _ | with_reducible show wpAny _ _ (PySem.call (Value.builtin "list.append") [_, Value.bytes _ _] _) _ _ _ | with_reducible show wpAny _ _ (PySem.exec (Stmt.Assign _ (Expr.ListComp _ _ _ _) _) _) _ _ _ | with_reducible show wpAny _ _ (PySem.eval (Expr.ListComp _ _ _ _) _) _ _ _ | with_reducible show wpAny _ _ (PySem.setItem _ _ _) _ _ _ | with_reducible show KswEnd _ _ _ _ _ _ _ _ _ _ _ _ | with_reducible show wpAny _ _ (PySem.call (Value.type "bytes") _ _) _ _ _ | with_reducible show wpAny _ _ (PySem.call (Value.ref _) _ _) _ _ _ | with_reducible show wpAny _ _ (exec (Stmt.While _ _ _ _) _) _ _ _ | with_reducible show wpAny _ _ (pyIter _) _ _ _)); (first | ((with_reducible show wpAny _ _ _ _ _ _); (first | ((first | with_reducible show wpAny _ _ _ _ _ (PySem.Shared.mk _ _ _ (_ + _) _) | with_reducible show wpAny _ _ _ _ _ (PySem.Shared.mk _ _ _ (PySem.Shared.toks _) _)); (try dsimp only); refine normG s rfl ?_; intro tkN8; (try clear tkN9); rename Nat => tkN9) | ((with_reducible show wpAny _ _ (PySem.execs (_ :: _) _) _ _ _); dsimp only))) | (k_unfold; (try dsimp only)) | (k_end; wrow_close) | walk1 | (dsimp only; walk1) | (leave1; walk_say "STEP leave1"; try dsimp only) | fail "no step")))
        refine item_made4 N14 (by k_mem) (by decide) (by decide) rfl ?_
        (repeat' ((fail_if_success (first | with_reducible show wpAny _ _ (subscriptTail _ _ (Value.ref _) (Value.int _ _)) _ _ _ | with_reducible show wpAny _ _ (compareOp CmpOp.Eq (Value.ref _) (Value.ref _)) _ _ _ | with_reducible show wpR _ _ _ _ _ _ | with_reducible show wpAny _ _ (PySem.call (Value.builtin "list.append") [_, Value.bytes _ _] _) _ _ _ | with_reducible show wpAny _ _ (PySem.exec (Stmt.Assign _ (Expr.ListComp _ _ _ _) _) _) _ _ _ | with_reducible show wpAny _ _ (PySem.eval (Expr.ListComp _ _ _ _) _) _ _ _ | with_reducible show wpAny _ _ (PySem.setItem _ _ _) _ _ _ | with_reducible show KswEnd _ _ _ _ _ _ _ _ _ _ _ _ | with_reducible show wpAny _ _ (PySem.call (Value.type "bytes") _ _) _ _ _ | with_reducible show wpAny _ _ (PySem.call (Value.ref _) _ _) _ _ _ | with_reducible show wpAny _ _ (exec (Stmt.While _ _ _ _) _) _ _ _ | with_reducible show wpAny _ _ (pyIter _) _ _ _)); (first | ((with_reducible show wpAny _ _ _ _ _ _); (first | ((first | with_reducible show wpAny _ _ _ _ _ (PySem.Shared.mk _ _ _ (_ + _) _) | with_reducible show wpAny _ _ _ _ _ (PySem.Shared.mk _ _ _ (PySem.Shared.toks _) _)); (try dsimp only); refine normG s rfl ?_; intro tkN8; (try clear tkN9); rename Nat => tkN9) | ((with_reducible show wpAny _ _ (PySem.execs (_ :: _) _) _ _ _); dsimp only))) | (k_unfold; (try dsimp only)) | (k_end; wrow_close) | walk1 | (dsimp only; walk1) | (leave1; walk_say "STEP leave1"; try dsimp only) | fail "no step")))
        rename Fr _ _ _ _ => F20
        rename News _ _ _ _ => N20
        exact ret _ _ F20 (News.sub N20 (by (((try simp only [List.append_nil, List.nil_append, List.cons_append, List.append_assoc]); first | exact (fun p hp => hp) | (simp only [List.forall_mem_cons, List.not_mem_nil, false_implies, implies_true, and_true, true_and]; (repeat' apply And.intro) <;> first | trivial | k_mem) | (simp; done)))))
      · rintro c2 u5 h5 tk5 ⟨_, hbad⟩ F N
        exact absurd hbad (by omega)
  · rintro c u4 h4 tk4 ⟨_, hbad⟩ F N
    exact absurd hbad (by omega)
end Mine
end
section -- LR
open PySem PySem.W PySem.Calls PyProof.Rows
set_option maxRecDepth 100000
set_option linter.unusedVariables false
namespace Mine
section
variable {M : Model} {A : Around} {E : Value → Shared → Prop} {s : Shared} {env : Env}
theorem Return_R {e : Expr} {pos : Pos} {Q : Flow → Shared → Prop} (h : wpR M A (eval e env) (fun v s' => Q (.ret v) s') E s) :
    wpR M A (exec (.Return (some e) pos) env) Q E s := by
  rw [exec_Return_some]
  exact wpR_bindA (wpAny_standAt (wpR_bind (wpR_mono h (fun v s' h' => wpR_pure h') fun _ _ x => x)))
theorem And_R {x y : Expr} {pos : Pos} {Q : Value → Shared → Prop}
    (h : wpR M A (eval x env) (fun v s₁ => v = .bool true ∧ wpR M A (eval y env) Q E s₁) E s) :
    wpR M A (eval (.BoolOp .And [x, y] pos) env) Q E s := by
  show wpR M A (do
    let v ← eval x env
    standAt pos
    let c ← holding [v] (truthy v)
    match BoolOp.And, c with
    | .And, false | .Or, true => pure v
    | _, _ => boolOp pos .And [eval y env]) Q E s
  refine wpR_bind (wpR_mono h (fun v s₁ h₁ => ?_) fun _ _ x => x)
  obtain ⟨rfl, h₂⟩ := h₁
  exact wpR_bindA (wpAny_standAt (wpR_bindA (wpAny_holding (wpAny_truthy_bool h₂))))
theorem Not_R {x : Expr} {pos : Pos} {whole : Sem Value} {Q : Bool → Shared → Prop} (h : wpR M A (isTrue x env (eval x env)) (fun b s₁ => Q (!b) s₁) E s) :
    wpR M A (isTrue (.UnaryOp .Not x pos) env whole) Q E s := by
  rw [arm_isTrue_UnaryOp]
  exact wpR_bind (wpR_mono h (fun b s₁ h₁ => wpR_pure h₁) fun _ _ x => x)
theorem Truth_Call_R {f : Expr} {as : List Expr} {kws : List Keyword} {pos : Pos} {v : Sem Value} {Q : Bool → Shared → Prop} (h : wpR M A v (fun v s₁ => v = .bool true ∧ Q true s₁) E s) :
    wpR M A (isTrue (.Call f as kws pos) env v) Q E s := by
  show wpR M A (v >>= fun x => standAt _ >>= fun _ => holding [x] (truthy x)) Q E s
  refine wpR_bind (wpR_mono h (fun x s₁ h₁ => ?_) fun _ _ x => x)
  obtain ⟨rfl, h₂⟩ := h₁
  exact wpR_bindA (wpAny_standAt (wpR_any (wpAny_holding (wpAny_truthy_bool h₂))))
end
end Mine
end
local macro_rules | `(tactic| walk_at "callWith ref") => `(tactic| (k_here; k_dflt (refine' callWith_F ?k1 ?_; (case k1 => exact FnAt.of (by k_asm) (by k_mem)); k_whole)))
section -- B8
open PySem PySem.W PySem.Calls PyProof.Rows
set_option linter.unusedVariables false
set_option maxRecDepth 100000
set_option maxHeartbeats 8000000
namespace Mine
theorem bisR_d (w : World) (mean : ExcName → Option Value) (mg mb : Str → Option Value) (a : Addr) (its : List Value) (ns : List Int) (nn : Nat) (hI : IntsAre its ns) (hlen : ns.length < 1000) (x : Int) (t0 : Tok)
   (hs : ∀ i j : Nat, 0 ≤ (i : Int) → i < j → (j : Int) < (ns.length : Int) → (fun i : Nat => ns.getD i 0 ≤ x) j → (fun i : Nat => ns.getD i 0 ≤ x) i) :
   Claim w mean mg mb 2 39 [(a, listOf its.toArray nn)] [.ref a, .int x t0] [] (fun r own' => own' = [(a, listOf its.toArray nn)] ∧ ∃ k t, r = .int k t ∧ BisAt (fun i : Nat => ns.getD i 0 ≤ x) 0 (ns.length : Int) k) := by
  unfold Claim
  k_fill
  w_top off
  intro dp un gd cn cs ca ccd cl outer A₀ base h₀ L m rest s Q E hB hF hK hN hT hk hdis hdp hun hret
  k_dflt (refine' enter_own ?k1 ?k2 ?k3 ?k4 ?k5 ?kd ?kA ?kF ?kK ?k6 ?k7 ?k8 ?k9 ?kB ?kR ?_ ?c2 ?c3 ?c4 ?c5; (((case kA => exact rfl); (case kF => exact rfl); (case kK => assumption); (case k1 => k_asm); (case k2 => k_asm); (case k3 => k_asm); (case k4 => k_asm); (case k5 => k_asm); (case kd => assumption); (case k6 => k_is); (case k7 => k_is); (case k8 => first | exact room0 (by assumption) | ktr_room); (case k9 => first | exact BindsTo.of_eq rfl | exact kp_binds (by k_in) (fun _ => rfl) | (refine' kp_binds ?kx ?ke; (case kx => k_in); (case ke => exact fun _ => rfl))); (case c5 => decide); (case kB => exact locs rfl); (case c2 => exact rfl); (case c3 => exact rfl); (case c4 => exact rfl); (case kR => assumption))))
  intro g L' h' F' N' B' X' T' l'
  clear hret hB hF hK hN hT hdis
  replace F' : Fr g L' h' (fun y => List.lookup y [(Str.ofString "key", .none), (Str.ofString "hi", .none), (Str.ofString "lo", .int 0 _), (Str.ofString "x", .int x t0), (Str.ofString "a", .ref a)]) := F'
  try dsimp only
  refine hideA ?_
  intro Q0 hQ0
  try k_fold
  (repeat' ((fail_if_success (first | with_reducible show wpR _ _ _ _ _ _ | with_reducible show wpAny _ _ (PySem.call (Value.builtin "list.append") [_, Value.bytes _ _] _) _ _ _ | with_reducible show wpAny _ _ (PySem.exec (Stmt.Assign _ (Expr.ListComp _ _ _ _) _) _) _ _ _ | with_reducible show wpAny _ _ (PySem.eval (Expr.ListComp _ _ _ _) _) _ _ _ | with_reducible show wpAny _ _ (PySem.setItem _ _ _) _ _ _ | with_reducible show KswEnd _ _ _ _ _ _ _ _ _ _ _ _ | with_reducible show wpAny _ _ (PySem.call (Value.type "bytes") _ _) _ _ _ | with_reducible show wpAny _ _ (PySem.call (Value.ref _) _ _) _ _ _ | with_reducible show wpAny _ _ (exec (Stmt.While _ _ _ _) _) _ _ _ | with_reducible show wpAny _ _ (pyIter _) _ _ _)); (first | ((with_reducible show wpAny _ _ (PySem.execs (_ :: _) _) _ _ _); (first | ((first | with_reducible show wpAny _ _ _ _ _ (PySem.Shared.mk _ _ _ (_ + _) _) | with_reducible show wpAny _ _ _ _ _ (PySem.Shared.mk _ _ _ (PySem.Shared.toks _) _)); (try dsimp only); refine normG s rfl ?_; intro tkN8; (try clear tkN9); rename Nat => tkN9) | dsimp only)) | (k_unfold; (try dsimp only)) | (k_end; wrow_close) | walk1 | (dsimp only; walk1) | (leave1; walk_say "STEP leave1"; try dsimp only) | fail "no step")))
  refine ksw_while (σ := Int × Tok × Int × Tok) (fun _ => [(a, listOf its.toArray nn)]) (fun c => [(Str.ofString "lo", .int c.1 c.2.1), (Str.ofString "hi", .int c.2.2.1 c.2.2.2)]) (fun _ => True) [Str.ofString "mid"]
    (fun c => BisInv (fun i : Nat => ns.getD i 0 ≤ x) 0 (ns.length : Int) c.1 c.2.2.1) (fun c => (c.2.2.1 - c.1).toNat) (0, _, (ns.length : Int), _) (by k_asm) (by k_asm) trivial (by kst_all) (bis_start (by omega)) ?_
  · rintro ⟨lo', tl, hi', th⟩ u h tk _ hP F N
    dsimp only at hP F N ⊢
    have hbd := bis_bounds (Int.le_refl 0) hP
    obtain ⟨q1, q2, q3, _, _⟩ := id hP
    (repeat' ((fail_if_success (first | with_reducible show wpR _ _ _ _ _ _ | with_reducible show wpAny _ _ (PySem.call (Value.builtin "list.append") [_, Value.bytes _ _] _) _ _ _ | with_reducible show wpAny _ _ (PySem.exec (Stmt.Assign _ (Expr.ListComp _ _ _ _) _) _) _ _ _ | with_reducible show wpAny _ _ (PySem.eval (Expr.ListComp _ _ _ _) _) _ _ _ | with_reducible show wpAny _ _ (PySem.setItem _ _ _) _ _ _ | with_reducible show KswEnd _ _ _ _ _ _ _ _ _ _ _ _ | with_reducible show wpAny _ _ (PySem.call (Value.type "bytes") _ _) _ _ _ | with_reducible show wpAny _ _ (PySem.call (Value.ref _) _ _) _ _ _ | with_reducible show wpAny _ _ (exec (Stmt.While _ _ _ _) _) _ _ _ | with_reducible show wpAny _ _ (pyIter _) _ _ _)); (first | ((with_reducible show wpAny _ _ (PySem.execs (_ :: _) _) _ _ _); (first | ((first | with_reducible show wpAny _ _ _ _ _ (PySem.Shared.mk _ _ _ (_ + _) _) | with_reducible show wpAny _ _ _ _ _ (PySem.Shared.mk _ _ _ (PySem.Shared.toks _) _)); (try dsimp only); refine normG s rfl ?_; intro tkN8; (try clear tkN9); rename Nat => tkN9) | dsimp only)) | (k_unfold; (try dsimp only)) | (k_end; wrow_close) | walk1 | (dsimp only; walk1) | (leave1; walk_say "STEP leave1"; try dsimp only) | fail "no step")))
    · refine ksw_end (lo', tl, (lo' + hi').fdiv 2, _) (by assumption) (by assumption) (fun p hp => hp) trivial (by kst_all) (by ((intro z h2 h3; (simp only [List.forall_mem_cons, List.not_mem_nil, false_implies, implies_true, and_true, ne_eq] at h2); (simp only [List.contains_cons, List.contains_nil, Bool.or_false, Bool.or_eq_false_iff, beq_eq_false_iff_ne, ne_eq] at h3); (simp [kstB, h2, h3]; done)))) ?_ ?_
      · exact bis_hi (Int.le_refl 0) hs hP (by assumption) (by intro q; (try dsimp only at q); omega)
      · exact (bis_meas (by assumption)).1
    · refine ksw_end ((lo' + hi').fdiv 2 + 1, _, hi', th) (by assumption) (by assumption) (fun p hp => hp) trivial (by kst_all) (by ((intro z h2 h3; (simp only [List.forall_mem_cons, List.not_mem_nil, false_implies, implies_true, and_true, ne_eq] at h2); (simp only [List.contains_cons, List.contains_nil, Bool.or_false, Bool.or_eq_false_iff, beq_eq_false_iff_ne, ne_eq] at h3); (simp [kstB, h2, h3]; done)))) ?_ ?_
      · exact bis_lo (Int.le_refl 0) hs hP (by assumption) (by (try dsimp only); omega)
      · exact (bis_meas (by assumption)).2
    · refine hQ0 _ _ (Left.intro (by assumption) (by assumption) (fun p hp => hp) ⟨rfl, _, _, rfl, bis_end hP (by assumption)⟩)
theorem bisL_d (w : World) (mean : ExcName → Option Value) (mg mb : Str → Option Value) (a : Addr) (its : List Value) (ns : List Int) (nn : Nat) (hI : IntsAre its ns) (hlen : ns.length < 1000) (x : Int) (t0 : Tok)
   (hs : ∀ i j : Nat, 0 ≤ (i : Int) → i < j → (j : Int) < (ns.length : Int) → (fun i : Nat => ns.getD i 0 < x) j → (fun i : Nat => ns.getD i 0 < x) i) :
   Claim w mean mg mb 2 48 [(a, listOf its.toArray nn)] [.ref a, .int x t0] [] (fun r own' => own' = [(a, listOf its.toArray nn)] ∧ ∃ k t, r = .int k t ∧ BisAt (fun i : Nat => ns.getD i 0 < x) 0 (ns.length : Int) k) := by
  unfold Claim
  k_fill
  w_top off
  intro dp un gd cn cs ca ccd cl outer A₀ base h₀ L m rest s Q E hB hF hK hN hT hk hdis hdp hun hret
  k_dflt (refine' enter_own ?k1 ?k2 ?k3 ?k4 ?k5 ?kd ?kA ?kF ?kK ?k6 ?k7 ?k8 ?k9 ?kB ?kR ?_ ?c2 ?c3 ?c4 ?c5; (((case kA => exact rfl); (case kF => exact rfl); (case kK => assumption); (case k1 => k_asm); (case k2 => k_asm); (case k3 => k_asm); (case k4 => k_asm); (case k5 => k_asm); (case kd => assumption); (case k6 => k_is); (case k7 => k_is); (case k8 => first | exact room0 (by assumption) | ktr_room); (case k9 => first | exact BindsTo.of_eq rfl | exact kp_binds (by k_in) (fun _ => rfl) | (refine' kp_binds ?kx ?ke; (case kx => k_in); (case ke => exact fun _ => rfl))); (case c5 => decide); (case kB => exact locs rfl); (case c2 => exact rfl); (case c3 => exact rfl); (case c4 => exact rfl); (case kR => assumption))))
  intro g L' h' F' N' B' X' T' l'
  clear hret hB hF hK hN hT hdis
  replace F' : Fr g L' h' (fun y => List.lookup y [(Str.ofString "key", .none), (Str.ofString "hi", .none), (Str.ofString "lo", .int 0 _), (Str.ofString "x", .int x t0), (Str.ofString "a", .ref a)]) := F'
  try dsimp only
  refine hideA ?_
  intro Q0 hQ0
  try k_fold
  (repeat' ((fail_if_success (first | with_reducible show wpR _ _ _ _ _ _ | with_reducible show wpAny _ _ (PySem.call (Value.builtin "list.append") [_, Value.bytes _ _] _) _ _ _ | with_reducible show wpAny _ _ (PySem.exec (Stmt.Assign _ (Expr.ListComp _ _ _ _) _) _) _ _ _ | with_reducible show wpAny _ _ (PySem.eval (Expr.ListComp _ _ _ _) _) _ _ _ | with_reducible show wpAny _ _ (PySem.setItem _ _ _) _ _ _ | with_reducible show KswEnd _ _ _ _ _ _ _ _ _ _ _ _ | with_reducible show wpAny _ _ (PySem.call (Value.type "bytes") _ _) _ _ _ | with_reducible show wpAny _ _ (PySem.call (Value.ref _) _ _) _ _ _ | with_reducible show wpAny _ _ (exec (Stmt.While _ _ _ _) _) _ _ _ | with_reducible show wpAny _ _ (pyIter _) _ _ _)); (first | ((with_reducible show wpAny _ _ (PySem.execs (_ :: _) _) _ _ _); (first | ((first | with_reducible show wpAny _ _ _ _ _ (PySem.Shared.mk _ _ _ (_ + _) _) | with_reducible show wpAny _ _ _ _ _ (PySem.Shared.mk _ _ _ (PySem.Shared.toks _) _)); (try dsimp only); refine normG s rfl ?_; intro tkN8; (try clear tkN9); rename Nat => tkN9) | dsimp only)) | (k_unfold; (try dsimp only)) | (k_end; wrow_close) | walk1 | (dsimp only; walk1) | (leave1; walk_say "STEP leave1"; try dsimp only) | fail "no step")))
  refine ksw_while (σ := Int × Tok × Int × Tok) (fun _ => [(a, listOf its.toArray nn)]) (fun c => [(Str.ofString "lo", .int c.1 c.2.1), (Str.ofString "hi", .int c.2.2.1 c.2.2.2)]) (fun _ => True) [Str.ofString "mid"]
    (fun c => BisInv (fun i : Nat => ns.getD i 0 < x) 0 (ns.length : Int) c.1 c.2.2.1) (fun c => (c.2.2.1 - c.1).toNat) (0, _, (ns.length : Int), _) (by k_asm) (by k_asm) trivial (by kst_all) (bis_start (by omega)) ?_
  · rintro ⟨lo', tl, hi', th⟩ u h tk _ hP F N
    dsimp only at hP F N ⊢
    have hbd := bis_bounds (Int.le_refl 0) hP
    obtain ⟨q1, q2, q3, _, _⟩ := id hP
    (repeat' ((fail_if_success (first | with_reducible show wpR _ _ _ _ _ _ | with_reducible show wpAny _ _ (PySem.call (Value.builtin "list.append") [_, Value.bytes _ _] _) _ _ _ | with_reducible show wpAny _ _ (PySem.exec (Stmt.Assign _ (Expr.ListComp _ _ _ _) _) _) _ _ _ | with_reducible show wpAny _ _ (PySem.eval (Expr.ListComp _ _ _ _) _) _ _ _ | with_reducible show wpAny _ _ (PySem.setItem _ _ _) _ _ _ | with_reducible show KswEnd _ _ _ _ _ _ _ _ _ _ _ _ | with_reducible show wpAny _ _ (PySem.call (Value.type "bytes") _ _) _ _ _ | with_reducible show wpAny _ _ (PySem.call (Value.ref _) _ _) _ _ _ | with_reducible show wpAny _ _ (exec (Stmt.While _ _ _ _) _) _ _ _ | with_reducible show wpAny _ _ (pyIter _) _ _ _)); (first | ((with_reducible show wpAny _ _ (PySem.execs (_ :: _) _) _ _ _); (first | ((first | with_reducible show wpAny _ _ _ _ _ (PySem.Shared.mk _ _ _ (_ + _) _) | with_reducible show wpAny _ _ _ _ _ (PySem.Shared.mk _ _ _ (PySem.Shared.toks _) _)); (try dsimp only); refine normG s rfl ?_; intro tkN8; (try clear tkN9); rename Nat => tkN9) | dsimp only)) | (k_unfold; (try dsimp only)) | (k_end; wrow_close) | walk1 | (dsimp only; walk1) | (leave1; walk_say "STEP leave1"; try dsimp only) | fail "no step")))
    · refine ksw_end ((lo' + hi').fdiv 2 + 1, _, hi', th) (by assumption) (by assumption) (fun p hp => hp) trivial (by kst_all) (by ((intro z h2 h3; (simp only [List.forall_mem_cons, List.not_mem_nil, false_implies, implies_true, and_true, ne_eq] at h2); (simp only [List.contains_cons, List.contains_nil, Bool.or_false, Bool.or_eq_false_iff, beq_eq_false_iff_ne, ne_eq] at h3); (simp [kstB, h2, h3]; done)))) ?_ ?_
      · exact bis_lo (Int.le_refl 0) hs hP (by assumption) (by (try dsimp only); omega)
      · exact (bis_meas (by assumption)).2
    · refine ksw_end (lo', tl, (lo' + hi').fdiv 2, _) (by assumption) (by assumption) (fun p hp => hp) trivial (by kst_all) (by ((intro z h2 h3; (simp only [List.forall_mem_cons, List.not_mem_nil, false_implies, implies_true, and_true, ne_eq] at h2); (simp only [List.contains_cons, List.contains_nil, Bool.or_false, Bool.or_eq_false_iff, beq_eq_false_iff_ne, ne_eq] at h3); (simp [kstB, h2, h3]; done)))) ?_ ?_
      · exact bis_hi (Int.le_refl 0) hs hP (by assumption) (by intro q; (try dsimp only at q); omega)
      · exact (bis_meas (by assumption)).1
    · refine hQ0 _ _ (Left.intro (by assumption) (by assumption) (fun p hp => hp) ⟨rfl, _, _, rfl, bis_end hP (by assumption)⟩)
theorem bisR_b (w : World) (mean : ExcName → Option Value) (mg mb : Str → Option Value) (b : Array UInt8) (ks : List Int) (hb : KBw.bInts b = ks) (hlen : ks.length < 100) (x lo hi : Int) (tb t0 t1 t2 : Tok) (h0 : 0 ≤ lo) (h1 : lo ≤ hi) (h2 : hi ≤ ks.length)
   (hs : ∀ i j : Nat, lo ≤ (i : Int) → i < j → (j : Int) < hi → (fun i : Nat => ks.getD i 0 ≤ x) j → (fun i : Nat => ks.getD i 0 ≤ x) i) :
   Claim w mean mg mb 2 39 [] [.bytes b tb, .int x t0, .int lo t1, .int hi t2] [] (fun r own' => own' = [] ∧ ∃ k t, r = .int k t ∧ BisAt (fun i : Nat => ks.getD i 0 ≤ x) lo hi k) := by
  unfold Claim
  k_fill
  w_top off
  intro dp un gd cn cs ca ccd cl outer A₀ base h₀ L m rest s Q E hB hF hK hN hT hk hdis hdp hun hret
  k_dflt (refine' enter_own (binds := [(Str.ofString "a", .bytes b tb), (Str.ofString "x", .int x t0), (Str.ofString "lo", .int lo t1), (Str.ofString "hi", .int hi t2), (Str.ofString "key", .none)]) ?k1 ?k2 ?k3 ?k4 ?k5 ?kd ?kA ?kF ?kK ?k6 ?k7 ?k8 ?k9 ?kB ?kR ?_ ?c2 ?c3 ?c4 ?c5; (((case kA => exact rfl); (case kF => exact rfl); (case kK => assumption); (case k1 => k_asm); (case k2 => k_asm); (case k3 => k_asm); (case k4 => k_asm); (case k5 => k_asm); (case kd => assumption); (case k6 => k_is); (case k7 => k_is); (case k8 => first | exact room0 (by assumption) | ktr_room); (case k9 => first | exact BindsTo.of_eq rfl | exact kp_binds (by k_in) (fun _ => rfl) | (refine' kp_binds ?kx ?ke; (case kx => k_in); (case ke => exact fun _ => rfl))); (case c5 => decide); (case kB => exact locs rfl); (case c2 => exact rfl); (case c3 => exact rfl); (case c4 => exact rfl); (case kR => assumption))))
  intro g L' h' F' N' B' X' T' l'
  clear hret hB hF hK hN hT hdis
  try dsimp only
  refine hideA ?_
  intro Q0 hQ0
  try k_fold
  (repeat' ((fail_if_success (first | with_reducible show wpR _ _ _ _ _ _ | with_reducible show wpAny _ _ (PySem.call (Value.builtin "list.append") [_, Value.bytes _ _] _) _ _ _ | with_reducible show wpAny _ _ (PySem.exec (Stmt.Assign _ (Expr.ListComp _ _ _ _) _) _) _ _ _ | with_reducible show wpAny _ _ (PySem.eval (Expr.ListComp _ _ _ _) _) _ _ _ | with_reducible show wpAny _ _ (PySem.setItem _ _ _) _ _ _ | with_reducible show KswEnd _ _ _ _ _ _ _ _ _ _ _ _ | with_reducible show wpAny _ _ (PySem.call (Value.type "bytes") _ _) _ _ _ | with_reducible show wpAny _ _ (PySem.call (Value.ref _) _ _) _ _ _ | with_reducible show wpAny _ _ (exec (Stmt.While _ _ _ _) _) _ _ _ | with_reducible show wpAny _ _ (pyIter _) _ _ _)); (first | ((with_reducible show wpAny _ _ (PySem.execs (_ :: _) _) _ _ _); (first | ((first | with_reducible show wpAny _ _ _ _ _ (PySem.Shared.mk _ _ _ (_ + _) _) | with_reducible show wpAny _ _ _ _ _ (PySem.Shared.mk _ _ _ (PySem.Shared.toks _) _)); (try dsimp only); refine normG s rfl ?_; intro tkN8; (try clear tkN9); rename Nat => tkN9) | dsimp only)) | (k_unfold; (try dsimp only)) | (k_end; wrow_close) | walk1 | (dsimp only; walk1) | (leave1; walk_say "STEP leave1"; try dsimp only) | fail "no step")))
  refine ksw_while (σ := Int × Tok × Int × Tok) (fun _ => []) (fun c => [(Str.ofString "lo", .int c.1 c.2.1), (Str.ofString "hi", .int c.2.2.1 c.2.2.2)]) (fun _ => True) [Str.ofString "mid"]
    (fun c => BisInv (fun i : Nat => ks.getD i 0 ≤ x) lo hi c.1 c.2.2.1) (fun c => (c.2.2.1 - c.1).toNat) (lo, t1, hi, t2) (by k_asm) (by k_asm) trivial (by kst_all) (bis_start h1) ?_
  · rintro ⟨lo', tl, hi', th⟩ u h tk _ hP F N
    dsimp only at hP F N ⊢
    have hbd := bis_bounds h0 hP
    obtain ⟨q1, q2, q3, _, _⟩ := id hP
    (repeat' ((fail_if_success (first | with_reducible show wpR _ _ _ _ _ _ | with_reducible show wpAny _ _ (PySem.call (Value.builtin "list.append") [_, Value.bytes _ _] _) _ _ _ | with_reducible show wpAny _ _ (PySem.exec (Stmt.Assign _ (Expr.ListComp _ _ _ _) _) _) _ _ _ | with_reducible show wpAny _ _ (PySem.eval (Expr.ListComp _ _ _ _) _) _ _ _ | with_reducible show wpAny _ _ (PySem.setItem _ _ _) _ _ _ | with_reducible show KswEnd _ _ _ _ _ _ _ _ _ _ _ _ | with_reducible show wpAny _ _ (PySem.call (Value.type "bytes") _ _) _ _ _ | with_reducible show wpAny _ _ (PySem.call (Value.ref _) _ _) _ _ _ | with_reducible show wpAny _ _ (exec (Stmt.While _ _ _ _) _) _ _ _ | with_reducible show wpAny _ _ (pyIter _) _ _ _)); (first | ((with_reducible show wpAny _ _ (PySem.execs (_ :: _) _) _ _ _); (first | ((first | with_reducible show wpAny _ _ _ _ _ (PySem.Shared.mk _ _ _ (_ + _) _) | with_reducible show wpAny _ _ _ _ _ (PySem.Shared.mk _ _ _ (PySem.Shared.toks _) _)); (try dsimp only); refine normG s rfl ?_; intro tkN8; (try clear tkN9); rename Nat => tkN9) | dsimp only)) | (k_unfold; (try dsimp only)) | (k_end; wrow_close) | walk1 | (dsimp only; walk1) | (leave1; walk_say "STEP leave1"; try dsimp only) | fail "no step")))
    · refine ksw_end (lo', tl, (lo' + hi').fdiv 2, _) (by assumption) (by assumption) (fun p hp => hp) trivial (by kst_all) (by ((intro z h2 h3; (simp only [List.forall_mem_cons, List.not_mem_nil, false_implies, implies_true, and_true, ne_eq] at h2); (simp only [List.contains_cons, List.contains_nil, Bool.or_false, Bool.or_eq_false_iff, beq_eq_false_iff_ne, ne_eq] at h3); (simp [kstB, h2, h3]; done)))) ?_ ?_
      · exact bis_hi h0 hs hP (by assumption) (by intro q; (try dsimp only at q); omega)
      · exact (bis_meas (by assumption)).1
    · refine ksw_end ((lo' + hi').fdiv 2 + 1, _, hi', th) (by assumption) (by assumption) (fun p hp => hp) trivial (by kst_all) (by ((intro z h2 h3; (simp only [List.forall_mem_cons, List.not_mem_nil, false_implies, implies_true, and_true, ne_eq] at h2); (simp only [List.contains_cons, List.contains_nil, Bool.or_false, Bool.or_eq_false_iff, beq_eq_false_iff_ne, ne_eq] at h3); (simp [kstB, h2, h3]; done)))) ?_ ?_
      · exact bis_lo h0 hs hP (by assumption) (by (try dsimp only); omega)
      · exact (bis_meas (by assumption)).2
    · refine hQ0 _ _ (Left.intro (by assumption) (by assumption) (fun p hp => hp) ⟨rfl, _, _, rfl, bis_end hP (by assumption)⟩)
theorem bisL_b (w : World) (mean : ExcName → Option Value) (mg mb : Str → Option Value) (b : Array UInt8) (ks : List Int) (hb : KBw.bInts b = ks) (hlen : ks.length < 100) (x lo hi : Int) (tb t0 t1 t2 : Tok) (h0 : 0 ≤ lo) (h1 : lo ≤ hi) (h2 : hi ≤ ks.length)
   (hs : ∀ i j : Nat, lo ≤ (i : Int) → i < j → (j : Int) < hi → (fun i : Nat => ks.getD i 0 < x) j → (fun i : Nat => ks.getD i 0 < x) i) :
   Claim w mean mg mb 2 48 [] [.bytes b tb, .int x t0, .int lo t1, .int hi t2] [] (fun r own' => own' = [] ∧ ∃ k t, r = .int k t ∧ BisAt (fun i : Nat => ks.getD i 0 < x) lo hi k) := by
  unfold Claim
  k_fill
  w_top off
  intro dp un gd cn cs ca ccd cl outer A₀ base h₀ L m rest s Q E hB hF hK hN hT hk hdis hdp hun hret
  k_dflt (refine' enter_own (binds := [(Str.ofString "a", .bytes b tb), (Str.ofString "x", .int x t0), (Str.ofString "lo", .int lo t1), (Str.ofString "hi", .int hi t2), (Str.ofString "key", .none)]) ?k1 ?k2 ?k3 ?k4 ?k5 ?kd ?kA ?kF ?kK ?k6 ?k7 ?k8 ?k9 ?kB ?kR ?_ ?c2 ?c3 ?c4 ?c5; (((case kA => exact rfl); (case kF => exact rfl); (case kK => assumption); (case k1 => k_asm); (case k2 => k_asm); (case k3 => k_asm); (case k4 => k_asm); (case k5 => k_asm); (case kd => assumption); (case k6 => k_is); (case k7 => k_is); (case k8 => first | exact room0 (by assumption) | ktr_room); (case k9 => first | exact BindsTo.of_eq rfl | exact kp_binds (by k_in) (fun _ => rfl) | (refine' kp_binds ?kx ?ke; (case kx => k_in); (case ke => exact fun _ => rfl))); (case c5 => decide); (case kB => exact locs rfl); (case c2 => exact rfl); (case c3 => exact rfl); (case c4 => exact rfl); (case kR => assumption))))
  intro g L' h' F' N' B' X' T' l'
  clear hret hB hF hK hN hT hdis
  try dsimp only
  refine hideA ?_
  intro Q0 hQ0
  try k_fold
  (repeat' ((fail_if_success (first | with_reducible show wpR _ _ _ _ _ _ | with_reducible show wpAny _ _ (PySem.call (Value.builtin "list.append") [_, Value.bytes _ _] _) _ _ _ | with_reducible show wpAny _ _ (PySem.exec (Stmt.Assign _ (Expr.ListComp _ _ _ _) _) _) _ _ _ | with_reducible show wpAny _ _ (PySem.eval (Expr.ListComp _ _ _ _) _) _ _ _ | with_reducible show wpAny _ _ (PySem.setItem _ _ _) _ _ _ | with_reducible show KswEnd _ _ _ _ _ _ _ _ _ _ _ _ | with_reducible show wpAny _ _ (PySem.call (Value.type "bytes") _ _) _ _ _ | with_reducible show wpAny _ _ (PySem.call (Value.ref _) _ _) _ _ _ | with_reducible show wpAny _ _ (exec (Stmt.While _ _ _ _) _) _ _ _ | with_reducible show wpAny _ _ (pyIter _) _ _ _)); (first | ((with_reducible show wpAny _ _ (PySem.execs (_ :: _) _) _ _ _); (first | ((first | with_reducible show wpAny _ _ _ _ _ (PySem.Shared.mk _ _ _ (_ + _) _) | with_reducible show wpAny _ _ _ _ _ (PySem.Shared.mk _ _ _ (PySem.Shared.toks _) _)); (try dsimp only); refine normG s rfl ?_; intro tkN8; (try clear tkN9); rename Nat => tkN9) | dsimp only)) | (k_unfold; (try dsimp only)) | (k_end; wrow_close) | walk1 | (dsimp only; walk1) | (leave1; walk_say "STEP leave1"; try dsimp only) | fail "no step")))
  refine ksw_while (σ := Int × Tok × Int × Tok) (fun _ => []) (fun c => [(Str.ofString "lo", .int c.1 c.2.1), (Str.ofString "hi", .int c.2.2.1 c.2.2.2)]) (fun _ => True) [Str.ofString "mid"]
    (fun c => BisInv (fun i : Nat => ks.getD i 0 < x) lo hi c.1 c.2.2.1) (fun c => (c.2.2.1 - c.1).toNat) (lo, t1, hi, t2) (by k_asm) (by k_asm) trivial (by kst_all) (bis_start h1) ?_
  · rintro ⟨lo', tl, hi', th⟩ u h tk _ hP F N
    dsimp only at hP F N ⊢
    have hbd := bis_bounds h0 hP
    obtain ⟨q1, q2, q3, _, _⟩ := id hP
    (repeat' ((fail_if_success (first | with_reducible show wpR _ _ _ _ _ _ | with_reducible show wpAny _ _ (PySem.call (Value.builtin "list.append") [_, Value.bytes _ _] _) _ _ _ | with_reducible show wpAny _ _ (PySem.exec (Stmt.Assign _ (Expr.ListComp _ _ _ _) _) _) _ _ _ | with_reducible show wpAny _ _ (PySem.eval (Expr.ListComp _ _ _ _) _) _ _ _ | with_reducible show wpAny _ _ (PySem.setItem _ _ _) _ _ _ | with_reducible show KswEnd _ _ _ _ _ _ _ _ _ _ _ _ | with_reducible show wpAny _ _ (PySem.call (Value.type "bytes") _ _) _ _ _ | with_reducible show wpAny _ _ (PySem.call (Value.ref _) _ _) _ _ _ | with_reducible show wpAny _ _ (exec (Stmt.While _ _ _ _) _) _ _ _ | with_reducible show wpAny _ _ (pyIter _) _ _ _)); (first | ((with_reducible show wpAny _ _ (PySem.execs (_ :: _) _) _ _ _); (first | ((first | with_reducible show wpAny _ _ _ _ _ (PySem.Shared.mk _ _ _ (_ + _) _) | with_reducible show wpAny _ _ _ _ _ (PySem.Shared.mk _ _ _ (PySem.Shared.toks _) _)); (try dsimp only); refine normG s rfl ?_; intro tkN8; (try clear tkN9); rename Nat => tkN9) | dsimp only)) | (k_unfold; (try dsimp only)) | (k_end; wrow_close) | walk1 | (dsimp only; walk1) | (leave1; walk_say "STEP leave1"; try dsimp only) | fail "no step")))
    · refine ksw_end ((lo' + hi').fdiv 2 + 1, _, hi', th) (by assumption) (by assumption) (fun p hp => hp) trivial (by kst_all) (by ((intro z h2 h3; (simp only [List.forall_mem_cons, List.not_mem_nil, false_implies, implies_true, and_true, ne_eq] at h2); (simp only [List.contains_cons, List.contains_nil, Bool.or_false, Bool.or_eq_false_iff, beq_eq_false_iff_ne, ne_eq] at h3); (simp [kstB, h2, h3]; done)))) ?_ ?_
      · exact bis_lo h0 hs hP (by assumption) (by (try dsimp only); omega)
      · exact (bis_meas (by assumption)).2
    · refine ksw_end (lo', tl, (lo' + hi').fdiv 2, _) (by assumption) (by assumption) (fun p hp => hp) trivial (by kst_all) (by ((intro z h2 h3; (simp only [List.forall_mem_cons, List.not_mem_nil, false_implies, implies_true, and_true, ne_eq] at h2); (simp only [List.contains_cons, List.contains_nil, Bool.or_false, Bool.or_eq_false_iff, beq_eq_false_iff_ne, ne_eq] at h3); (simp [kstB, h2, h3]; done)))) ?_ ?_
      · exact bis_hi h0 hs hP (by assumption) (by intro q; (try dsimp only at q); omega)
      · exact (bis_meas (by assumption)).1
    · refine hQ0 _ _ (Left.intro (by assumption) (by assumption) (fun p hp => hp) ⟨rfl, _, _, rfl, bis_end hP (by assumption)⟩)
theorem bisR_k (w : World) (mean : ExcName → Option Value) (mg mb : Str → Option Value) (b : Array UInt8) (ks : List Int) (hb : KBw.bInts b = ks) (hlen : ks.length < 100) (x lo hi : Int) (tb t0 t1 t2 : Tok) (h0 : 0 ≤ lo) (h1 : lo ≤ hi) (h2 : hi ≤ ks.length) (K c' : Addr) (oc : Obj) (vs' : Array Value) (t' : Tok) (qual : Str) (pa p1 p2 : Pos) (pm ctv : Value) (hoc : oc.data = .fields vs') (hq : vs'[1]? = some (.str qual t'))
   (hs : ∀ i j : Nat, lo ≤ (i : Int) → i < j → (j : Int) < hi → (fun i : Nat => -(ks.getD i 0) ≤ x) j → (fun i : Nat => -(ks.getD i 0) ≤ x) i) :
   Claim w mean mg mb 3 39 [(K, lamObj qual pa p1 p2 pm c' ctv), (c', oc)] [.bytes b tb, .int x t0, .int lo t1, .int hi t2] [(Str.ofString "key", .ref K)] (fun r own' => own' = [(K, lamObj qual pa p1 p2 pm c' ctv), (c', oc)] ∧ ∃ k t, r = .int k t ∧ BisAt (fun i : Nat => -(ks.getD i 0) ≤ x) lo hi k) := by
  unfold Claim
  k_fill
  w_top off
  intro dp un gd cn cs ca ccd cl outer A₀ base h₀ L m rest s Q E hB hF hK hN hT hk hdis hdp hun hret
  k_dflt (refine' enter_own (binds := [(Str.ofString "a", .bytes b tb), (Str.ofString "x", .int x t0), (Str.ofString "lo", .int lo t1), (Str.ofString "hi", .int hi t2), (Str.ofString "key", .ref K)]) ?k1 ?k2 ?k3 ?k4 ?k5 ?kd ?kA ?kF ?kK ?k6 ?k7 ?k8 ?k9 ?kB ?kR ?_ ?c2 ?c3 ?c4 ?c5; (((case kA => exact rfl); (case kF => exact rfl); (case kK => assumption); (case k1 => k_asm); (case k2 => k_asm); (case k3 => k_asm); (case k4 => k_asm); (case k5 => k_asm); (case kd => assumption); (case k6 => k_is); (case k7 => k_is); (case k8 => first | exact room0 (by assumption) | ktr_room); (case k9 => first | exact BindsTo.of_eq rfl | exact kp_binds (by k_in) (fun _ => rfl) | (refine' kp_binds ?kx ?ke; (case kx => k_in); (case ke => exact fun _ => rfl))); (case c5 => decide); (case kB => exact locs rfl); (case c2 => exact rfl); (case c3 => exact rfl); (case c4 => exact rfl); (case kR => assumption))))
  intro g L' h' F' N' B' X' T' l'
  clear hret hB hF hK hN hT hdis
  try dsimp only
  refine hideA ?_
  intro Q0 hQ0
  try k_fold
  (repeat' ((fail_if_success (first | with_reducible show wpR _ _ _ _ _ _ | with_reducible show wpAny _ _ (PySem.call (Value.builtin "list.append") [_, Value.bytes _ _] _) _ _ _ | with_reducible show wpAny _ _ (PySem.exec (Stmt.Assign _ (Expr.ListComp _ _ _ _) _) _) _ _ _ | with_reducible show wpAny _ _ (PySem.eval (Expr.ListComp _ _ _ _) _) _ _ _ | with_reducible show wpAny _ _ (PySem.setItem _ _ _) _ _ _ | with_reducible show KswEnd _ _ _ _ _ _ _ _ _ _ _ _ | with_reducible show wpAny _ _ (PySem.call (Value.type "bytes") _ _) _ _ _ | with_reducible show wpAny _ _ (PySem.call (Value.ref _) _ _) _ _ _ | with_reducible show wpAny _ _ (exec (Stmt.While _ _ _ _) _) _ _ _ | with_reducible show wpAny _ _ (pyIter _) _ _ _)); (first | ((with_reducible show wpAny _ _ (PySem.execs (_ :: _) _) _ _ _); (first | ((first | with_reducible show wpAny _ _ _ _ _ (PySem.Shared.mk _ _ _ (_ + _) _) | with_reducible show wpAny _ _ _ _ _ (PySem.Shared.mk _ _ _ (PySem.Shared.toks _) _)); (try dsimp only); refine normG s rfl ?_; intro tkN8; (try clear tkN9); rename Nat => tkN9) | dsimp only)) | (k_unfold; (try dsimp only)) | (k_end; wrow_close) | walk1 | (dsimp only; walk1) | (leave1; walk_say "STEP leave1"; try dsimp only) | fail "no step")))
  refine ksw_while (σ := Int × Tok × Int × Tok) (fun _ => [(K, lamObj qual pa p1 p2 pm c' ctv), (c', oc)]) (fun c => [(Str.ofString "lo", .int c.1 c.2.1), (Str.ofString "hi", .int c.2.2.1 c.2.2.2)]) (fun _ => True) [Str.ofString "mid"]
    (fun c => BisInv (fun i : Nat => -(ks.getD i 0) ≤ x) lo hi c.1 c.2.2.1) (fun c => (c.2.2.1 - c.1).toNat) (lo, t1, hi, t2) (by k_asm) (by k_asm) trivial (by kst_all) (bis_start h1) ?_
  · rintro ⟨lo', tl, hi', th⟩ u h tk _ hP F N
    dsimp only at hP F N ⊢
    have hbd := bis_bounds h0 hP
    obtain ⟨q1, q2, q3, _, _⟩ := id hP
    (repeat' ((fail_if_success (first | with_reducible show wpR _ _ _ _ _ _ | with_reducible show wpAny _ _ (PySem.call (Value.builtin "list.append") [_, Value.bytes _ _] _) _ _ _ | with_reducible show wpAny _ _ (PySem.exec (Stmt.Assign _ (Expr.ListComp _ _ _ _) _) _) _ _ _ | with_reducible show wpAny _ _ (PySem.eval (Expr.ListComp _ _ _ _) _) _ _ _ | with_reducible show wpAny _ _ (PySem.setItem _ _ _) _ _ _ | with_reducible show KswEnd _ _ _ _ _ _ _ _ _ _ _ _ | with_reducible show wpAny _ _ (PySem.call (Value.type "bytes") _ _) _ _ _ | with_reducible show wpAny _ _ (PySem.call (Value.ref _) _ _) _ _ _ | with_reducible show wpAny _ _ (exec (Stmt.While _ _ _ _) _) _ _ _ | with_reducible show wpAny _ _ (pyIter _) _ _ _)); (first | ((with_reducible show wpAny _ _ (PySem.execs (_ :: _) _) _ _ _); (first | ((first | with_reducible show wpAny _ _ _ _ _ (PySem.Shared.mk _ _ _ (_ + _) _) | with_reducible show wpAny _ _ _ _ _ (PySem.Shared.mk _ _ _ (PySem.Shared.toks _) _)); (try dsimp only); refine normG s rfl ?_; intro tkN8; (try clear tkN9); rename Nat => tkN9) | dsimp only)) | (k_unfold; (try dsimp only)) | (k_end; wrow_close) | walk1 | (dsimp only; walk1) | (leave1; walk_say "STEP leave1"; try dsimp only) | fail "no step")))
    · k_dflt (refine' use_claim (lam_c w mean mg mb K c' oc vs' t' qual pa p1 p2 pm ctv hoc hq _ _) [] ?k1 ?k2 ?k3 ?k4 ?k5 ?k6 ?k7 ?k8 ?k9 ?k10 ?_; (((case k1 => k_asm); (case k2 => k_asm); (case k3 => k_asm); (case k4 => k_asm); (case k5 => k_asm); (case k6 => exact rfl); (case k7 => (((try simp only [List.append_nil, List.nil_append, List.cons_append, List.append_assoc]); first | exact (fun p hp => hp) | (simp only [List.forall_mem_cons, List.not_mem_nil, false_implies, implies_true, and_true, true_and]; (repeat' apply And.intro) <;> first | trivial | k_mem) | (simp; done)))); (case k8 => (((try simp only [List.append_nil, List.nil_append, List.cons_append, List.append_assoc]); first   | (simp only [List.forall_mem_cons, List.not_mem_nil, false_implies, implies_true, and_true, true_and, ne_eq]; done)   | ((simp only [List.forall_mem_cons, List.not_mem_nil, false_implies, implies_true, and_true, true_and]); (repeat' apply And.intro) <;> first | trivial | assumption | exact Ne.symm (by assumption) | k_ne)))); (case k9 => first | exact room1 (by assumption) (by decide) | ktr_room); (case k10 => first | exact units1 (by assumption) (by decide) | ktr_units))))
      rintro r own' h6 tk6 ⟨rfl, t6, rfl⟩ F6 N6 _
      simp only [List.append_nil] at N6
      (repeat' ((fail_if_success (first | with_reducible show wpR _ _ _ _ _ _ | with_reducible show wpAny _ _ (PySem.call (Value.builtin "list.append") [_, Value.bytes _ _] _) _ _ _ | with_reducible show wpAny _ _ (PySem.exec (Stmt.Assign _ (Expr.ListComp _ _ _ _) _) _) _ _ _ | with_reducible show wpAny _ _ (PySem.eval (Expr.ListComp _ _ _ _) _) _ _ _ | with_reducible show wpAny _ _ (PySem.setItem _ _ _) _ _ _ | with_reducible show KswEnd _ _ _ _ _ _ _ _ _ _ _ _ | with_reducible show wpAny _ _ (PySem.call (Value.type "bytes") _ _) _ _ _ | with_reducible show wpAny _ _ (PySem.call (Value.ref _) _ _) _ _ _ | with_reducible show wpAny _ _ (exec (Stmt.While _ _ _ _) _) _ _ _ | with_reducible show wpAny _ _ (pyIter _) _ _ _)); (first | ((with_reducible show wpAny _ _ (PySem.execs (_ :: _) _) _ _ _); (first | ((first | with_reducible show wpAny _ _ _ _ _ (PySem.Shared.mk _ _ _ (_ + _) _) | with_reducible show wpAny _ _ _ _ _ (PySem.Shared.mk _ _ _ (PySem.Shared.toks _) _)); (try dsimp only); refine normG s rfl ?_; intro tkN8; (try clear tkN9); rename Nat => tkN9) | dsimp only)) | (k_unfold; (try dsimp only)) | (k_end; wrow_close) | walk1 | (dsimp only; walk1) | (leave1; walk_say "STEP leave1"; try dsimp only) | fail "no step")))
      · refine ksw_end (lo', tl, (lo' + hi').fdiv 2, _) (by assumption) (by assumption) (fun p hp => hp) trivial (by kst_all) (by ((intro z h2 h3; (simp only [List.forall_mem_cons, List.not_mem_nil, false_implies, implies_true, and_true, ne_eq] at h2); (simp only [List.contains_cons, List.contains_nil, Bool.or_false, Bool.or_eq_false_iff, beq_eq_false_iff_ne, ne_eq] at h3); (simp [kstB, h2, h3]; done)))) ?_ ?_
        · exact bis_hi h0 hs hP (by assumption) (by intro q; (try dsimp only at q); omega)
        · exact (bis_meas (by assumption)).1
      · refine ksw_end ((lo' + hi').fdiv 2 + 1, _, hi', th) (by assumption) (by assumption) (fun p hp => hp) trivial (by kst_all) (by ((intro z h2 h3; (simp only [List.forall_mem_cons, List.not_mem_nil, false_implies, implies_true, and_true, ne_eq] at h2); (simp only [List.contains_cons, List.contains_nil, Bool.or_false, Bool.or_eq_false_iff, beq_eq_false_iff_ne, ne_eq] at h3); (simp [kstB, h2, h3]; done)))) ?_ ?_
        · exact bis_lo h0 hs hP (by assumption) (by (try dsimp only); omega)
        · exact (bis_meas (by assumption)).2
    · refine hQ0 _ _ (Left.intro (by assumption) (by assumption) (fun p hp => hp) ⟨rfl, _, _, rfl, bis_end hP (by assumption)⟩)
theorem bisL_k (w : World) (mean : ExcName → Option Value) (mg mb : Str → Option Value) (b : Array UInt8) (ks : List Int) (hb : KBw.bInts b = ks) (hlen : ks.length < 100) (x lo hi : Int) (tb t0 t1 t2 : Tok) (h0 : 0 ≤ lo) (h1 : lo ≤ hi) (h2 : hi ≤ ks.length) (K c' : Addr) (oc : Obj) (vs' : Array Value) (t' : Tok) (qual : Str) (pa p1 p2 : Pos) (pm ctv : Value) (hoc : oc.data = .fields vs') (hq : vs'[1]? = some (.str qual t'))
   (hs : ∀ i j : Nat, lo ≤ (i : Int) → i < j → (j : Int) < hi → (fun i : Nat => -(ks.getD i 0) < x) j → (fun i : Nat => -(ks.getD i 0) < x) i) :
   Claim w mean mg mb 3 48 [(K, lamObj qual pa p1 p2 pm c' ctv), (c', oc)] [.bytes b tb, .int x t0, .int lo t1, .int hi t2] [(Str.ofString "key", .ref K)] (fun r own' => own' = [(K, lamObj qual pa p1 p2 pm c' ctv), (c', oc)] ∧ ∃ k t, r = .int k t ∧ BisAt (fun i : Nat => -(ks.getD i 0) < x) lo hi k) := by
  unfold Claim
  k_fill
  w_top off
  intro dp un gd cn cs ca ccd cl outer A₀ base h₀ L m rest s Q E hB hF hK hN hT hk hdis hdp hun hret
  k_dflt (refine' enter_own (binds := [(Str.ofString "a", .bytes b tb), (Str.ofString "x", .int x t0), (Str.ofString "lo", .int lo t1), (Str.ofString "hi", .int hi t2), (Str.ofString "key", .ref K)]) ?k1 ?k2 ?k3 ?k4 ?k5 ?kd ?kA ?kF ?kK ?k6 ?k7 ?k8 ?k9 ?kB ?kR ?_ ?c2 ?c3 ?c4 ?c5; (((case kA => exact rfl); (case kF => exact rfl); (case kK => assumption); (case k1 => k_asm); (case k2 => k_asm); (case k3 => k_asm); (case k4 => k_asm); (case k5 => k_asm); (case kd => assumption); (case k6 => k_is); (case k7 => k_is); (case k8 => first | exact room0 (by assumption) | ktr_room); (case k9 => first | exact BindsTo.of_eq rfl | exact kp_binds (by k_in) (fun _ => rfl) | (refine' kp_binds ?kx ?ke; (case kx => k_in); (case ke => exact fun _ => rfl))); (case c5 => decide); (case kB => exact locs rfl); (case c2 => exact rfl); (case c3 => exact rfl); (case c4 => exact rfl); (case kR => assumption))))
  intro g L' h' F' N' B' X' T' l'
  clear hret hB hF hK hN hT hdis
  try dsimp only
  refine hideA ?_
  intro Q0 hQ0
  try k_fold
  (repeat' ((fail_if_success (first | with_reducible show wpR _ _ _ _ _ _ | with_reducible show wpAny _ _ (PySem.call (Value.builtin "list.append") [_, Value.bytes _ _] _) _ _ _ | with_reducible show wpAny _ _ (PySem.exec (Stmt.Assign _ (Expr.ListComp _ _ _ _) _) _) _ _ _ | with_reducible show wpAny _ _ (PySem.eval (Expr.ListComp _ _ _ _) _) _ _ _ | with_reducible show wpAny _ _ (PySem.setItem _ _ _) _ _ _ | with_reducible show KswEnd _ _ _ _ _ _ _ _ _ _ _ _ | with_reducible show wpAny _ _ (PySem.call (Value.type "bytes") _ _) _ _ _ | with_reducible show wpAny _ _ (PySem.call (Value.ref _) _ _) _ _ _ | with_reducible show wpAny _ _ (exec (Stmt.While _ _ _ _) _) _ _ _ | with_reducible show wpAny _ _ (pyIter _) _ _ _)); (first | ((with_reducible show wpAny _ _ (PySem.execs (_ :: _) _) _ _ _); (first | ((first | with_reducible show wpAny _ _ _ _ _ (PySem.Shared.mk _ _ _ (_ + _) _) | with_reducible show wpAny _ _ _ _ _ (PySem.Shared.mk _ _ _ (PySem.Shared.toks _) _)); (try dsimp only); refine normG s rfl ?_; intro tkN8; (try clear tkN9); rename Nat => tkN9) | dsimp only)) | (k_unfold; (try dsimp only)) | (k_end; wrow_close) | walk1 | (dsimp only; walk1) | (leave1; walk_say "STEP leave1"; try dsimp only) | fail "no step")))
  refine ksw_while (σ := Int × Tok × Int × Tok) (fun _ => [(K, lamObj qual pa p1 p2 pm c' ctv), (c', oc)]) (fun c => [(Str.ofString "lo", .int c.1 c.2.1), (Str.ofString "hi", .int c.2.2.1 c.2.2.2)]) (fun _ => True) [Str.ofString "mid"]
    (fun c => BisInv (fun i : Nat => -(ks.getD i 0) < x) lo hi c.1 c.2.2.1) (fun c => (c.2.2.1 - c.1).toNat) (lo, t1, hi, t2) (by k_asm) (by k_asm) trivial (by kst_all) (bis_start h1) ?_
  · rintro ⟨lo', tl, hi', th⟩ u h tk _ hP F N
    dsimp only at hP F N ⊢
    have hbd := bis_bounds h0 hP
    obtain ⟨q1, q2, q3, _, _⟩ := id hP
    (repeat' ((fail_if_success (first | with_reducible show wpR _ _ _ _ _ _ | with_reducible show wpAny _ _ (PySem.call (Value.builtin "list.append") [_, Value.bytes _ _] _) _ _ _ | with_reducible show wpAny _ _ (PySem.exec (Stmt.Assign _ (Expr.ListComp _ _ _ _) _) _) _ _ _ | with_reducible show wpAny _ _ (PySem.eval (Expr.ListComp _ _ _ _) _) _ _ _ | with_reducible show wpAny _ _ (PySem.setItem _ _ _) _ _ _ | with_reducible show KswEnd _ _ _ _ _ _ _ _ _ _ _ _ | with_reducible show wpAny _ _ (PySem.call (Value.type "bytes") _ _) _ _ _ | with_reducible show wpAny _ _ (PySem.call (Value.ref _) _ _) _ _ _ | with_reducible show wpAny _ _ (exec (Stmt.While _ _ _ _) _) _ _ _ | with_reducible show wpAny _ _ (pyIter _) _ _ _)); (first | ((with_reducible show wpAny _ _ (PySem.execs (_ :: _) _) _ _ _); (first | ((first | with_reducible show wpAny _ _ _ _ _ (PySem.Shared.mk _ _ _ (_ + _) _) | with_reducible show wpAny _ _ _ _ _ (PySem.Shared.mk _ _ _ (PySem.Shared.toks _) _)); (try dsimp only); refine normG s rfl ?_; intro tkN8; (try clear tkN9); rename Nat => tkN9) | dsimp only)) | (k_unfold; (try dsimp only)) | (k_end; wrow_close) | walk1 | (dsimp only; walk1) | (leave1; walk_say "STEP leave1"; try dsimp only) | fail "no step")))
    · k_dflt (refine' use_claim (lam_c w mean mg mb K c' oc vs' t' qual pa p1 p2 pm ctv hoc hq _ _) [] ?k1 ?k2 ?k3 ?k4 ?k5 ?k6 ?k7 ?k8 ?k9 ?k10 ?_; (((case k1 => k_asm); (case k2 => k_asm); (case k3 => k_asm); (case k4 => k_asm); (case k5 => k_asm); (case k6 => exact rfl); (case k7 => (((try simp only [List.append_nil, List.nil_append, List.cons_append, List.append_assoc]); first | exact (fun p hp => hp) | (simp only [List.forall_mem_cons, List.not_mem_nil, false_implies, implies_true, and_true, true_and]; (repeat' apply And.intro) <;> first | trivial | k_mem) | (simp; done)))); (case k8 => (((try simp only [List.append_nil, List.nil_append, List.cons_append, List.append_assoc]); first   | (simp only [List.forall_mem_cons, List.not_mem_nil, false_implies, implies_true, and_true, true_and, ne_eq]; done)   | ((simp only [List.forall_mem_cons, List.not_mem_nil, false_implies, implies_true, and_true, true_and]); (repeat' apply And.intro) <;> first | trivial | assumption | exact Ne.symm (by assumption) | k_ne)))); (case k9 => first | exact room1 (by assumption) (by decide) | ktr_room); (case k10 => first | exact units1 (by assumption) (by decide) | ktr_units))))
      rintro r own' h6 tk6 ⟨rfl, t6, rfl⟩ F6 N6 _
      simp only [List.append_nil] at N6
      (repeat' ((fail_if_success (first | with_reducible show wpR _ _ _ _ _ _ | with_reducible show wpAny _ _ (PySem.call (Value.builtin "list.append") [_, Value.bytes _ _] _) _ _ _ | with_reducible show wpAny _ _ (PySem.exec (Stmt.Assign _ (Expr.ListComp _ _ _ _) _) _) _ _ _ | with_reducible show wpAny _ _ (PySem.eval (Expr.ListComp _ _ _ _) _) _ _ _ | with_reducible show wpAny _ _ (PySem.setItem _ _ _) _ _ _ | with_reducible show KswEnd _ _ _ _ _ _ _ _ _ _ _ _ | with_reducible show wpAny _ _ (PySem.call (Value.type "bytes") _ _) _ _ _ | with_reducible show wpAny _ _ (PySem.call (Value.ref _) _ _) _ _ _ | with_reducible show wpAny _ _ (exec (Stmt.While _ _ _ _) _) _ _ _ | with_reducible show wpAny _ _ (pyIter _) _ _ _)); (first | ((with_reducible show wpAny _ _ (PySem.execs (_ :: _) _) _ _ _); (first | ((first | with_reducible show wpAny _ _ _ _ _ (PySem.Shared.mk _ _ _ (_ + _) _) | with_reducible show wpAny _ _ _ _ _ (PySem.Shared.mk _ _ _ (PySem.Shared.toks _) _)); (try dsimp only); refine normG s rfl ?_; intro tkN8; (try clear tkN9); rename Nat => tkN9) | dsimp only)) | (k_unfold; (try dsimp only)) | (k_end; wrow_close) | walk1 | (dsimp only; walk1) | (leave1; walk_say "STEP leave1"; try dsimp only) | fail "no step")))
      · refine ksw_end ((lo' + hi').fdiv 2 + 1, _, hi', th) (by assumption) (by assumption) (fun p hp => hp) trivial (by kst_all) (by ((intro z h2 h3; (simp only [List.forall_mem_cons, List.not_mem_nil, false_implies, implies_true, and_true, ne_eq] at h2); (simp only [List.contains_cons, List.contains_nil, Bool.or_false, Bool.or_eq_false_iff, beq_eq_false_iff_ne, ne_eq] at h3); (simp [kstB, h2, h3]; done)))) ?_ ?_
        · exact bis_lo h0 hs hP (by assumption) (by (try dsimp only); omega)
        · exact (bis_meas (by assumption)).2
      · refine ksw_end (lo', tl, (lo' + hi').fdiv 2, _) (by assumption) (by assumption) (fun p hp => hp) trivial (by kst_all) (by ((intro z h2 h3; (simp only [List.forall_mem_cons, List.not_mem_nil, false_implies, implies_true, and_true, ne_eq] at h2); (simp only [List.contains_cons, List.contains_nil, Bool.or_false, Bool.or_eq_false_iff, beq_eq_false_iff_ne, ne_eq] at h3); (simp [kstB, h2, h3]; done)))) ?_ ?_
        · exact bis_hi h0 hs hP (by assumption) (by intro q; (try dsimp only at q); omega)
        · exact (bis_meas (by assumption)).1
    · refine hQ0 _ _ (Left.intro (by assumption) (by assumption) (fun p hp => hp) ⟨rfl, _, _, rfl, bis_end hP (by assumption)⟩)
end Mine
end
section -- LL
open PySem PySem.W PySem.Calls PyProof.Rows
set_option maxRecDepth 100000
set_option linter.unusedVariables false
namespace Mine
section
variable {prog : Program} {w : World} {A : Around} {E : Value → Shared → Prop} {s : Shared} {env : Env} {Q : Flow → Shared → Prop} {h₀ : Heap} {L : Addr}
def LlEnd {σ : Type} (h₀ : Heap) (L : Addr) (s : Shared) (I l : Addr) (i : Nat) (Led : σ → List (Addr × Obj)) (stored : List Str) (m₀ : Str → Option Value) (P : σ → Prop) (s₂ : Shared) : Prop :=
  ∃ (c : σ) (h' : Heap) (tk : Nat) (m' : Str → Option Value) (news' : List (Addr × Obj)) (it : Obj), s₂ = { s with heap := h', toks := tk } ∧ Fr h₀ L h' m' ∧ News h₀ L h' news' ∧ litIs it l i ∧ (I, it) ∈ news' ∧ (∀ p ∈ Led c, p ∈ news') ∧ (∀ p ∈ Led c, p.1 ≠ I) ∧
    (∀ z, stored.contains z = false → m' z = m₀ z) ∧ P c
def LlPost {σ : Type} (h₀ : Heap) (L : Addr) (s : Shared) (I l : Addr) (i : Nat) (Led : σ → List (Addr × Obj)) (stored : List Str) (m₀ : Str → Option Value) (P : σ → Prop) (Q : Flow → Shared → Prop) (f : Flow) (s₂ : Shared) : Prop :=
  match f with
  | .ret v => Q (.ret v) s₂
  | .brk => Q .next s₂
  | _ => LlEnd h₀ L s I l i Led stored m₀ P s₂
theorem ll_end {σ : Type} {I l : Addr} {i : Nat} {Led : σ → List (Addr × Obj)} {stored : List Str} {m₀ m' : Str → Option Value} {P : σ → Prop} {h' : Heap} {tk : Nat} {news' : List (Addr × Obj)} {it : Obj} (c : σ)
    (F : Fr h₀ L h' m') (N : News h₀ L h' news') (hit : litIs it l i) (hI : (I, it) ∈ news') (hn : ∀ p ∈ Led c, p ∈ news') (ho : ∀ p ∈ Led c, p.1 ≠ I) (hr : ∀ z, stored.contains z = false → m' z = m₀ z) (hp : P c) :
    LlEnd h₀ L s I l i Led stored m₀ P { s with heap := h', toks := tk } := ⟨c, h', tk, m', news', it, rfl, F, N, hit, hI, hn, ho, hr, hp⟩
theorem list_loopR {σ : Type} {x : Str} {px : Pos} {body : List Stmt} {l : Addr} {items : List Value} {cN : Nat} {m₀ : Str → Option Value} (Led : σ → List (Addr × Obj)) (stored : List Str) (P : Nat → σ → Prop) (c₀ : σ) (hh : A.handled = none)
    (F : Fr h₀ L s.heap m₀) (N : News h₀ L s.heap (Led c₀)) (hl : ∀ c, (l, listOf items.toArray cN) ∈ Led c) (hp : P 0 c₀)
    (turn : ∀ (I : Addr) (it : Obj) (i : Nat) (c : σ) (v : Value) (u : Str → Option Value) (h : Heap) (tk : Nat), i < items.length → items[i]? = some v → P i c → (∀ p ∈ Led c, p.1 ≠ I) → litIs it l (i + 1) → Fr h₀ L h (fun z => if stored.contains z then u z else m₀ z) → News h₀ L h ((I, it) :: Led c) →
      wpAny (model prog w) A (storeName env x v) (fun _ s₂ => wpR (model prog w) A (execs body env) (LlPost h₀ L s I l (i + 1) Led stored m₀ (P (i + 1)) Q) E s₂) E { s with heap := h, toks := tk })
    (done : ∀ (c : σ) (u : Str → Option Value) (h : Heap) (tk : Nat), P items.length c → Fr h₀ L h (fun z => if stored.contains z then u z else m₀ z) → News h₀ L h (Led c) → Q .next { s with heap := h, toks := tk })
    (hE : PassesOwn (model prog w) A env E := by passes_own) :
    wpAny (model prog w) A (pyIter (.ref l)) (fun it s₂ => codeR (model prog w) A (.forLoop (.Name x px) it body [] env) (ForPost (model prog w) A env Q E) s₂) E s := by
  refine iter_list F N (hl c₀) fun I it h' hit F' N' hI => ?_
  have fr : ∀ {h : Heap} {m : Str → Option Value}, (∀ z, stored.contains z = false → m z = m₀ z) → Fr h₀ L h m → Fr h₀ L h (fun z => if stored.contains z then m z else m₀ z) := by
    intro h m hr F
    have e : (fun z => if stored.contains z then m z else m₀ z) = m := by
      funext z
      cases hz : stored.contains z with
      | true => rw [if_pos rfl]
      | false => rw [if_neg (by simp), hr z hz]
    rw [e]; exact F
  have main : ∀ (k i : Nat) (m : Str → Option Value) (c : σ) (it : Obj) (h : Heap) (tk : Nat), i + k = items.length → P i c → litIs it l i → (∀ z, stored.contains z = false → m z = m₀ z) → (∀ p ∈ Led c, p.1 ≠ I) → Fr h₀ L h m → News h₀ L h ((I, it) :: Led c) →
      codeR (model prog w) A (.forLoop (.Name x px) (.ref I) body [] env) (ForPost (model prog w) A env Q E) { s with heap := h, toks := tk } := by
    intro k
    induction k with
    | zero =>
      intro i m c it h tk hik hP hit hr ho F N
      have hi : i = items.length := by omega
      subst hi
      refine done_l (items := items) _ hh hit F N (hl c) ho (by simp) fun h2 F2 N2 => ?_
      exact done c m h2 tk hP (fr hr F2) N2
    | succ k ih =>
      intro i m c it h tk hik hP hit hr ho F N
      have hi : i < items.length := by omega
      refine turn_l (items := items) (r := items.drop (i + 1)) (v := items[i]) i hit F N (hl c) ho (List.drop_eq_getElem_cons hi) fun h2 it2 hit2 F2 N2 => ?_
      refine wpAny_mono (turn I it2 i c items[i] m h2 tk hi (by simp [hi]) hP ho hit2 (fr hr F2) N2) (fun _ s₂ h₃ => ?_) fun _ _ e => e
      refine wpR_mono h₃ (fun f s₃ q => ?_) fun _ _ e => e
      have up : LlEnd h₀ L s I l (i + 1) Led stored m₀ (P (i + 1)) s₃ → codeR (model prog w) A (.forLoop (.Name x px) (.ref I) body [] env) (ForPost (model prog w) A env Q E) s₃ := by
        rintro ⟨c', h', tk', m', news', it', rfl, F', N', hit', hI', hn', ho', hr', hp'⟩
        refine ih (i + 1) m' c' it' h' tk' (by omega) hp' hit' hr' ho' F' fun p hp => ?_
        rcases List.mem_cons.mp hp with rfl | hp
        · exact N' _ hI'
        · exact N' _ (hn' p hp)
      cases f with
      | ret v => exact q
      | brk => exact q
      | next => exact up q
      | cont => exact up q
  exact main items.length 0 m₀ c₀ it h' s.toks (by omega) hp hit (fun _ _ => rfl) (fun p hp => Nat.ne_of_lt (hI p hp)) F' N'
end
end Mine
end
section -- US
open PySem PySem.W PySem.Calls PyProof.Rows
set_option maxRecDepth 100000
set_option linter.unusedVariables false
namespace Mine
/-- a contract that hands its part back as it was, used under any ledger that holds the part -/
theorem use_same {w : World} {mean : ExcName → Option Value} {mg mb : Str → Option Value} {k : Nat} {f : Addr} {own : List (Addr × Obj)} {vs : List Value} {kw : List (Str × Value)} {P : Value → Prop} (C : Claim w mean mg mb k f own vs kw (fun r own' => own' = own ∧ P r))
    {dp un : Nat} {gd : Option (List Code)} {cn : Str} {cs : Scope} {a : Addr} {ccd : Value} {cl : List (Str × Addr)} {outer : List Env} {A₀ : Around} {base h₀ : Heap} {L : Addr} {m : Str → Option Value} {news : List (Addr × Obj)} {s : Shared} {Q E : Value → Shared → Prop}
    (B : Below A₀ base outer h₀) (F : Fr h₀ L s.heap m) (X : (hq.heap_1_39 w.params).In h₀) (N : News h₀ L s.heap news) (T : Top topProg Lo mean mg mb h₀) (hk : cs.kind = .function) (hsub : ∀ p ∈ own, p ∈ news) (hdp : dp + k < recursionLimit) (hun : un + 8 * k < cLine)
    (ret : ∀ r h' tk', P r → Fr h₀ L h' m → News h₀ L h' news → Q r { s with heap := h', toks := tk' }) :
      wpAny (model PySem.Challenge.rw_pk0050_01.row.prog w) (ktrTop dp un gd cn cs L a ccd cl outer) (call (.ref f) vs kw) Q E s := by
  refine use_claim C (news.filter fun p => decide (p.1 ∉ own.map (·.1))) B F X N T hk (fun p hp => ?_) (fun p hp q hq e => ?_) hdp hun fun r own' h' tk' hp F' N' _ => ?_
  · rcases List.mem_append.mp hp with hp | hp
    · exact hsub p hp
    · exact (List.mem_filter.mp hp).1
  · have := (List.mem_filter.mp hp).2
    simp only [decide_eq_true_eq] at this
    exact this (List.mem_map.mpr ⟨q, hq, e.symm⟩)
  · obtain ⟨rfl, hp⟩ := hp
    refine ret r h' tk' hp F' fun p hp => ?_
    by_cases hm : p.1 ∈ own'.map (·.1)
    · obtain ⟨q, hq, e⟩ := List.mem_map.mp hm
      have h1 := (N p hp).1
      have h2 := (N q (hsub q hq)).1
      have e' : q.1 = p.1 := e
      rw [← e', h2] at h1
      have e2 : q = p := Prod.ext e' (Option.some.inj h1)
      exact N' p (List.mem_append_left _ (e2 ▸ hq))
    · exact N' p (List.mem_append_right _ (List.mem_filter.mpr ⟨hp, by simpa using hm⟩))
end Mine
end
section -- FDall
open PySem PySem.W PySem.Calls PyProof.Rows
set_option linter.unusedVariables false
set_option maxRecDepth 100000
set_option maxHeartbeats 8000000
namespace Mine
/-- what the two lambdas' codes stand for in the table -/
abbrev q0 : Str := (Str.ofString "_law_found" ++ ".<locals>.") ++ "<lambda>"
def CodeOf (q : Str) (o : Obj) : Prop := ∃ vs t, o.data = .fields vs ∧ vs[1]? = some (.str q t)
structure Tab where
  s1 : Addr
  o1 : Obj
  s2 : Addr
  o2 : Obj
  ps : Array Value
def TabOk (c : Tab) : Prop := c.ps = #[] ∨ (c.ps = #[rawInt 114, rawInt 82, .ref c.s1, rawInt 115, rawInt 81, .ref c.s2] ∧ CodeOf q0 c.o1 ∧ CodeOf q0 c.o2)
def Apart (d : Addr) : List Addr → Prop
  | [] => True
  | a :: r => (@Ne Nat d a ∧ @Ne Nat a d) ∧ Apart d r
def TabOff (c : Tab) (as : List Addr) : Prop := @Ne Nat c.s1 c.s2 ∧ Apart c.s1 as ∧ Apart c.s2 as
theorem News.two {h₀ h : Heap} {L Dd Dt : Addr} {x5 x6 : Addr × Obj} {a b c d : Int} {ta tb tc td : Tok} {n n' : Nat} {rest : List (Addr × Obj)} (N : News h₀ L h ((Dd, listOf #[.int a ta, .int b tb] n) :: (Dt, listOf #[.int c tc, .int d td] n') :: x5 :: x6 :: rest)) :
    ∃ vs ws, IntsAre vs [a, b] ∧ IntsAre ws [c, d] ∧ News h₀ L h ((Dd, listOf vs.toArray n) :: (Dt, listOf ws.toArray n') :: rest) :=
  ⟨[.int a ta, .int b tb], [.int c tc, .int d td], .cons _ _ (.cons _ _ .nil), .cons _ _ (.cons _ _ .nil), fun p hp => N p (by simp only [List.mem_cons] at hp ⊢; rcases hp with h | h | h <;> simp [h])⟩
theorem News.ex4 {h₀ h : Heap} {L : Addr} {p1 p2 p3 : Addr × Obj} {a : Addr} {o : Obj} {rest : List (Addr × Obj)} (N : News h₀ L h (p1 :: p2 :: p3 :: (a, o) :: rest)) : ∃ o', News h₀ L h ((a, o') :: p1 :: p3 :: rest) :=
  ⟨o, fun p hp => N p (by simp only [List.mem_cons] at hp ⊢; rcases hp with h | h | h | h <;> simp [h])⟩
theorem ints_cast {l : List Value} {ns ms : List Int} (h : IntsAre l ns) (e : ns = ms) : IntsAre l ms := e ▸ h
theorem mm_eq {v h l e : Int} (q : e = min (max l v) h) : (if h < (if v > l then v else l) then h else (if v > l then v else l)) = e := by
  rw [q]; (repeat' split) <;> omega
theorem due2 {X : List Int} {v h l u a b : Int} (e1 : a = min (max l v) h) (e2 : b = min (max u v) h) :
    X ++ [if h < (if v > l then v else l) then h else (if v > l then v else l), if h < (if v > u then v else u) then h else (if v > u then v else u)] = X ++ [a, b] := by
  rw [mm_eq e1, mm_eq e2]
theorem len2 {X : List Int} {i : Nat} {a b : Int} (h : X.length = 2 + 2 * i) : (X ++ [a, b]).length = 2 + 2 * (i + 1) := by
  rw [List.length_append, h]; show 2 + 2 * i + 2 = _; omega
theorem Apart.pre {d : Addr} {bs : List Addr} : ∀ {as : List Addr}, Apart d (as ++ bs) → Apart d as
  | [], _ => trivial
  | _ :: _, h => ⟨h.1, Apart.pre h.2⟩
theorem Apart.app {d : Addr} {bs : List Addr} : ∀ {as : List Addr}, Apart d as → Apart d bs → Apart d (as ++ bs)
  | [], _, k => k
  | _ :: _, h, k => ⟨h.1, Apart.app h.2 k⟩
theorem Apart.elim6 {d a1 a2 a3 a4 a5 a6 : Addr} {P : Prop} (h : Apart d [a1, a2, a3, a4, a5, a6]) (k : @Ne Nat d a1 → @Ne Nat a1 d → @Ne Nat d a2 → @Ne Nat a2 d → @Ne Nat d a3 → @Ne Nat a3 d → @Ne Nat d a4 → @Ne Nat a4 d → @Ne Nat d a5 → @Ne Nat a5 d → @Ne Nat d a6 → @Ne Nat a6 d → P) : P := k h.1.1 h.1.2 h.2.1.1 h.2.1.2 h.2.2.1.1 h.2.2.1.2 h.2.2.2.1.1 h.2.2.2.1.2 h.2.2.2.2.1.1 h.2.2.2.2.1.2 h.2.2.2.2.2.1.1 h.2.2.2.2.2.1.2
theorem Apart.elim9 {d a1 a2 a3 a4 a5 a6 a7 a8 a9 : Addr} {P : Prop} (h : Apart d [a1, a2, a3, a4, a5, a6, a7, a8, a9]) (k : @Ne Nat d a1 → @Ne Nat a1 d → @Ne Nat d a2 → @Ne Nat a2 d → @Ne Nat d a3 → @Ne Nat a3 d → @Ne Nat d a4 → @Ne Nat a4 d → @Ne Nat d a5 → @Ne Nat a5 d → @Ne Nat d a6 → @Ne Nat a6 d → @Ne Nat d a7 → @Ne Nat a7 d → @Ne Nat d a8 → @Ne Nat a8 d → @Ne Nat d a9 → @Ne Nat a9 d → P) : P := k h.1.1 h.1.2 h.2.1.1 h.2.1.2 h.2.2.1.1 h.2.2.1.2 h.2.2.2.1.1 h.2.2.2.1.2 h.2.2.2.2.1.1 h.2.2.2.2.1.2 h.2.2.2.2.2.1.1 h.2.2.2.2.2.1.2 h.2.2.2.2.2.2.1.1 h.2.2.2.2.2.2.1.2 h.2.2.2.2.2.2.2.1.1 h.2.2.2.2.2.2.2.1.2 h.2.2.2.2.2.2.2.2.1.1 h.2.2.2.2.2.2.2.2.1.2
theorem ledNe8 {a1 a2 a3 a4 a5 a6 a7 a8 I : Addr} {o1 o2 o3 o4 o5 o6 o7 o8 : Obj} {P : Prop} (h : ∀ p ∈ [(a1, o1), (a2, o2), (a3, o3), (a4, o4), (a5, o5), (a6, o6), (a7, o7), (a8, o8)], p.1 ≠ I) (k : @Ne Nat a1 I → @Ne Nat a2 I → @Ne Nat a3 I → @Ne Nat a4 I → @Ne Nat a5 I → @Ne Nat a6 I → @Ne Nat a7 I → @Ne Nat a8 I → P) : P := k (h _ (.head _)) (h _ (.tail _ (.head _))) (h _ (.tail _ (.tail _ (.head _)))) (h _ (.tail _ (.tail _ (.tail _ (.head _))))) (h _ (.tail _ (.tail _ (.tail _ (.tail _ (.head _)))))) (h _ (.tail _ (.tail _ (.tail _ (.tail _ (.tail _ (.head _))))))) (h _ (.tail _ (.tail _ (.tail _ (.tail _ (.tail _ (.tail _ (.head _)))))))) (h _ (.tail _ (.tail _ (.tail _ (.tail _ (.tail _ (.tail _ (.tail _ (.head _)))))))))
theorem ledNe11 {a1 a2 a3 a4 a5 a6 a7 a8 a9 a10 a11 I : Addr} {o1 o2 o3 o4 o5 o6 o7 o8 o9 o10 o11 : Obj} {P : Prop} (h : ∀ p ∈ [(a1, o1), (a2, o2), (a3, o3), (a4, o4), (a5, o5), (a6, o6), (a7, o7), (a8, o8), (a9, o9), (a10, o10), (a11, o11)], p.1 ≠ I) (k : @Ne Nat a1 I → @Ne Nat a2 I → @Ne Nat a3 I → @Ne Nat a4 I → @Ne Nat a5 I → @Ne Nat a6 I → @Ne Nat a7 I → @Ne Nat a8 I → @Ne Nat a9 I → @Ne Nat a10 I → @Ne Nat a11 I → P) : P := k (h _ (.head _)) (h _ (.tail _ (.head _))) (h _ (.tail _ (.tail _ (.head _)))) (h _ (.tail _ (.tail _ (.tail _ (.head _))))) (h _ (.tail _ (.tail _ (.tail _ (.tail _ (.head _)))))) (h _ (.tail _ (.tail _ (.tail _ (.tail _ (.tail _ (.head _))))))) (h _ (.tail _ (.tail _ (.tail _ (.tail _ (.tail _ (.tail _ (.head _)))))))) (h _ (.tail _ (.tail _ (.tail _ (.tail _ (.tail _ (.tail _ (.tail _ (.head _))))))))) (h _ (.tail _ (.tail _ (.tail _ (.tail _ (.tail _ (.tail _ (.tail _ (.tail _ (.head _)))))))))) (h _ (.tail _ (.tail _ (.tail _ (.tail _ (.tail _ (.tail _ (.tail _ (.tail _ (.tail _ (.head _))))))))))) (h _ (.tail _ (.tail _ (.tail _ (.tail _ (.tail _ (.tail _ (.tail _ (.tail _ (.tail _ (.tail _ (.head _))))))))))))
theorem found_c (w : World) (mean : ExcName → Option Value) (mg mb : Str → Option Value) (Dr : Addr) (itr : List Value) (nr : Nat) (ns : List Int) (hI : IntsAre itr ns) (hso : ns.Pairwise (· ≤ ·)) (sb : Array UInt8) (R W : Nat) (hlen : ns.length = R * W) (h100 : ns.length < 64) (hR : 1 < R) (hsb : KBw.bInts sb = bySort W ns 0 R) (t0 t1 : Tok) (h0 : 0 < W) (h1 : W < 100) (hd95 : @Ne Nat Dr 95) :
   ClaimR w mean mg mb 12 98 [(Dr, listOf itr.toArray nr), (95, tabObj #[])] [.ref Dr, .bytes sb t0, .int W t1] [] (fun r own' => r = .bool true ∧ ∃ ps, own' = [(95, tabObj ps)]) := by
  unfold ClaimR
  k_fill
  w_top off
  intro dp un gd cn cs ca ccd cl outer A₀ base h₀ L m rest s Q E hB hF hK hN hT hk hdis hdp hun hret
  k_dflt (refine' enter_ownRC (binds := [(Str.ofString "risen", .ref Dr), (Str.ofString "snake", .bytes sb t0), (Str.ofString "width", .int W t1)]) ?k1 ?k2 ?k3 ?k4 ?k5 ?kd ?kA ?kF ?kK ?k6 ?k7 ?k8 ?k9 ?kB ?kR ?_ ?c2 ?c3 ?c4 ?c5; (((case kA => exact rfl); (case kF => exact rfl); (case kK => assumption); (case k1 => k_asm); (case k2 => k_asm); (case k3 => k_asm); (case k4 => k_asm); (case k5 => k_asm); (case kd => assumption); (case k6 => k_is); (case k7 => k_is); (case k8 => first | exact room0 (by assumption) | ktr_room); (case k9 => first | exact BindsTo.of_eq rfl | exact kp_binds (by k_in) (fun _ => rfl)); (case c5 => decide +kernel); (case kB => exact rfl); (case c2 => exact rfl); (case c3 => exact rfl); (case c4 => exact rfl); (case kR => assumption))))
  intro g L' h' tk' cells' F' N' Y' B' X' T' l'
  k_lt l'
  k_cells Y'
  rename_i oN0 oR dN0 dR0
  try simp only [List.cons_append, List.nil_append, List.append_nil] at N'
  clear hret hB hF hK hN hT hdis
  try dsimp only
  refine hideR ?_
  intro Q0 hQ0
  have hpos : 0 < ns.length := by rw [hlen]; exact Nat.mul_pos (by omega) h0
  have hRk : R ≤ ns.length := by rw [hlen]; exact Nat.le_mul_of_pos_right _ h0
  have hC1 : CodeHd g 97 95 := codeHd_of_K X' (by kernel_rfl)
  refine execs_A ?_
  (repeat' ((fail_if_success (first | with_reducible show wpAny _ _ (compareOp CmpOp.NotEq (Value.ref _) (Value.ref _)) _ _ _ | with_reducible show Exists _ | with_reducible show wpR _ _ _ _ _ _ | with_reducible show wpAny _ _ (PySem.call (Value.builtin "list.append") [_, Value.bytes _ _] _) _ _ _ | with_reducible show wpAny _ _ (PySem.exec (Stmt.Assign _ (Expr.ListComp _ _ _ _) _) _) _ _ _ | with_reducible show wpAny _ _ (PySem.eval (Expr.ListComp _ _ _ _) _) _ _ _ | with_reducible show wpAny _ _ (PySem.setItem _ _ _) _ _ _ | with_reducible show KswEnd _ _ _ _ _ _ _ _ _ _ _ _ | with_reducible show wpAny _ _ (PySem.call (Value.type "bytes") _ _) _ _ _ | with_reducible show wpAny _ _ (PySem.call (Value.ref _) _ _) _ _ _ | with_reducible show wpAny _ _ (exec (Stmt.While _ _ _ _) _) _ _ _ | with_reducible show wpAny _ _ (pyIter _) _ _ _)); (first | ((with_reducible show wpAny _ _ (PySem.execs (_ :: _) _) _ _ _); (first | ((first | with_reducible show wpAny _ _ _ _ _ (PySem.Shared.mk _ _ _ (_ + _) _) | with_reducible show wpAny _ _ _ _ _ (PySem.Shared.mk _ _ _ (PySem.Shared.toks _) _)); (try dsimp only); refine normG s rfl ?_; intro tkN8; (try clear tkN9); rename Nat => tkN9) | dsimp only)) | (k_unfold; (try dsimp only)) | (k_end; wrow_close) | walk1 | (dsimp only; walk1) | (leave1; walk_say "STEP leave1"; try dsimp only) | fail "no step")))
  k_dflt (refine Assign_ListComp_S (F₀ := by k_asm) rfl (by with_unfolding_all rfl) (by with_unfolding_all rfl) (by decide) (by rfl) (by decide) (by rfl) (by rfl) (by rfl) ?_)
  (repeat' ((fail_if_success (first | with_reducible show wpAny _ _ (compareOp CmpOp.NotEq (Value.ref _) (Value.ref _)) _ _ _ | with_reducible show Exists _ | with_reducible show wpR _ _ _ _ _ _ | with_reducible show wpAny _ _ (PySem.call (Value.builtin "list.append") [_, Value.bytes _ _] _) _ _ _ | with_reducible show wpAny _ _ (PySem.exec (Stmt.Assign _ (Expr.ListComp _ _ _ _) _) _) _ _ _ | with_reducible show wpAny _ _ (PySem.eval (Expr.ListComp _ _ _ _) _) _ _ _ | with_reducible show wpAny _ _ (PySem.setItem _ _ _) _ _ _ | with_reducible show KswEnd _ _ _ _ _ _ _ _ _ _ _ _ | with_reducible show wpAny _ _ (PySem.call (Value.type "bytes") _ _) _ _ _ | with_reducible show wpAny _ _ (PySem.call (Value.ref _) _ _) _ _ _ | with_reducible show wpAny _ _ (exec (Stmt.While _ _ _ _) _) _ _ _ | with_reducible show wpAny _ _ (pyIter _) _ _ _)); (first | ((with_reducible show wpAny _ _ (PySem.execs (_ :: _) _) _ _ _); (first | ((first | with_reducible show wpAny _ _ _ _ _ (PySem.Shared.mk _ _ _ (_ + _) _) | with_reducible show wpAny _ _ _ _ _ (PySem.Shared.mk _ _ _ (PySem.Shared.toks _) _)); (try dsimp only); refine normG s rfl ?_; intro tkN8; (try clear tkN9); rename Nat => tkN9) | dsimp only)) | (k_unfold; (try dsimp only)) | (k_end; wrow_close) | walk1 | (dsimp only; walk1) | (leave1; walk_say "STEP leave1"; try dsimp only) | fail "no step")))
  rename IsRange _ _ _ _ _ _ _ _ => hR0
  have hsz : Builtin.Range.rangeSize 0 (ns.length : Int) (W : Int) = (R : Int) := by rw [hlen]; exact rs_size (f := 0) h0
  refine ⟨_, _, _, _, _, _, _, R, _, rfl, rfl, by k_asm, by k_asm, hR0, rs_small (by omega) (by omega) (by omega) (by omega) (by omega) (by omega), hsz, by rw [sizeLine_eq]; omega, ?_⟩
  rintro s₂ ⟨hh2, rfl⟩
  refine comp_all (fun i ys => IntsAre ys ((List.range i).map fun j => ns.getD (j * W) 0)) .nil trivial ?_ ?_
  · rintro i ys hi hT v I oI C oC D m₂ h20 tk20 E' ⟨t20, rfl⟩ hC hx F20 N20 off ⟨ne1, ne2, ne3⟩
    simp only [LCg.Off3, and_true] at off
    obtain ⟨⟨p1, p2, p3⟩, p4, p5, p6⟩ := off
    have hlt : i * W + W ≤ ns.length := by
      have : (i + 1) * W ≤ R * W := Nat.mul_le_mul_right _ hi
      rw [Nat.add_mul, Nat.one_mul] at this; omega
    have hiv : (0 : Int) + (i : Int) * (W : Int) = ((i * W : Nat) : Int) := by rw [Int.natCast_mul]; omega
    rw [hiv] at hx
    generalize hv : i * W = v at *
    (repeat' ((fail_if_success (first | with_reducible show wpAny _ _ (compareOp CmpOp.NotEq (Value.ref _) (Value.ref _)) _ _ _ | with_reducible show Exists _ | with_reducible show wpR _ _ _ _ _ _ | with_reducible show wpAny _ _ (PySem.call (Value.builtin "list.append") [_, Value.bytes _ _] _) _ _ _ | with_reducible show wpAny _ _ (PySem.exec (Stmt.Assign _ (Expr.ListComp _ _ _ _) _) _) _ _ _ | with_reducible show wpAny _ _ (PySem.eval (Expr.ListComp _ _ _ _) _) _ _ _ | with_reducible show wpAny _ _ (PySem.setItem _ _ _) _ _ _ | with_reducible show KswEnd _ _ _ _ _ _ _ _ _ _ _ _ | with_reducible show wpAny _ _ (PySem.call (Value.type "bytes") _ _) _ _ _ | with_reducible show wpAny _ _ (PySem.call (Value.ref _) _ _) _ _ _ | with_reducible show wpAny _ _ (exec (Stmt.While _ _ _ _) _) _ _ _ | with_reducible show wpAny _ _ (pyIter _) _ _ _)); (first | ((with_reducible show wpAny _ _ (PySem.execs (_ :: _) _) _ _ _); (first | ((first | with_reducible show wpAny _ _ _ _ _ (PySem.Shared.mk _ _ _ (_ + _) _) | with_reducible show wpAny _ _ _ _ _ (PySem.Shared.mk _ _ _ (PySem.Shared.toks _) _)); (try dsimp only); refine normG s rfl ?_; intro tkN8; (try clear tkN9); rename Nat => tkN9) | dsimp only)) | (k_unfold; (try dsimp only)) | (k_end; wrow_close) | walk1 | (dsimp only; walk1) | (leave1; walk_say "STEP leave1"; try dsimp only) | fail "no step")))
    refine ⟨_, _, rfl, by k_asm, by k_asm, ?_⟩
    rw [List.range_succ, List.map_append]
    refine hT.append ?_
    rw [Int.toNat_natCast, ← hv]
    exact .cons _ _ .nil
  · intro ys hT
    have hyl := IntsAre.length hT
    rw [List.length_map, List.length_range] at hyl
    have hfs : ∀ j, j < R → ((List.range R).map fun j => ns.getD (j * W) 0).getD j 0 = ns.getD (j * W) 0 := fun j hj => by
      rw [List.getD_eq_getElem?_getD, List.getElem?_map, List.getElem?_range hj]; rfl
    have hfl : ((List.range R).map fun j => ns.getD (j * W) 0).length = R := by simp
    generalize ((List.range R).map fun j => ns.getD (j * W) 0) = fs at *
    (repeat' ((fail_if_success (first | with_reducible show wpAny _ _ (compareOp CmpOp.NotEq (Value.ref _) (Value.ref _)) _ _ _ | with_reducible show Exists _ | with_reducible show wpR _ _ _ _ _ _ | with_reducible show wpAny _ _ (PySem.call (Value.builtin "list.append") [_, Value.bytes _ _] _) _ _ _ | with_reducible show wpAny _ _ (PySem.exec (Stmt.Assign _ (Expr.ListComp _ _ _ _) _) _) _ _ _ | with_reducible show wpAny _ _ (PySem.eval (Expr.ListComp _ _ _ _) _) _ _ _ | with_reducible show wpAny _ _ (PySem.setItem _ _ _) _ _ _ | with_reducible show KswEnd _ _ _ _ _ _ _ _ _ _ _ _ | with_reducible show wpAny _ _ (PySem.call (Value.type "bytes") _ _) _ _ _ | with_reducible show wpAny _ _ (PySem.call (Value.ref _) _ _) _ _ _ | with_reducible show wpAny _ _ (exec (Stmt.While _ _ _ _) _) _ _ _ | with_reducible show wpAny _ _ (pyIter _) _ _ _)); (first | ((with_reducible show wpAny _ _ (PySem.execs (_ :: _) _) _ _ _); (first | ((first | with_reducible show wpAny _ _ _ _ _ (PySem.Shared.mk _ _ _ (_ + _) _) | with_reducible show wpAny _ _ _ _ _ (PySem.Shared.mk _ _ _ (PySem.Shared.toks _) _)); (try dsimp only); refine normG s rfl ?_; intro tkN8; (try clear tkN9); rename Nat => tkN9) | dsimp only)) | (k_unfold; (try dsimp only)) | (k_end; wrow_close) | walk1 | (dsimp only; walk1) | (leave1; walk_say "STEP leave1"; try dsimp only) | fail "no step")))
    refine execs_R (For_R ?_)
    (repeat' ((fail_if_success (first | with_reducible show wpAny _ _ (compareOp CmpOp.NotEq (Value.ref _) (Value.ref _)) _ _ _ | with_reducible show Exists _ | with_reducible show wpR _ _ _ _ _ _ | with_reducible show wpAny _ _ (PySem.call (Value.builtin "list.append") [_, Value.bytes _ _] _) _ _ _ | with_reducible show wpAny _ _ (PySem.exec (Stmt.Assign _ (Expr.ListComp _ _ _ _) _) _) _ _ _ | with_reducible show wpAny _ _ (PySem.eval (Expr.ListComp _ _ _ _) _) _ _ _ | with_reducible show wpAny _ _ (PySem.setItem _ _ _) _ _ _ | with_reducible show KswEnd _ _ _ _ _ _ _ _ _ _ _ _ | with_reducible show wpAny _ _ (PySem.call (Value.type "bytes") _ _) _ _ _ | with_reducible show wpAny _ _ (PySem.call (Value.ref _) _ _) _ _ _ | with_reducible show wpAny _ _ (exec (Stmt.While _ _ _ _) _) _ _ _ | with_reducible show wpAny _ _ (pyIter _) _ _ _)); (first | ((with_reducible show wpAny _ _ (PySem.execs (_ :: _) _) _ _ _); (first | ((first | with_reducible show wpAny _ _ _ _ _ (PySem.Shared.mk _ _ _ (_ + _) _) | with_reducible show wpAny _ _ _ _ _ (PySem.Shared.mk _ _ _ (PySem.Shared.toks _) _)); (try dsimp only); refine normG s rfl ?_; intro tkN8; (try clear tkN9); rename Nat => tkN9) | dsimp only)) | (k_unfold; (try dsimp only)) | (k_end; wrow_close) | walk1 | (dsimp only; walk1) | (leave1; walk_say "STEP leave1"; try dsimp only) | fail "no step")))
    rename Fr _ _ _ _ => F5
    rename News _ _ _ _ => N5
    rename IntsAre _ (_ ++ _ ++ _) => hNum
    have hNl := IntsAre.length hNum
    simp only [List.length_append, List.length_singleton] at hNl
    generalize ([ns.getD (Int.toNat 0) 0 - 1] ++ ns ++ [ns.getD (-1 + (ns.length : Int)).toNat 0 + 1]) = nums at *
    rename_i Df hf tkf o1f t3 la hla l1a D1 ws1 hD1 hI1 l1b t4 lb hlb l1c Dl ws hDl l1d
    obtain ⟨ola, N6⟩ := News.ex4 N5
    dsimp only
    have od1 : @LT.lt Nat _ Df Dl := by omega
    have od2 : @LT.lt Nat _ (L' + 1 + 1) Dl := by omega
    have od3 : @LT.lt Nat _ Dr Dl := by omega
    have od4 : @LT.lt Nat _ 95 Dl := by omega
    have od5 : @Ne Nat Df (L' + 1 + 1) := by omega
    have od6 : @Ne Nat Df (L' + 1) := by omega
    have od7 : @Ne Nat Df Dr := by omega
    have od8 : @Ne Nat Df 95 := by omega
    first | (refine normG s rfl ?_; intro tkR9) | (refine normH s rfl ?_; intro tkR9) | skip
    refine list_loopR (σ := Obj × Tab) (items := ws) (l := Dl) (cN := 0) (fun c => [(Dl, listOf ws.toArray 0), (Df, LCg.lst ys), (L' + 1 + 1, c.1), (L' + 1, oR), (Dr, listOf itr.toArray nr), (95, tabObj c.2.ps), (c.2.s1, c.2.o1), (c.2.s2, c.2.o2)])
      [Str.ofString "less", Str.ofString "upto", Str.ofString "told", Str.ofString "due", Str.ofString "low", Str.ofString "high"]
      (fun i c => (∃ v, c.1.data = .cell v) ∧ TabOk c.2 ∧ TabOff c.2 [Dl, Df, L' + 1 + 1, L' + 1, Dr, 95]) (oN0, ⟨la, ola, D1, listOf ws1.toArray 0, #[]⟩) rfl F5 (News.sub N6 ?_) ?_ ?_ ?_ ?_
    · (((try simp only [List.append_nil, List.nil_append, List.cons_append, List.append_assoc]); first | exact (fun p hp => hp) | (simp only [List.forall_mem_cons, List.not_mem_nil, false_implies, implies_true, and_true, true_and]; (repeat' apply And.intro) <;> first | trivial | k_mem) | (simp; done)))
    · exact fun c => .head _
    · refine ⟨⟨_, dN0⟩, .inl rfl, ?_⟩
      simp only [TabOff, Apart]
      (repeat' apply And.intro) <;> first | trivial | omega
    · intro I it i c0 v u h tk hi hv hP0 ho hit F N
      refine hideA ?_
      intro Q3 hQ3
      obtain ⟨oN, ⟨s1, o1, s2, o2, ps⟩⟩ := c0
      obtain ⟨⟨vc, hcell⟩, hTab, hOff⟩ := hP0
      obtain ⟨tv, rfl⟩ := ints_at hNum hv
      clear N6 F5 N5 hI1 hR0 o1f l1a l1b l1c l1d hNl
      dsimp only [envOfC] at F N hcell hTab hOff ho
      have hOff1 := hOff
      refine ledNe8 ho ?_
      intro f1 f2 f3 f4 f5 f6 f7 f8
      have g0 := hOff.1
      refine Apart.elim6 hOff.2.1 ?_
      intro g1 g1' g2 g2' g3 g3' g4 g4' g5 g5' g6 g6'
      refine Apart.elim6 hOff.2.2 ?_
      intro k1 k1' k2 k2' k3 k3' k4 k4' k5 k5' k6 k6'
      clear ho hOff
      k_dflt (refine storeX_C F N (by with_unfolding_all rfl) (by k_updF) hcell ?_)
      intro h2 oN2 F2 N2 hcell2
      refine hQ3 _ _ ?_
      clear F N hQ3
      try dsimp only
      refine wpR_any ?_
      refine hideA ?_
      intro Q1 hQ1
      generalize nums.getD i 0 = x at *
      (repeat' ((fail_if_success (first | with_reducible show wpAny _ _ (compareOp CmpOp.NotEq (Value.ref _) (Value.ref _)) _ _ _ | with_reducible show Exists _ | with_reducible show wpR _ _ _ _ _ _ | with_reducible show wpAny _ _ (PySem.call (Value.builtin "list.append") [_, Value.bytes _ _] _) _ _ _ | with_reducible show wpAny _ _ (PySem.exec (Stmt.Assign _ (Expr.ListComp _ _ _ _) _) _) _ _ _ | with_reducible show wpAny _ _ (PySem.eval (Expr.ListComp _ _ _ _) _) _ _ _ | with_reducible show wpAny _ _ (PySem.setItem _ _ _) _ _ _ | with_reducible show KswEnd _ _ _ _ _ _ _ _ _ _ _ _ | with_reducible show wpAny _ _ (PySem.call (Value.type "bytes") _ _) _ _ _ | with_reducible show wpAny _ _ (PySem.call (Value.ref _) _ _) _ _ _ | with_reducible show wpAny _ _ (exec (Stmt.While _ _ _ _) _) _ _ _ | with_reducible show wpAny _ _ (pyIter _) _ _ _)); (first | ((with_reducible show wpAny _ _ (PySem.execs (_ :: _) _) _ _ _); (first | ((first | with_reducible show wpAny _ _ _ _ _ (PySem.Shared.mk _ _ _ (_ + _) _) | with_reducible show wpAny _ _ _ _ _ (PySem.Shared.mk _ _ _ (PySem.Shared.toks _) _)); (try dsimp only); refine normG s rfl ?_; intro tkN8; (try clear tkN9); rename Nat => tkN9) | dsimp only)) | (k_unfold; (try dsimp only)) | (k_end; wrow_close) | walk1 | (dsimp only; walk1) | (leave1; walk_say "STEP leave1"; try dsimp only) | fail "no step")))
      k_dflt (refine LCt.ListComp_T (F₀ := by k_asm) (by with_unfolding_all rfl) (by decide) (by rfl) (by decide) (by rfl) ?_)
      (repeat' ((fail_if_success (first | with_reducible show wpAny _ _ (compareOp CmpOp.NotEq (Value.ref _) (Value.ref _)) _ _ _ | with_reducible show Exists _ | with_reducible show wpR _ _ _ _ _ _ | with_reducible show wpAny _ _ (PySem.call (Value.builtin "list.append") [_, Value.bytes _ _] _) _ _ _ | with_reducible show wpAny _ _ (PySem.exec (Stmt.Assign _ (Expr.ListComp _ _ _ _) _) _) _ _ _ | with_reducible show wpAny _ _ (PySem.eval (Expr.ListComp _ _ _ _) _) _ _ _ | with_reducible show wpAny _ _ (PySem.setItem _ _ _) _ _ _ | with_reducible show KswEnd _ _ _ _ _ _ _ _ _ _ _ _ | with_reducible show wpAny _ _ (PySem.call (Value.type "bytes") _ _) _ _ _ | with_reducible show wpAny _ _ (PySem.call (Value.ref _) _ _) _ _ _ | with_reducible show wpAny _ _ (exec (Stmt.While _ _ _ _) _) _ _ _ | with_reducible show wpAny _ _ (pyIter _) _ _ _)); (first | ((with_reducible show wpAny _ _ (PySem.execs (_ :: _) _) _ _ _); (first | ((first | with_reducible show wpAny _ _ _ _ _ (PySem.Shared.mk _ _ _ (_ + _) _) | with_reducible show wpAny _ _ _ _ _ (PySem.Shared.mk _ _ _ (PySem.Shared.toks _) _)); (try dsimp only); refine normG s rfl ?_; intro tkN8; (try clear tkN9); rename Nat => tkN9) | dsimp only)) | (k_unfold; (try dsimp only)) | (k_end; wrow_close) | walk1 | (dsimp only; walk1) | (leave1; walk_say "STEP leave1"; try dsimp only) | fail "no step")))
      refine LCt.CompSrcT.ledger rfl (by k_asm) (by k_asm) (by k_mem) (by rw [sizeLine_eq]; have := IntsAre.length hI; simp; omega) ?_
      intro g5
      refine comp_pick (its := itr) (fun y => decide (y < x)) hI (.inr ⟨_, by k_mem, rfl, _, rfl⟩) ?_ ?_ ?_
      · rintro j tj I5 oI5 C5 oC5 D5 ys5 m5 h5 tk5 E5 hj hC5 hx5 F5 N5 off ⟨ne1, ne2, ne3⟩
        simp only [LCg.Off3, and_true] at off
        (repeat' ((fail_if_success (first | with_reducible show wpAny _ _ (compareOp CmpOp.NotEq (Value.ref _) (Value.ref _)) _ _ _ | with_reducible show Exists _ | with_reducible show wpR _ _ _ _ _ _ | with_reducible show wpAny _ _ (PySem.call (Value.builtin "list.append") [_, Value.bytes _ _] _) _ _ _ | with_reducible show wpAny _ _ (PySem.exec (Stmt.Assign _ (Expr.ListComp _ _ _ _) _) _) _ _ _ | with_reducible show wpAny _ _ (PySem.eval (Expr.ListComp _ _ _ _) _) _ _ _ | with_reducible show wpAny _ _ (PySem.setItem _ _ _) _ _ _ | with_reducible show KswEnd _ _ _ _ _ _ _ _ _ _ _ _ | with_reducible show wpAny _ _ (PySem.call (Value.type "bytes") _ _) _ _ _ | with_reducible show wpAny _ _ (PySem.call (Value.ref _) _ _) _ _ _ | with_reducible show wpAny _ _ (exec (Stmt.While _ _ _ _) _) _ _ _ | with_reducible show wpAny _ _ (pyIter _) _ _ _)); (first | ((with_reducible show wpAny _ _ (PySem.execs (_ :: _) _) _ _ _); (first | ((first | with_reducible show wpAny _ _ _ _ _ (PySem.Shared.mk _ _ _ (_ + _) _) | with_reducible show wpAny _ _ _ _ _ (PySem.Shared.mk _ _ _ (PySem.Shared.toks _) _)); (try dsimp only); refine normG s rfl ?_; intro tkN8; (try clear tkN9); rename Nat => tkN9) | dsimp only)) | (k_unfold; (try dsimp only)) | (k_end; wrow_close) | walk1 | (dsimp only; walk1) | (leave1; walk_say "STEP leave1"; try dsimp only) | fail "no step")))
        all_goals exact ⟨_, _, rfl, by k_asm, by k_asm⟩
      · rintro j tj I5 oI5 C5 oC5 D5 ys5 m5 h5 tk5 E5 hj hC5 hx5 F5 N5 off ⟨ne1, ne2, ne3⟩
        simp only [LCg.Off3, and_true] at off
        (repeat' ((fail_if_success (first | with_reducible show wpAny _ _ (compareOp CmpOp.NotEq (Value.ref _) (Value.ref _)) _ _ _ | with_reducible show Exists _ | with_reducible show wpR _ _ _ _ _ _ | with_reducible show wpAny _ _ (PySem.call (Value.builtin "list.append") [_, Value.bytes _ _] _) _ _ _ | with_reducible show wpAny _ _ (PySem.exec (Stmt.Assign _ (Expr.ListComp _ _ _ _) _) _) _ _ _ | with_reducible show wpAny _ _ (PySem.eval (Expr.ListComp _ _ _ _) _) _ _ _ | with_reducible show wpAny _ _ (PySem.setItem _ _ _) _ _ _ | with_reducible show KswEnd _ _ _ _ _ _ _ _ _ _ _ _ | with_reducible show wpAny _ _ (PySem.call (Value.type "bytes") _ _) _ _ _ | with_reducible show wpAny _ _ (PySem.call (Value.ref _) _ _) _ _ _ | with_reducible show wpAny _ _ (exec (Stmt.While _ _ _ _) _) _ _ _ | with_reducible show wpAny _ _ (pyIter _) _ _ _)); (first | ((with_reducible show wpAny _ _ (PySem.execs (_ :: _) _) _ _ _); (first | ((first | with_reducible show wpAny _ _ _ _ _ (PySem.Shared.mk _ _ _ (_ + _) _) | with_reducible show wpAny _ _ _ _ _ (PySem.Shared.mk _ _ _ (PySem.Shared.toks _) _)); (try dsimp only); refine normG s rfl ?_; intro tkN8; (try clear tkN9); rename Nat => tkN9) | dsimp only)) | (k_unfold; (try dsimp only)) | (k_end; wrow_close) | walk1 | (dsimp only; walk1) | (leave1; walk_say "STEP leave1"; try dsimp only) | fail "no step")))
        · exact ⟨_, rfl⟩
        · exact ⟨_, _, rfl, by k_asm, by k_asm⟩
      intro ys5 hI5
      have hl5 := IntsAre.length hI5
      have hl5b := List.length_filter_le (fun y => decide (y < x)) ns
      generalize hless : ns.filter (fun y => decide (y < x)) = fl at *
      (repeat' ((fail_if_success (first | with_reducible show wpAny _ _ (compareOp CmpOp.NotEq (Value.ref _) (Value.ref _)) _ _ _ | with_reducible show Exists _ | with_reducible show wpR _ _ _ _ _ _ | with_reducible show wpAny _ _ (PySem.call (Value.builtin "list.append") [_, Value.bytes _ _] _) _ _ _ | with_reducible show wpAny _ _ (PySem.exec (Stmt.Assign _ (Expr.ListComp _ _ _ _) _) _) _ _ _ | with_reducible show wpAny _ _ (PySem.eval (Expr.ListComp _ _ _ _) _) _ _ _ | with_reducible show wpAny _ _ (PySem.setItem _ _ _) _ _ _ | with_reducible show KswEnd _ _ _ _ _ _ _ _ _ _ _ _ | with_reducible show wpAny _ _ (PySem.call (Value.type "bytes") _ _) _ _ _ | with_reducible show wpAny _ _ (PySem.call (Value.ref _) _ _) _ _ _ | with_reducible show wpAny _ _ (exec (Stmt.While _ _ _ _) _) _ _ _ | with_reducible show wpAny _ _ (pyIter _) _ _ _)); (first | ((with_reducible show wpAny _ _ (PySem.execs (_ :: _) _) _ _ _); (first | ((first | with_reducible show wpAny _ _ _ _ _ (PySem.Shared.mk _ _ _ (_ + _) _) | with_reducible show wpAny _ _ _ _ _ (PySem.Shared.mk _ _ _ (PySem.Shared.toks _) _)); (try dsimp only); refine normG s rfl ?_; intro tkN8; (try clear tkN9); rename Nat => tkN9) | dsimp only)) | (k_unfold; (try dsimp only)) | (k_end; wrow_close) | walk1 | (dsimp only; walk1) | (leave1; walk_say "STEP leave1"; try dsimp only) | fail "no step")))
      k_dflt (refine LCt.ListComp_T (F₀ := by k_asm) (by with_unfolding_all rfl) (by decide) (by rfl) (by decide) (by rfl) ?_)
      (repeat' ((fail_if_success (first | with_reducible show wpAny _ _ (compareOp CmpOp.NotEq (Value.ref _) (Value.ref _)) _ _ _ | with_reducible show Exists _ | with_reducible show wpR _ _ _ _ _ _ | with_reducible show wpAny _ _ (PySem.call (Value.builtin "list.append") [_, Value.bytes _ _] _) _ _ _ | with_reducible show wpAny _ _ (PySem.exec (Stmt.Assign _ (Expr.ListComp _ _ _ _) _) _) _ _ _ | with_reducible show wpAny _ _ (PySem.eval (Expr.ListComp _ _ _ _) _) _ _ _ | with_reducible show wpAny _ _ (PySem.setItem _ _ _) _ _ _ | with_reducible show KswEnd _ _ _ _ _ _ _ _ _ _ _ _ | with_reducible show wpAny _ _ (PySem.call (Value.type "bytes") _ _) _ _ _ | with_reducible show wpAny _ _ (PySem.call (Value.ref _) _ _) _ _ _ | with_reducible show wpAny _ _ (exec (Stmt.While _ _ _ _) _) _ _ _ | with_reducible show wpAny _ _ (pyIter _) _ _ _)); (first | ((with_reducible show wpAny _ _ (PySem.execs (_ :: _) _) _ _ _); (first | ((first | with_reducible show wpAny _ _ _ _ _ (PySem.Shared.mk _ _ _ (_ + _) _) | with_reducible show wpAny _ _ _ _ _ (PySem.Shared.mk _ _ _ (PySem.Shared.toks _) _)); (try dsimp only); refine normG s rfl ?_; intro tkN8; (try clear tkN9); rename Nat => tkN9) | dsimp only)) | (k_unfold; (try dsimp only)) | (k_end; wrow_close) | walk1 | (dsimp only; walk1) | (leave1; walk_say "STEP leave1"; try dsimp only) | fail "no step")))
      refine LCt.CompSrcT.ledger rfl (by k_asm) (by k_asm) (by k_mem) (by rw [sizeLine_eq]; have := IntsAre.length hI; simp; omega) ?_
      intro g6
      refine comp_pick (its := itr) (fun y => decide (y ≤ x)) hI (.inr ⟨_, by k_mem, rfl, _, rfl⟩) ?_ ?_ ?_
      · rintro j tj I5 oI5 C5 oC5 D5 ys5 m5 h5 tk5 E5 hj hC5 hx5 F5 N5 off ⟨ne1, ne2, ne3⟩
        simp only [LCg.Off3, and_true] at off
        (repeat' ((fail_if_success (first | with_reducible show wpAny _ _ (compareOp CmpOp.NotEq (Value.ref _) (Value.ref _)) _ _ _ | with_reducible show Exists _ | with_reducible show wpR _ _ _ _ _ _ | with_reducible show wpAny _ _ (PySem.call (Value.builtin "list.append") [_, Value.bytes _ _] _) _ _ _ | with_reducible show wpAny _ _ (PySem.exec (Stmt.Assign _ (Expr.ListComp _ _ _ _) _) _) _ _ _ | with_reducible show wpAny _ _ (PySem.eval (Expr.ListComp _ _ _ _) _) _ _ _ | with_reducible show wpAny _ _ (PySem.setItem _ _ _) _ _ _ | with_reducible show KswEnd _ _ _ _ _ _ _ _ _ _ _ _ | with_reducible show wpAny _ _ (PySem.call (Value.type "bytes") _ _) _ _ _ | with_reducible show wpAny _ _ (PySem.call (Value.ref _) _ _) _ _ _ | with_reducible show wpAny _ _ (exec (Stmt.While _ _ _ _) _) _ _ _ | with_reducible show wpAny _ _ (pyIter _) _ _ _)); (first | ((with_reducible show wpAny _ _ (PySem.execs (_ :: _) _) _ _ _); (first | ((first | with_reducible show wpAny _ _ _ _ _ (PySem.Shared.mk _ _ _ (_ + _) _) | with_reducible show wpAny _ _ _ _ _ (PySem.Shared.mk _ _ _ (PySem.Shared.toks _) _)); (try dsimp only); refine normG s rfl ?_; intro tkN8; (try clear tkN9); rename Nat => tkN9) | dsimp only)) | (k_unfold; (try dsimp only)) | (k_end; wrow_close) | walk1 | (dsimp only; walk1) | (leave1; walk_say "STEP leave1"; try dsimp only) | fail "no step")))
        all_goals exact ⟨_, _, rfl, by k_asm, by k_asm⟩
      · rintro j tj I5 oI5 C5 oC5 D5 ys5 m5 h5 tk5 E5 hj hC5 hx5 F5 N5 off ⟨ne1, ne2, ne3⟩
        simp only [LCg.Off3, and_true] at off
        (repeat' ((fail_if_success (first | with_reducible show wpAny _ _ (compareOp CmpOp.NotEq (Value.ref _) (Value.ref _)) _ _ _ | with_reducible show Exists _ | with_reducible show wpR _ _ _ _ _ _ | with_reducible show wpAny _ _ (PySem.call (Value.builtin "list.append") [_, Value.bytes _ _] _) _ _ _ | with_reducible show wpAny _ _ (PySem.exec (Stmt.Assign _ (Expr.ListComp _ _ _ _) _) _) _ _ _ | with_reducible show wpAny _ _ (PySem.eval (Expr.ListComp _ _ _ _) _) _ _ _ | with_reducible show wpAny _ _ (PySem.setItem _ _ _) _ _ _ | with_reducible show KswEnd _ _ _ _ _ _ _ _ _ _ _ _ | with_reducible show wpAny _ _ (PySem.call (Value.type "bytes") _ _) _ _ _ | with_reducible show wpAny _ _ (PySem.call (Value.ref _) _ _) _ _ _ | with_reducible show wpAny _ _ (exec (Stmt.While _ _ _ _) _) _ _ _ | with_reducible show wpAny _ _ (pyIter _) _ _ _)); (first | ((with_reducible show wpAny _ _ (PySem.execs (_ :: _) _) _ _ _); (first | ((first | with_reducible show wpAny _ _ _ _ _ (PySem.Shared.mk _ _ _ (_ + _) _) | with_reducible show wpAny _ _ _ _ _ (PySem.Shared.mk _ _ _ (PySem.Shared.toks _) _)); (try dsimp only); refine normG s rfl ?_; intro tkN8; (try clear tkN9); rename Nat => tkN9) | dsimp only)) | (k_unfold; (try dsimp only)) | (k_end; wrow_close) | walk1 | (dsimp only; walk1) | (leave1; walk_say "STEP leave1"; try dsimp only) | fail "no step")))
        · exact ⟨_, rfl⟩
        · exact ⟨_, _, rfl, by k_asm, by k_asm⟩
      intro ys6 hI6
      have hl6 := IntsAre.length hI6
      have hl6b := List.length_filter_le (fun y => decide (y ≤ x)) ns
      generalize hupto : ns.filter (fun y => decide (y ≤ x)) = fu at *
      (repeat' ((fail_if_success (first | with_reducible show wpAny _ _ (compareOp CmpOp.NotEq (Value.ref _) (Value.ref _)) _ _ _ | with_reducible show Exists _ | with_reducible show wpR _ _ _ _ _ _ | with_reducible show wpAny _ _ (PySem.call (Value.builtin "list.append") [_, Value.bytes _ _] _) _ _ _ | with_reducible show wpAny _ _ (PySem.exec (Stmt.Assign _ (Expr.ListComp _ _ _ _) _) _) _ _ _ | with_reducible show wpAny _ _ (PySem.eval (Expr.ListComp _ _ _ _) _) _ _ _ | with_reducible show wpAny _ _ (PySem.setItem _ _ _) _ _ _ | with_reducible show KswEnd _ _ _ _ _ _ _ _ _ _ _ _ | with_reducible show wpAny _ _ (PySem.call (Value.type "bytes") _ _) _ _ _ | with_reducible show wpAny _ _ (PySem.call (Value.ref _) _ _) _ _ _ | with_reducible show wpAny _ _ (exec (Stmt.While _ _ _ _) _) _ _ _ | with_reducible show wpAny _ _ (pyIter _) _ _ _)); (first | ((with_reducible show wpAny _ _ (PySem.execs (_ :: _) _) _ _ _); (first | ((first | with_reducible show wpAny _ _ _ _ _ (PySem.Shared.mk _ _ _ (_ + _) _) | with_reducible show wpAny _ _ _ _ _ (PySem.Shared.mk _ _ _ (PySem.Shared.toks _) _)); (try dsimp only); refine normG s rfl ?_; intro tkN8; (try clear tkN9); rename Nat => tkN9) | dsimp only)) | (k_unfold; (try dsimp only)) | (k_end; wrow_close) | walk1 | (dsimp only; walk1) | (leave1; walk_say "STEP leave1"; try dsimp only) | fail "no step")))
      have hcL : ∀ j, j < ns.length → (ns.getD j 0 < x ↔ j < fl.length) := fun j hj => by rw [← hless]; exact cnt_lt hso j hj
      have hcU : ∀ j, j < ns.length → (ns.getD j 0 ≤ x ↔ j < fu.length) := fun j hj => by rw [← hupto]; exact cnt_le hso j hj
      clear hless hupto
      refine hideA ?_
      intro QC1 hQC1
      k_dflt (refine' use_same (bisL_d w mean mg mb Df ys fs _ hT (by omega) x tv (fun (a b : Nat) _ q1 q2 (q3 : fs.getD b 0 < x) => (Int.lt_of_le_of_lt (firsts_mono hso hlen h0 hfs q1 (by omega)) q3 : fs.getD a 0 < x))) ?k1 ?k2 ?k3 ?k4 ?k5 ?k6 ?k7 ?k9 ?k10 ?_; (((case k1 => k_asm); (case k2 => k_asm); (case k3 => k_asm); (case k4 => k_asm); (case k5 => k_asm); (case k6 => exact rfl); (case k7 => (((try simp only [List.append_nil, List.nil_append, List.cons_append, List.append_assoc]); first | exact (fun p hp => hp) | (simp only [List.forall_mem_cons, List.not_mem_nil, false_implies, implies_true, and_true, true_and]; (repeat' apply And.intro) <;> first | trivial | k_mem) | (simp; done)))); (case k9 => first | exact room1 (by assumption) (by decide) | ktr_room); (case k10 => first | exact units1 (by assumption) (by decide) | ktr_units))))
      rintro r hA tkA ⟨kL, tL, rfl, hBL⟩ FA NA
      refine hQC1 _ _ ?_
      clear hQC1
      first | refine normA s rfl ?_ | refine normR s rfl ?_ | skip
      (repeat' ((fail_if_success (first | with_reducible show wpAny _ _ (compareOp CmpOp.NotEq (Value.ref _) (Value.ref _)) _ _ _ | with_reducible show Exists _ | with_reducible show wpR _ _ _ _ _ _ | with_reducible show wpAny _ _ (PySem.call (Value.builtin "list.append") [_, Value.bytes _ _] _) _ _ _ | with_reducible show wpAny _ _ (PySem.exec (Stmt.Assign _ (Expr.ListComp _ _ _ _) _) _) _ _ _ | with_reducible show wpAny _ _ (PySem.eval (Expr.ListComp _ _ _ _) _) _ _ _ | with_reducible show wpAny _ _ (PySem.setItem _ _ _) _ _ _ | with_reducible show KswEnd _ _ _ _ _ _ _ _ _ _ _ _ | with_reducible show wpAny _ _ (PySem.call (Value.type "bytes") _ _) _ _ _ | with_reducible show wpAny _ _ (PySem.call (Value.ref _) _ _) _ _ _ | with_reducible show wpAny _ _ (exec (Stmt.While _ _ _ _) _) _ _ _ | with_reducible show wpAny _ _ (pyIter _) _ _ _)); (first | ((with_reducible show wpAny _ _ (PySem.execs (_ :: _) _) _ _ _); (first | ((first | with_reducible show wpAny _ _ _ _ _ (PySem.Shared.mk _ _ _ (_ + _) _) | with_reducible show wpAny _ _ _ _ _ (PySem.Shared.mk _ _ _ (PySem.Shared.toks _) _)); (try dsimp only); refine normG s rfl ?_; intro tkN8; (try clear tkN9); rename Nat => tkN9) | dsimp only)) | (k_unfold; (try dsimp only)) | (k_end; wrow_close) | walk1 | (dsimp only; walk1) | (leave1; walk_say "STEP leave1"; try dsimp only) | fail "no step")))
      refine hideA ?_
      intro QC2 hQC2
      k_dflt (refine' use_same (bisR_d w mean mg mb Df ys fs _ hT (by omega) x tv (fun (a b : Nat) _ q1 q2 (q3 : fs.getD b 0 ≤ x) => (Int.le_trans (firsts_mono hso hlen h0 hfs q1 (by omega)) q3 : fs.getD a 0 ≤ x))) ?k1 ?k2 ?k3 ?k4 ?k5 ?k6 ?k7 ?k9 ?k10 ?_; (((case k1 => k_asm); (case k2 => k_asm); (case k3 => k_asm); (case k4 => k_asm); (case k5 => k_asm); (case k6 => exact rfl); (case k7 => (((try simp only [List.append_nil, List.nil_append, List.cons_append, List.append_assoc]); first | exact (fun p hp => hp) | (simp only [List.forall_mem_cons, List.not_mem_nil, false_implies, implies_true, and_true, true_and]; (repeat' apply And.intro) <;> first | trivial | k_mem) | (simp; done)))); (case k9 => first | exact room1 (by assumption) (by decide) | ktr_room); (case k10 => first | exact units1 (by assumption) (by decide) | ktr_units))))
      rintro r hB tkB ⟨kR, tR, rfl, hBR⟩ FB NB
      refine hQC2 _ _ ?_
      clear hQC2
      first | refine normA s rfl ?_ | refine normR s rfl ?_ | skip
      rw [hfl] at hBL hBR
      have eL := firsts_at (p := fun y => y < x) hlen h0 hfs hl5b hcL hBL
      have eR := firsts_at (p := fun y => y ≤ x) hlen h0 hfs hl6b hcU hBR
      clear hBL hBR
      (repeat' ((fail_if_success (first | with_reducible show wpAny _ _ (compareOp CmpOp.NotEq (Value.ref _) (Value.ref _)) _ _ _ | with_reducible show Exists _ | with_reducible show wpR _ _ _ _ _ _ | with_reducible show wpAny _ _ (PySem.call (Value.builtin "list.append") [_, Value.bytes _ _] _) _ _ _ | with_reducible show wpAny _ _ (PySem.exec (Stmt.Assign _ (Expr.ListComp _ _ _ _) _) _) _ _ _ | with_reducible show wpAny _ _ (PySem.eval (Expr.ListComp _ _ _ _) _) _ _ _ | with_reducible show wpAny _ _ (PySem.setItem _ _ _) _ _ _ | with_reducible show KswEnd _ _ _ _ _ _ _ _ _ _ _ _ | with_reducible show wpAny _ _ (PySem.call (Value.type "bytes") _ _) _ _ _ | with_reducible show wpAny _ _ (PySem.call (Value.ref _) _ _) _ _ _ | with_reducible show wpAny _ _ (exec (Stmt.While _ _ _ _) _) _ _ _ | with_reducible show wpAny _ _ (pyIter _) _ _ _)); (first | ((with_reducible show wpAny _ _ (PySem.execs (_ :: _) _) _ _ _); (first | ((first | with_reducible show wpAny _ _ _ _ _ (PySem.Shared.mk _ _ _ (_ + _) _) | with_reducible show wpAny _ _ _ _ _ (PySem.Shared.mk _ _ _ (PySem.Shared.toks _) _)); (try dsimp only); refine normG s rfl ?_; intro tkN8; (try clear tkN9); rename Nat => tkN9) | dsimp only)) | (k_unfold; (try dsimp only)) | (k_end; wrow_close) | walk1 | (dsimp only; walk1) | (leave1; walk_say "STEP leave1"; try dsimp only) | fail "no step")))
      rename IsRange _ _ _ _ _ _ _ _ => hR1
      rename Fr _ _ _ _ => F7
      rename News _ _ _ _ => N7
      rename_i Dt ht0 l1t ht1 tk1 Dd hd0 l1u hd1 FF NN hq tkq tq1 tq2 tq3 aq
      clear FF NN aq
      subst eL eR
      obtain ⟨vs0, ws0, hv0, hw0, N8⟩ := News.two N7
      clear N7
      have hsubT : TabOff ⟨s1, o1, s2, o2, ps⟩ [Dl, Df, L' + 1 + 1, L' + 1, Dr, 95, I, Dt, Dd] := by
        refine ⟨hOff1.1, Apart.app (bs := [I, Dt, Dd]) hOff1.2.1 ?_, Apart.app (bs := [I, Dt, Dd]) hOff1.2.2 ?_⟩
        all_goals simp only [Apart]
        all_goals ((repeat' apply And.intro) <;> (first | exact True.intro | k_ne))
      first | (refine normG s rfl ?_; intro tkR9) | (refine normH s rfl ?_; intro tkR9) | skip
      refine rng_loop (σ := (List Value × Nat) × (List Value × Nat) × Tab) (n := R)
        (fun c => [(Dd, listOf c.2.1.1.toArray c.2.1.2), (Dt, listOf c.1.1.toArray c.1.2), (I, it), (Dl, listOf ws.toArray 0), (Df, LCg.lst ys), (L' + 1 + 1, oN2), (L' + 1, oR), (Dr, listOf itr.toArray nr), (95, tabObj c.2.2.ps), (c.2.2.s1, c.2.2.o1), (c.2.2.s2, c.2.2.o2)])
        (fun _ => []) [Str.ofString "high"] (fun i => ((i * W : Nat) : Int))
        (fun i c => (∃ X, IntsAre c.1.1 X ∧ IntsAre c.2.1.1 X ∧ X.length = 2 + 2 * i) ∧ TabOk c.2.2 ∧ TabOff c.2.2 [Dl, Df, L' + 1 + 1, L' + 1, Dr, 95, I, Dt, Dd]) ((ws0, 0), (vs0, 0), ⟨s1, o1, s2, o2, ps⟩)
        (by intro i; rw [Int.natCast_mul]; omega) rfl hR1 (rs_small (by omega) (by omega) (by omega) (by omega) (by omega) (by omega)) hsz F7 N8 (by kst_all) ⟨⟨_, hw0, hv0, rfl⟩, hTab, hsubT⟩ ?_ ?_
      · clear hTab hsubT N8 hv0 hw0 g0 g1 g1' g2 g2' g3 g3' g4 g4' g5 g5' g6 g6' k1 k1' k2 k2' k3 k3' k4 k4' k5 k5' k6 k6'
        intro I2 it2 i2 c8 t8 u8 h8 tk8 hi2 hP8 hne F N
        refine hideA ?_
        intro Q2 hQ2
        obtain ⟨⟨tw, tn⟩, ⟨dw, dn⟩, ⟨s1, o1, s2, o2, ps⟩⟩ := c8
        obtain ⟨⟨X, hX1, hX2, hXl⟩, hTab, hOff⟩ := hP8
        dsimp only [envOfC] at F N hTab hOff hX1 hX2 hne
        have hOff0 := hOff
        refine ledNe11 hne ?_
        intro y1 y2 y3 y4 y5 y6 y7 y8 y9 y10 y11
        have g0 := hOff.1
        refine Apart.elim9 hOff.2.1 ?_
        intro g1 g1' g2 g2' g3 g3' g4 g4' g5 g5' g6 g6' g7 g7' g8 g8' g9 g9'
        refine Apart.elim9 hOff.2.2 ?_
        intro k1 k1' k2 k2' k3 k3' k4 k4' k5 k5' k6 k6' k7 k7' k8 k8' k9 k9'
        clear hne hOff
        have hlt2 := succ_mul_le (W := W) hi2
        have hsl := bySort_len 0 hlen
        have htl := IntsAre.length hX1
        have hdl := IntsAre.length hX2
        have hdiv2 : ((i2 * W : Nat) : Int).fdiv (W : Int) = i2 := by
          rw [Int.fdiv_eq_ediv_of_nonneg _ (by omega), Int.natCast_mul, Int.mul_ediv_cancel _ (by omega)]
        have hmod2 : ((i2 : Nat) : Int).fmod 2 = ((i2 % 2 : Nat) : Int) := by rw [Int.fmod_eq_emod_of_nonneg _ (by decide)]; omega
        try dsimp only
        have z100 : (bySort W ns 0 R).length < 100 := by omega
        have zlo : (0 : Int) ≤ ((i2 * W : Nat) : Int) := by omega
        have zhi : ((i2 * W : Nat) : Int) ≤ ((i2 * W : Nat) : Int) + (W : Int) := by omega
        have zle : ((i2 * W : Nat) : Int) + (W : Int) ≤ ((bySort W ns 0 R).length : Int) := by omega
        have zab : ∀ a : Nat, ((i2 * W : Nat) : Int) ≤ (a : Int) → i2 * W ≤ a := fun a h => Int.ofNat_le.mp h
        have zbb : ∀ b : Nat, (b : Int) < ((i2 * W : Nat) : Int) + (W : Int) → b < i2 * W + W := fun b h => by omega
        rcases Nat.mod_two_eq_zero_or_one i2 with he | he
        · have hpar : (((i2 * W : Nat) : Int).fdiv (W : Int)).fmod 2 = 0 := by rw [hdiv2, hmod2, he]; rfl
          (repeat' ((fail_if_success (first | with_reducible show wpAny _ _ (compareOp CmpOp.NotEq (Value.ref _) (Value.ref _)) _ _ _ | with_reducible show Exists _ | with_reducible show wpR _ _ _ _ _ _ | with_reducible show wpAny _ _ (PySem.call (Value.builtin "list.append") [_, Value.bytes _ _] _) _ _ _ | with_reducible show wpAny _ _ (PySem.exec (Stmt.Assign _ (Expr.ListComp _ _ _ _) _) _) _ _ _ | with_reducible show wpAny _ _ (PySem.eval (Expr.ListComp _ _ _ _) _) _ _ _ | with_reducible show wpAny _ _ (PySem.setItem _ _ _) _ _ _ | with_reducible show KswEnd _ _ _ _ _ _ _ _ _ _ _ _ | with_reducible show wpAny _ _ (PySem.call (Value.type "bytes") _ _) _ _ _ | with_reducible show wpAny _ _ (PySem.call (Value.ref _) _ _) _ _ _ | with_reducible show wpAny _ _ (exec (Stmt.While _ _ _ _) _) _ _ _ | with_reducible show wpAny _ _ (pyIter _) _ _ _)); (first | ((with_reducible show wpAny _ _ (PySem.execs (_ :: _) _) _ _ _); (first | ((first | with_reducible show wpAny _ _ _ _ _ (PySem.Shared.mk _ _ _ (_ + _) _) | with_reducible show wpAny _ _ _ _ _ (PySem.Shared.mk _ _ _ (PySem.Shared.toks _) _)); (try dsimp only); refine normG s rfl ?_; intro tkN8; (try clear tkN9); rename Nat => tkN9) | dsimp only)) | (k_unfold; (try dsimp only)) | (k_end; wrow_close) | walk1 | (dsimp only; walk1) | (leave1; walk_say "STEP leave1"; try dsimp only) | fail "no step")))
          · k_dflt (refine' use_same (bisL_b w mean mg mb sb (bySort W ns 0 R) hsb z100 x ((i2 * W : Nat) : Int) (((i2 * W : Nat) : Int) + (W : Int)) _ _ _ _ zlo zhi zle (fun a b q1 q2 q3 q4 => Int.lt_of_le_of_lt (up_mono hso hlen hi2 he (zab a q1) q2 (zbb b q3)) q4)) ?k1 ?k2 ?k3 ?k4 ?k5 ?k6 ?k7 ?k9 ?k10 ?_; (((case k1 => k_asm); (case k2 => k_asm); (case k3 => k_asm); (case k4 => k_asm); (case k5 => k_asm); (case k6 => exact rfl); (case k7 => (((try simp only [List.append_nil, List.nil_append, List.cons_append, List.append_assoc]); first | exact (fun p hp => hp) | (simp only [List.forall_mem_cons, List.not_mem_nil, false_implies, implies_true, and_true, true_and]; (repeat' apply And.intro) <;> first | trivial | k_mem) | (simp; done)))); (case k9 => first | exact room1 (by assumption) (by decide) | ktr_room); (case k10 => first | exact units1 (by assumption) (by decide) | ktr_units))))
            rintro r hC tkC ⟨kC, tC, rfl, hBC⟩ FC NC
            have eC := row_up (p := fun y => y < x) hso hlen hi2 he hcL hBC
            clear hBC
            (repeat' ((fail_if_success (first | with_reducible show wpAny _ _ (compareOp CmpOp.NotEq (Value.ref _) (Value.ref _)) _ _ _ | with_reducible show Exists _ | with_reducible show wpR _ _ _ _ _ _ | with_reducible show wpAny _ _ (PySem.call (Value.builtin "list.append") [_, Value.bytes _ _] _) _ _ _ | with_reducible show wpAny _ _ (PySem.exec (Stmt.Assign _ (Expr.ListComp _ _ _ _) _) _) _ _ _ | with_reducible show wpAny _ _ (PySem.eval (Expr.ListComp _ _ _ _) _) _ _ _ | with_reducible show wpAny _ _ (PySem.setItem _ _ _) _ _ _ | with_reducible show KswEnd _ _ _ _ _ _ _ _ _ _ _ _ | with_reducible show wpAny _ _ (PySem.call (Value.type "bytes") _ _) _ _ _ | with_reducible show wpAny _ _ (PySem.call (Value.ref _) _ _) _ _ _ | with_reducible show wpAny _ _ (exec (Stmt.While _ _ _ _) _) _ _ _ | with_reducible show wpAny _ _ (pyIter _) _ _ _)); (first | ((with_reducible show wpAny _ _ (PySem.execs (_ :: _) _) _ _ _); (first | ((first | with_reducible show wpAny _ _ _ _ _ (PySem.Shared.mk _ _ _ (_ + _) _) | with_reducible show wpAny _ _ _ _ _ (PySem.Shared.mk _ _ _ (PySem.Shared.toks _) _)); (try dsimp only); refine normG s rfl ?_; intro tkN8; (try clear tkN9); rename Nat => tkN9) | dsimp only)) | (k_unfold; (try dsimp only)) | (k_end; wrow_close) | walk1 | (dsimp only; walk1) | (leave1; walk_say "STEP leave1"; try dsimp only) | fail "no step")))
            refine hideA ?_
            intro QC3 hQC3
            k_dflt (refine' use_same (bisR_b w mean mg mb sb (bySort W ns 0 R) hsb z100 x ((i2 * W : Nat) : Int) (((i2 * W : Nat) : Int) + (W : Int)) _ _ _ _ zlo zhi zle (fun a b q1 q2 q3 q4 => Int.le_trans (up_mono hso hlen hi2 he (zab a q1) q2 (zbb b q3)) q4)) ?k1 ?k2 ?k3 ?k4 ?k5 ?k6 ?k7 ?k9 ?k10 ?_; (((case k1 => k_asm); (case k2 => k_asm); (case k3 => k_asm); (case k4 => k_asm); (case k5 => k_asm); (case k6 => exact rfl); (case k7 => (((try simp only [List.append_nil, List.nil_append, List.cons_append, List.append_assoc]); first | exact (fun p hp => hp) | (simp only [List.forall_mem_cons, List.not_mem_nil, false_implies, implies_true, and_true, true_and]; (repeat' apply And.intro) <;> first | trivial | k_mem) | (simp; done)))); (case k9 => first | exact room1 (by assumption) (by decide) | ktr_room); (case k10 => first | exact units1 (by assumption) (by decide) | ktr_units))))
            rintro r hD tkD ⟨kD, tD, rfl, hBD⟩ FD ND
            refine hQC3 _ _ ?_
            clear hQC3
            first | refine normA s rfl ?_ | refine normR s rfl ?_ | skip
            have eD := row_up (p := fun y => y ≤ x) hso hlen hi2 he hcU hBD
            clear hBD
            (repeat' ((fail_if_success (first | with_reducible show wpAny _ _ (compareOp CmpOp.NotEq (Value.ref _) (Value.ref _)) _ _ _ | with_reducible show Exists _ | with_reducible show wpR _ _ _ _ _ _ | with_reducible show wpAny _ _ (PySem.call (Value.builtin "list.append") [_, Value.bytes _ _] _) _ _ _ | with_reducible show wpAny _ _ (PySem.exec (Stmt.Assign _ (Expr.ListComp _ _ _ _) _) _) _ _ _ | with_reducible show wpAny _ _ (PySem.eval (Expr.ListComp _ _ _ _) _) _ _ _ | with_reducible show wpAny _ _ (PySem.setItem _ _ _) _ _ _ | with_reducible show KswEnd _ _ _ _ _ _ _ _ _ _ _ _ | with_reducible show wpAny _ _ (PySem.call (Value.type "bytes") _ _) _ _ _ | with_reducible show wpAny _ _ (PySem.call (Value.ref _) _ _) _ _ _ | with_reducible show wpAny _ _ (exec (Stmt.While _ _ _ _) _) _ _ _ | with_reducible show wpAny _ _ (pyIter _) _ _ _)); (first | ((with_reducible show wpAny _ _ (PySem.execs (_ :: _) _) _ _ _); (first | ((first | with_reducible show wpAny _ _ _ _ _ (PySem.Shared.mk _ _ _ (_ + _) _) | with_reducible show wpAny _ _ _ _ _ (PySem.Shared.mk _ _ _ (PySem.Shared.toks _) _)); (try dsimp only); refine normG s rfl ?_; intro tkN8; (try clear tkN9); rename Nat => tkN9) | dsimp only)) | (k_unfold; (try dsimp only)) | (k_end; wrow_close) | walk1 | (dsimp only; walk1) | (leave1; walk_say "STEP leave1"; try dsimp only) | fail "no step")))
            refine iadd_K (by k_asm) (by k_asm) (by k_mem) (by simp) (by k_upd) (by simp; omega) ?_
            intro h9 F9 N9
            (repeat' ((fail_if_success (first | with_reducible show wpAny _ _ (compareOp CmpOp.NotEq (Value.ref _) (Value.ref _)) _ _ _ | with_reducible show Exists _ | with_reducible show wpR _ _ _ _ _ _ | with_reducible show wpAny _ _ (PySem.call (Value.builtin "list.append") [_, Value.bytes _ _] _) _ _ _ | with_reducible show wpAny _ _ (PySem.exec (Stmt.Assign _ (Expr.ListComp _ _ _ _) _) _) _ _ _ | with_reducible show wpAny _ _ (PySem.eval (Expr.ListComp _ _ _ _) _) _ _ _ | with_reducible show wpAny _ _ (PySem.setItem _ _ _) _ _ _ | with_reducible show KswEnd _ _ _ _ _ _ _ _ _ _ _ _ | with_reducible show wpAny _ _ (PySem.call (Value.type "bytes") _ _) _ _ _ | with_reducible show wpAny _ _ (PySem.call (Value.ref _) _ _) _ _ _ | with_reducible show wpAny _ _ (exec (Stmt.While _ _ _ _) _) _ _ _ | with_reducible show wpAny _ _ (pyIter _) _ _ _)); (first | ((with_reducible show wpAny _ _ (PySem.execs (_ :: _) _) _ _ _); (first | ((first | with_reducible show wpAny _ _ _ _ _ (PySem.Shared.mk _ _ _ (_ + _) _) | with_reducible show wpAny _ _ _ _ _ (PySem.Shared.mk _ _ _ (PySem.Shared.toks _) _)); (try dsimp only); refine normG s rfl ?_; intro tkN8; (try clear tkN9); rename Nat => tkN9) | dsimp only)) | (k_unfold; (try dsimp only)) | (k_end; wrow_close) | walk1 | (dsimp only; walk1) | (leave1; walk_say "STEP leave1"; try dsimp only) | fail "no step")))
            refine iadd_K (by k_asm) (by k_asm) (by k_mem) (by simp) (by k_upd) (by simp; omega) ?_
            intro hx Fx Nx
            (repeat' ((fail_if_success (first | with_reducible show wpAny _ _ (compareOp CmpOp.NotEq (Value.ref _) (Value.ref _)) _ _ _ | with_reducible show Exists _ | with_reducible show wpR _ _ _ _ _ _ | with_reducible show wpAny _ _ (PySem.call (Value.builtin "list.append") [_, Value.bytes _ _] _) _ _ _ | with_reducible show wpAny _ _ (PySem.exec (Stmt.Assign _ (Expr.ListComp _ _ _ _) _) _) _ _ _ | with_reducible show wpAny _ _ (PySem.eval (Expr.ListComp _ _ _ _) _) _ _ _ | with_reducible show wpAny _ _ (PySem.setItem _ _ _) _ _ _ | with_reducible show KswEnd _ _ _ _ _ _ _ _ _ _ _ _ | with_reducible show wpAny _ _ (PySem.call (Value.type "bytes") _ _) _ _ _ | with_reducible show wpAny _ _ (PySem.call (Value.ref _) _ _) _ _ _ | with_reducible show wpAny _ _ (exec (Stmt.While _ _ _ _) _) _ _ _ | with_reducible show wpAny _ _ (pyIter _) _ _ _)); (first | ((with_reducible show wpAny _ _ (PySem.execs (_ :: _) _) _ _ _); (first | ((first | with_reducible show wpAny _ _ _ _ _ (PySem.Shared.mk _ _ _ (_ + _) _) | with_reducible show wpAny _ _ _ _ _ (PySem.Shared.mk _ _ _ (PySem.Shared.toks _) _)); (try dsimp only); refine normG s rfl ?_; intro tkN8; (try clear tkN9); rename Nat => tkN9) | dsimp only)) | (k_unfold; (try dsimp only)) | (k_end; wrow_close) | walk1 | (dsimp only; walk1) | (leave1; walk_say "STEP leave1"; try dsimp only) | fail "no step")))
            refine hQ2 _ _ ?_
            dsimp only [RngPost]
            refine rng_end ((tw ++ _, tn + 1), (dw ++ _, dn + 1), ⟨s1, o1, s2, o2, ps⟩) (by assumption) (by assumption) (by k_mem) (by (((try simp only [List.append_nil, List.nil_append, List.cons_append, List.append_assoc]); first | exact (fun p hp => hp) | (simp only [List.forall_mem_cons, List.not_mem_nil, false_implies, implies_true, and_true, true_and]; (repeat' apply And.intro) <;> first | trivial | k_mem) | (simp; done)))) (by (((try simp only [List.append_nil, List.nil_append, List.cons_append, List.append_assoc]); first   | (simp only [List.forall_mem_cons, List.not_mem_nil, false_implies, implies_true, and_true, true_and, ne_eq]; done)   | ((simp only [List.forall_mem_cons, List.not_mem_nil, false_implies, implies_true, and_true, true_and]); (repeat' apply And.intro) <;> first | trivial | assumption | exact Ne.symm (by assumption) | k_ne)))) (by kst_all) (by ((intro z h1 h2 h3; (simp only [List.forall_mem_cons, List.not_mem_nil, false_implies, implies_true, and_true, ne_eq] at h2); (simp only [List.contains_cons, List.contains_nil, Bool.or_false, Bool.or_eq_false_iff, beq_eq_false_iff_ne, ne_eq] at h3); by_cases d1 : z = Str.ofString "due"; (· simp only [kstB, if_pos d1]); by_cases d2 : z = Str.ofString "told"; (· simp only [kstB, if_neg d1, if_pos d2]); (simp [kstB, h1, h2, h3, d1, d2]; done)))) ?_
            refine ⟨⟨_, hX1.append (.cons _ _ (.cons _ _ .nil)), ints_cast (hX2.append (.cons _ _ (.cons _ _ .nil))) ?_, len2 hXl⟩, hTab, ?_⟩
            · exact due2 eC eD
            · exact hOff0
          · exact absurd hpar (by assumption)
        · have hpar : ¬ (((i2 * W : Nat) : Int).fdiv (W : Int)).fmod 2 = 0 := by rw [hdiv2, hmod2, he]; decide
          (repeat' ((fail_if_success (first | with_reducible show wpAny _ _ (compareOp CmpOp.NotEq (Value.ref _) (Value.ref _)) _ _ _ | with_reducible show Exists _ | with_reducible show wpR _ _ _ _ _ _ | with_reducible show wpAny _ _ (PySem.call (Value.builtin "list.append") [_, Value.bytes _ _] _) _ _ _ | with_reducible show wpAny _ _ (PySem.exec (Stmt.Assign _ (Expr.ListComp _ _ _ _) _) _) _ _ _ | with_reducible show wpAny _ _ (PySem.eval (Expr.ListComp _ _ _ _) _) _ _ _ | with_reducible show wpAny _ _ (PySem.setItem _ _ _) _ _ _ | with_reducible show KswEnd _ _ _ _ _ _ _ _ _ _ _ _ | with_reducible show wpAny _ _ (PySem.call (Value.type "bytes") _ _) _ _ _ | with_reducible show wpAny _ _ (PySem.call (Value.ref _) _ _) _ _ _ | with_reducible show wpAny _ _ (exec (Stmt.While _ _ _ _) _) _ _ _ | with_reducible show wpAny _ _ (pyIter _) _ _ _)); (first | ((with_reducible show wpAny _ _ (PySem.execs (_ :: _) _) _ _ _); (first | ((first | with_reducible show wpAny _ _ _ _ _ (PySem.Shared.mk _ _ _ (_ + _) _) | with_reducible show wpAny _ _ _ _ _ (PySem.Shared.mk _ _ _ (PySem.Shared.toks _) _)); (try dsimp only); refine normG s rfl ?_; intro tkN8; (try clear tkN9); rename Nat => tkN9) | dsimp only)) | (k_unfold; (try dsimp only)) | (k_end; wrow_close) | walk1 | (dsimp only; walk1) | (leave1; walk_say "STEP leave1"; try dsimp only) | fail "no step")))
          · exact absurd (by assumption) hpar
          · rcases hTab with hTab | ⟨hTab, ⟨vs1, tt1, hd1, hq1⟩, ⟨vs2, tt2, hd2, hq2⟩⟩
            · dsimp only at hTab
              subst hTab
              (repeat' ((fail_if_success (first | with_reducible show wpAny _ _ (compareOp CmpOp.NotEq (Value.ref _) (Value.ref _)) _ _ _ | with_reducible show Exists _ | with_reducible show wpR _ _ _ _ _ _ | with_reducible show wpAny _ _ (PySem.call (Value.builtin "list.append") [_, Value.bytes _ _] _) _ _ _ | with_reducible show wpAny _ _ (PySem.exec (Stmt.Assign _ (Expr.ListComp _ _ _ _) _) _) _ _ _ | with_reducible show wpAny _ _ (PySem.eval (Expr.ListComp _ _ _ _) _) _ _ _ | with_reducible show wpAny _ _ (PySem.setItem _ _ _) _ _ _ | with_reducible show KswEnd _ _ _ _ _ _ _ _ _ _ _ _ | with_reducible show wpAny _ _ (PySem.call (Value.type "bytes") _ _) _ _ _ | with_reducible show wpAny _ _ (PySem.call (Value.ref _) _ _) _ _ _ | with_reducible show wpAny _ _ (exec (Stmt.While _ _ _ _) _) _ _ _ | with_reducible show wpAny _ _ (pyIter _) _ _ _)); (first | ((with_reducible show wpAny _ _ (PySem.execs (_ :: _) _) _ _ _); (first | ((first | with_reducible show wpAny _ _ _ _ _ (PySem.Shared.mk _ _ _ (_ + _) _) | with_reducible show wpAny _ _ _ _ _ (PySem.Shared.mk _ _ _ (PySem.Shared.toks _) _)); (try dsimp only); refine normG s rfl ?_; intro tkN8; (try clear tkN9); rename Nat => tkN9) | dsimp only)) | (k_unfold; (try dsimp only)) | (k_end; wrow_close) | walk1 | (dsimp only; walk1) | (leave1; walk_say "STEP leave1"; try dsimp only) | fail "no step")))
              rename_i f1' c1' oc1' vs1' tt1' ct1' hh1' tk1' F1' N1' hd1 hq1 ll1 ll2
              refine hideA ?_
              intro QC4 hQC4
              k_dflt (refine' use_same (bisR_k w mean mg mb sb (bySort W ns 0 R) hsb z100 (-x) ((i2 * W : Nat) : Int) (((i2 * W : Nat) : Int) + (W : Int)) _ _ _ _ zlo zhi zle _ _ _ _ _ _ _ _ _ _ _ hd1 hq1 (fun a b q1 q2 q3 q4 => Int.le_trans (Int.neg_le_neg (down_mono hso hlen hi2 he (zab a q1) q2 (zbb b q3))) q4)) ?k1 ?k2 ?k3 ?k4 ?k5 ?k6 ?k7 ?k9 ?k10 ?_; (((case k1 => k_asm); (case k2 => k_asm); (case k3 => k_asm); (case k4 => k_asm); (case k5 => k_asm); (case k6 => exact rfl); (case k7 => (((try simp only [List.append_nil, List.nil_append, List.cons_append, List.append_assoc]); first | exact (fun p hp => hp) | (simp only [List.forall_mem_cons, List.not_mem_nil, false_implies, implies_true, and_true, true_and]; (repeat' apply And.intro) <;> first | trivial | k_mem) | (simp; done)))); (case k9 => first | exact room1 (by assumption) (by decide) | ktr_room); (case k10 => first | exact units1 (by assumption) (by decide) | ktr_units))))
              rintro r hC tkC ⟨kC, tC, rfl, hBC⟩ FC NC
              refine hQC4 _ _ ?_
              clear hQC4
              first | refine normA s rfl ?_ | refine normR s rfl ?_ | skip
              have eC := row_down (p := fun y => y < x) (q := fun y => y ≤ -x) hso hlen hi2 he hcL (fun y => by omega) hBC
              clear hBC
              (repeat' ((fail_if_success (first | with_reducible show wpAny _ _ (compareOp CmpOp.NotEq (Value.ref _) (Value.ref _)) _ _ _ | with_reducible show Exists _ | with_reducible show wpR _ _ _ _ _ _ | with_reducible show wpAny _ _ (PySem.call (Value.builtin "list.append") [_, Value.bytes _ _] _) _ _ _ | with_reducible show wpAny _ _ (PySem.exec (Stmt.Assign _ (Expr.ListComp _ _ _ _) _) _) _ _ _ | with_reducible show wpAny _ _ (PySem.eval (Expr.ListComp _ _ _ _) _) _ _ _ | with_reducible show wpAny _ _ (PySem.setItem _ _ _) _ _ _ | with_reducible show KswEnd _ _ _ _ _ _ _ _ _ _ _ _ | with_reducible show wpAny _ _ (PySem.call (Value.type "bytes") _ _) _ _ _ | with_reducible show wpAny _ _ (PySem.call (Value.ref _) _ _) _ _ _ | with_reducible show wpAny _ _ (exec (Stmt.While _ _ _ _) _) _ _ _ | with_reducible show wpAny _ _ (pyIter _) _ _ _)); (first | ((with_reducible show wpAny _ _ (PySem.execs (_ :: _) _) _ _ _); (first | ((first | with_reducible show wpAny _ _ _ _ _ (PySem.Shared.mk _ _ _ (_ + _) _) | with_reducible show wpAny _ _ _ _ _ (PySem.Shared.mk _ _ _ (PySem.Shared.toks _) _)); (try dsimp only); refine normG s rfl ?_; intro tkN8; (try clear tkN9); rename Nat => tkN9) | dsimp only)) | (k_unfold; (try dsimp only)) | (k_end; wrow_close) | walk1 | (dsimp only; walk1) | (leave1; walk_say "STEP leave1"; try dsimp only) | fail "no step")))
              refine iadd_K (by k_asm) (by k_asm) (by k_mem) (by simp) (by k_upd) (by simp; omega) ?_
              intro h9 F9 N9
              (repeat' ((fail_if_success (first | with_reducible show wpAny _ _ (compareOp CmpOp.NotEq (Value.ref _) (Value.ref _)) _ _ _ | with_reducible show Exists _ | with_reducible show wpR _ _ _ _ _ _ | with_reducible show wpAny _ _ (PySem.call (Value.builtin "list.append") [_, Value.bytes _ _] _) _ _ _ | with_reducible show wpAny _ _ (PySem.exec (Stmt.Assign _ (Expr.ListComp _ _ _ _) _) _) _ _ _ | with_reducible show wpAny _ _ (PySem.eval (Expr.ListComp _ _ _ _) _) _ _ _ | with_reducible show wpAny _ _ (PySem.setItem _ _ _) _ _ _ | with_reducible show KswEnd _ _ _ _ _ _ _ _ _ _ _ _ | with_reducible show wpAny _ _ (PySem.call (Value.type "bytes") _ _) _ _ _ | with_reducible show wpAny _ _ (PySem.call (Value.ref _) _ _) _ _ _ | with_reducible show wpAny _ _ (exec (Stmt.While _ _ _ _) _) _ _ _ | with_reducible show wpAny _ _ (pyIter _) _ _ _)); (first | ((with_reducible show wpAny _ _ (PySem.execs (_ :: _) _) _ _ _); (first | ((first | with_reducible show wpAny _ _ _ _ _ (PySem.Shared.mk _ _ _ (_ + _) _) | with_reducible show wpAny _ _ _ _ _ (PySem.Shared.mk _ _ _ (PySem.Shared.toks _) _)); (try dsimp only); refine normG s rfl ?_; intro tkN8; (try clear tkN9); rename Nat => tkN9) | dsimp only)) | (k_unfold; (try dsimp only)) | (k_end; wrow_close) | walk1 | (dsimp only; walk1) | (leave1; walk_say "STEP leave1"; try dsimp only) | fail "no step")))
              rename_i f2' c2' oc2' vs2' tt2' ct2' hh2' tk2' F2' N2' hd2 hq2 ll3 ll4
              refine hideA ?_
              intro QC5 hQC5
              k_dflt (refine' use_same (bisL_k w mean mg mb sb (bySort W ns 0 R) hsb z100 (-x) ((i2 * W : Nat) : Int) (((i2 * W : Nat) : Int) + (W : Int)) _ _ _ _ zlo zhi zle _ _ _ _ _ _ _ _ _ _ _ hd2 hq2 (fun a b q1 q2 q3 q4 => Int.lt_of_le_of_lt (Int.neg_le_neg (down_mono hso hlen hi2 he (zab a q1) q2 (zbb b q3))) q4)) ?k1 ?k2 ?k3 ?k4 ?k5 ?k6 ?k7 ?k9 ?k10 ?_; (((case k1 => k_asm); (case k2 => k_asm); (case k3 => k_asm); (case k4 => k_asm); (case k5 => k_asm); (case k6 => exact rfl); (case k7 => (((try simp only [List.append_nil, List.nil_append, List.cons_append, List.append_assoc]); first | exact (fun p hp => hp) | (simp only [List.forall_mem_cons, List.not_mem_nil, false_implies, implies_true, and_true, true_and]; (repeat' apply And.intro) <;> first | trivial | k_mem) | (simp; done)))); (case k9 => first | exact room1 (by assumption) (by decide) | ktr_room); (case k10 => first | exact units1 (by assumption) (by decide) | ktr_units))))
              rintro r hD tkD ⟨kD, tD, rfl, hBD⟩ FD ND
              refine hQC5 _ _ ?_
              clear hQC5
              first | refine normA s rfl ?_ | refine normR s rfl ?_ | skip
              have eD := row_down (p := fun y => y ≤ x) (q := fun y => y < -x) hso hlen hi2 he hcU (fun y => by omega) hBD
              clear hBD
              (repeat' ((fail_if_success (first | with_reducible show wpAny _ _ (compareOp CmpOp.NotEq (Value.ref _) (Value.ref _)) _ _ _ | with_reducible show Exists _ | with_reducible show wpR _ _ _ _ _ _ | with_reducible show wpAny _ _ (PySem.call (Value.builtin "list.append") [_, Value.bytes _ _] _) _ _ _ | with_reducible show wpAny _ _ (PySem.exec (Stmt.Assign _ (Expr.ListComp _ _ _ _) _) _) _ _ _ | with_reducible show wpAny _ _ (PySem.eval (Expr.ListComp _ _ _ _) _) _ _ _ | with_reducible show wpAny _ _ (PySem.setItem _ _ _) _ _ _ | with_reducible show KswEnd _ _ _ _ _ _ _ _ _ _ _ _ | with_reducible show wpAny _ _ (PySem.call (Value.type "bytes") _ _) _ _ _ | with_reducible show wpAny _ _ (PySem.call (Value.ref _) _ _) _ _ _ | with_reducible show wpAny _ _ (exec (Stmt.While _ _ _ _) _) _ _ _ | with_reducible show wpAny _ _ (pyIter _) _ _ _)); (first | ((with_reducible show wpAny _ _ (PySem.execs (_ :: _) _) _ _ _); (first | ((first | with_reducible show wpAny _ _ _ _ _ (PySem.Shared.mk _ _ _ (_ + _) _) | with_reducible show wpAny _ _ _ _ _ (PySem.Shared.mk _ _ _ (PySem.Shared.toks _) _)); (try dsimp only); refine normG s rfl ?_; intro tkN8; (try clear tkN9); rename Nat => tkN9) | dsimp only)) | (k_unfold; (try dsimp only)) | (k_end; wrow_close) | walk1 | (dsimp only; walk1) | (leave1; walk_say "STEP leave1"; try dsimp only) | fail "no step")))
              refine iadd_K (by k_asm) (by k_asm) (by k_mem) (by simp) (by k_upd) (by simp; omega) ?_
              intro hx Fx Nx
              (repeat' ((fail_if_success (first | with_reducible show wpAny _ _ (compareOp CmpOp.NotEq (Value.ref _) (Value.ref _)) _ _ _ | with_reducible show Exists _ | with_reducible show wpR _ _ _ _ _ _ | with_reducible show wpAny _ _ (PySem.call (Value.builtin "list.append") [_, Value.bytes _ _] _) _ _ _ | with_reducible show wpAny _ _ (PySem.exec (Stmt.Assign _ (Expr.ListComp _ _ _ _) _) _) _ _ _ | with_reducible show wpAny _ _ (PySem.eval (Expr.ListComp _ _ _ _) _) _ _ _ | with_reducible show wpAny _ _ (PySem.setItem _ _ _) _ _ _ | with_reducible show KswEnd _ _ _ _ _ _ _ _ _ _ _ _ | with_reducible show wpAny _ _ (PySem.call (Value.type "bytes") _ _) _ _ _ | with_reducible show wpAny _ _ (PySem.call (Value.ref _) _ _) _ _ _ | with_reducible show wpAny _ _ (exec (Stmt.While _ _ _ _) _) _ _ _ | with_reducible show wpAny _ _ (pyIter _) _ _ _)); (first | ((with_reducible show wpAny _ _ (PySem.execs (_ :: _) _) _ _ _); (first | ((first | with_reducible show wpAny _ _ _ _ _ (PySem.Shared.mk _ _ _ (_ + _) _) | with_reducible show wpAny _ _ _ _ _ (PySem.Shared.mk _ _ _ (PySem.Shared.toks _) _)); (try dsimp only); refine normG s rfl ?_; intro tkN8; (try clear tkN9); rename Nat => tkN9) | dsimp only)) | (k_unfold; (try dsimp only)) | (k_end; wrow_close) | walk1 | (dsimp only; walk1) | (leave1; walk_say "STEP leave1"; try dsimp only) | fail "no step")))
              refine iadd_K (by k_asm) (by k_asm) (by k_mem) (by simp) (by k_upd) (by simp; omega) ?_
              intro hy Fy Ny
              (repeat' ((fail_if_success (first | with_reducible show wpAny _ _ (compareOp CmpOp.NotEq (Value.ref _) (Value.ref _)) _ _ _ | with_reducible show Exists _ | with_reducible show wpR _ _ _ _ _ _ | with_reducible show wpAny _ _ (PySem.call (Value.builtin "list.append") [_, Value.bytes _ _] _) _ _ _ | with_reducible show wpAny _ _ (PySem.exec (Stmt.Assign _ (Expr.ListComp _ _ _ _) _) _) _ _ _ | with_reducible show wpAny _ _ (PySem.eval (Expr.ListComp _ _ _ _) _) _ _ _ | with_reducible show wpAny _ _ (PySem.setItem _ _ _) _ _ _ | with_reducible show KswEnd _ _ _ _ _ _ _ _ _ _ _ _ | with_reducible show wpAny _ _ (PySem.call (Value.type "bytes") _ _) _ _ _ | with_reducible show wpAny _ _ (PySem.call (Value.ref _) _ _) _ _ _ | with_reducible show wpAny _ _ (exec (Stmt.While _ _ _ _) _) _ _ _ | with_reducible show wpAny _ _ (pyIter _) _ _ _)); (first | ((with_reducible show wpAny _ _ (PySem.execs (_ :: _) _) _ _ _); (first | ((first | with_reducible show wpAny _ _ _ _ _ (PySem.Shared.mk _ _ _ (_ + _) _) | with_reducible show wpAny _ _ _ _ _ (PySem.Shared.mk _ _ _ (PySem.Shared.toks _) _)); (try dsimp only); refine normG s rfl ?_; intro tkN8; (try clear tkN9); rename Nat => tkN9) | dsimp only)) | (k_unfold; (try dsimp only)) | (k_end; wrow_close) | walk1 | (dsimp only; walk1) | (leave1; walk_say "STEP leave1"; try dsimp only) | fail "no step")))
              refine hQ2 _ _ ?_
              dsimp only [RngPost]
              refine rng_end ((_, tn + 1 + 1), (_, dn + 1), ⟨c1', oc1', c2', oc2', _⟩) (by assumption) (by assumption) (by k_mem) (by (((try simp only [List.append_nil, List.nil_append, List.cons_append, List.append_assoc]); first | exact (fun p hp => hp) | (simp only [List.forall_mem_cons, List.not_mem_nil, false_implies, implies_true, and_true, true_and]; (repeat' apply And.intro) <;> first | trivial | k_mem) | (simp; done)))) ?zap (by kst_all) (by ((intro z h1 h2 h3; (simp only [List.forall_mem_cons, List.not_mem_nil, false_implies, implies_true, and_true, ne_eq] at h2); (simp only [List.contains_cons, List.contains_nil, Bool.or_false, Bool.or_eq_false_iff, beq_eq_false_iff_ne, ne_eq] at h3); by_cases d1 : z = Str.ofString "due"; (· simp only [kstB, if_pos d1]); by_cases d2 : z = Str.ofString "told"; (· simp only [kstB, if_neg d1, if_pos d2]); (simp [kstB, h1, h2, h3, d1, d2]; done)))) ?_
              case zap =>
                have z1 : @LT.lt Nat _ I2 c1' := by first | assumption | omega
                have z2 : @LT.lt Nat _ I2 c2' := by first | assumption | omega
                simp only [List.forall_mem_cons, List.not_mem_nil, false_implies, implies_true, and_true, true_and]
                (repeat' apply And.intro) <;> (first | assumption | exact Ne.symm (by assumption) | ((try dsimp only); k_ne))
              refine ⟨⟨_, hX1.append (.cons _ _ (.cons _ _ .nil)), ints_cast (hX2.append (.cons _ _ (.cons _ _ .nil))) ?_, len2 hXl⟩, .inr ⟨rfl, ⟨_, _, hd1, hq1⟩, ⟨_, _, hd2, hq2⟩⟩, ?_⟩
              · exact due2 eC eD
              · simp only [TabOff, Apart]
                (repeat' apply And.intro) <;> (first | exact True.intro | k_ne)
            · dsimp only at hTab
              subst hTab
              (repeat' ((fail_if_success (first | with_reducible show wpAny _ _ (compareOp CmpOp.NotEq (Value.ref _) (Value.ref _)) _ _ _ | with_reducible show Exists _ | with_reducible show wpR _ _ _ _ _ _ | with_reducible show wpAny _ _ (PySem.call (Value.builtin "list.append") [_, Value.bytes _ _] _) _ _ _ | with_reducible show wpAny _ _ (PySem.exec (Stmt.Assign _ (Expr.ListComp _ _ _ _) _) _) _ _ _ | with_reducible show wpAny _ _ (PySem.eval (Expr.ListComp _ _ _ _) _) _ _ _ | with_reducible show wpAny _ _ (PySem.setItem _ _ _) _ _ _ | with_reducible show KswEnd _ _ _ _ _ _ _ _ _ _ _ _ | with_reducible show wpAny _ _ (PySem.call (Value.type "bytes") _ _) _ _ _ | with_reducible show wpAny _ _ (PySem.call (Value.ref _) _ _) _ _ _ | with_reducible show wpAny _ _ (exec (Stmt.While _ _ _ _) _) _ _ _ | with_reducible show wpAny _ _ (pyIter _) _ _ _)); (first | ((with_reducible show wpAny _ _ (PySem.execs (_ :: _) _) _ _ _); (first | ((first | with_reducible show wpAny _ _ _ _ _ (PySem.Shared.mk _ _ _ (_ + _) _) | with_reducible show wpAny _ _ _ _ _ (PySem.Shared.mk _ _ _ (PySem.Shared.toks _) _)); (try dsimp only); refine normG s rfl ?_; intro tkN8; (try clear tkN9); rename Nat => tkN9) | dsimp only)) | (k_unfold; (try dsimp only)) | (k_end; wrow_close) | walk1 | (dsimp only; walk1) | (leave1; walk_say "STEP leave1"; try dsimp only) | fail "no step")))
              refine hideA ?_
              intro QC6 hQC6
              k_dflt (refine' use_same (bisR_k w mean mg mb sb (bySort W ns 0 R) hsb z100 (-x) ((i2 * W : Nat) : Int) (((i2 * W : Nat) : Int) + (W : Int)) _ _ _ _ zlo zhi zle _ _ _ _ _ _ _ _ _ _ _ hd1 hq1 (fun a b q1 q2 q3 q4 => Int.le_trans (Int.neg_le_neg (down_mono hso hlen hi2 he (zab a q1) q2 (zbb b q3))) q4)) ?k1 ?k2 ?k3 ?k4 ?k5 ?k6 ?k7 ?k9 ?k10 ?_; (((case k1 => k_asm); (case k2 => k_asm); (case k3 => k_asm); (case k4 => k_asm); (case k5 => k_asm); (case k6 => exact rfl); (case k7 => (((try simp only [List.append_nil, List.nil_append, List.cons_append, List.append_assoc]); first | exact (fun p hp => hp) | (simp only [List.forall_mem_cons, List.not_mem_nil, false_implies, implies_true, and_true, true_and]; (repeat' apply And.intro) <;> first | trivial | k_mem) | (simp; done)))); (case k9 => first | exact room1 (by assumption) (by decide) | ktr_room); (case k10 => first | exact units1 (by assumption) (by decide) | ktr_units))))
              rintro r hC tkC ⟨kC, tC, rfl, hBC⟩ FC NC
              refine hQC6 _ _ ?_
              clear hQC6
              first | refine normA s rfl ?_ | refine normR s rfl ?_ | skip
              have eC := row_down (p := fun y => y < x) (q := fun y => y ≤ -x) hso hlen hi2 he hcL (fun y => by omega) hBC
              clear hBC
              (repeat' ((fail_if_success (first | with_reducible show wpAny _ _ (compareOp CmpOp.NotEq (Value.ref _) (Value.ref _)) _ _ _ | with_reducible show Exists _ | with_reducible show wpR _ _ _ _ _ _ | with_reducible show wpAny _ _ (PySem.call (Value.builtin "list.append") [_, Value.bytes _ _] _) _ _ _ | with_reducible show wpAny _ _ (PySem.exec (Stmt.Assign _ (Expr.ListComp _ _ _ _) _) _) _ _ _ | with_reducible show wpAny _ _ (PySem.eval (Expr.ListComp _ _ _ _) _) _ _ _ | with_reducible show wpAny _ _ (PySem.setItem _ _ _) _ _ _ | with_reducible show KswEnd _ _ _ _ _ _ _ _ _ _ _ _ | with_reducible show wpAny _ _ (PySem.call (Value.type "bytes") _ _) _ _ _ | with_reducible show wpAny _ _ (PySem.call (Value.ref _) _ _) _ _ _ | with_reducible show wpAny _ _ (exec (Stmt.While _ _ _ _) _) _ _ _ | with_reducible show wpAny _ _ (pyIter _) _ _ _)); (first | ((with_reducible show wpAny _ _ (PySem.execs (_ :: _) _) _ _ _); (first | ((first | with_reducible show wpAny _ _ _ _ _ (PySem.Shared.mk _ _ _ (_ + _) _) | with_reducible show wpAny _ _ _ _ _ (PySem.Shared.mk _ _ _ (PySem.Shared.toks _) _)); (try dsimp only); refine normG s rfl ?_; intro tkN8; (try clear tkN9); rename Nat => tkN9) | dsimp only)) | (k_unfold; (try dsimp only)) | (k_end; wrow_close) | walk1 | (dsimp only; walk1) | (leave1; walk_say "STEP leave1"; try dsimp only) | fail "no step")))
              refine iadd_K (by k_asm) (by k_asm) (by k_mem) (by simp) (by k_upd) (by simp; omega) ?_
              intro h9 F9 N9
              (repeat' ((fail_if_success (first | with_reducible show wpAny _ _ (compareOp CmpOp.NotEq (Value.ref _) (Value.ref _)) _ _ _ | with_reducible show Exists _ | with_reducible show wpR _ _ _ _ _ _ | with_reducible show wpAny _ _ (PySem.call (Value.builtin "list.append") [_, Value.bytes _ _] _) _ _ _ | with_reducible show wpAny _ _ (PySem.exec (Stmt.Assign _ (Expr.ListComp _ _ _ _) _) _) _ _ _ | with_reducible show wpAny _ _ (PySem.eval (Expr.ListComp _ _ _ _) _) _ _ _ | with_reducible show wpAny _ _ (PySem.setItem _ _ _) _ _ _ | with_reducible show KswEnd _ _ _ _ _ _ _ _ _ _ _ _ | with_reducible show wpAny _ _ (PySem.call (Value.type "bytes") _ _) _ _ _ | with_reducible show wpAny _ _ (PySem.call (Value.ref _) _ _) _ _ _ | with_reducible show wpAny _ _ (exec (Stmt.While _ _ _ _) _) _ _ _ | with_reducible show wpAny _ _ (pyIter _) _ _ _)); (first | ((with_reducible show wpAny _ _ (PySem.execs (_ :: _) _) _ _ _); (first | ((first | with_reducible show wpAny _ _ _ _ _ (PySem.Shared.mk _ _ _ (_ + _) _) | with_reducible show wpAny _ _ _ _ _ (PySem.Shared.mk _ _ _ (PySem.Shared.toks _) _)); (try dsimp only); refine normG s rfl ?_; intro tkN8; (try clear tkN9); rename Nat => tkN9) | dsimp only)) | (k_unfold; (try dsimp only)) | (k_end; wrow_close) | walk1 | (dsimp only; walk1) | (leave1; walk_say "STEP leave1"; try dsimp only) | fail "no step")))
              refine hideA ?_
              intro QC7 hQC7
              k_dflt (refine' use_same (bisL_k w mean mg mb sb (bySort W ns 0 R) hsb z100 (-x) ((i2 * W : Nat) : Int) (((i2 * W : Nat) : Int) + (W : Int)) _ _ _ _ zlo zhi zle _ _ _ _ _ _ _ _ _ _ _ hd2 hq2 (fun a b q1 q2 q3 q4 => Int.lt_of_le_of_lt (Int.neg_le_neg (down_mono hso hlen hi2 he (zab a q1) q2 (zbb b q3))) q4)) ?k1 ?k2 ?k3 ?k4 ?k5 ?k6 ?k7 ?k9 ?k10 ?_; (((case k1 => k_asm); (case k2 => k_asm); (case k3 => k_asm); (case k4 => k_asm); (case k5 => k_asm); (case k6 => exact rfl); (case k7 => (((try simp only [List.append_nil, List.nil_append, List.cons_append, List.append_assoc]); first | exact (fun p hp => hp) | (simp only [List.forall_mem_cons, List.not_mem_nil, false_implies, implies_true, and_true, true_and]; (repeat' apply And.intro) <;> first | trivial | k_mem) | (simp; done)))); (case k9 => first | exact room1 (by assumption) (by decide) | ktr_room); (case k10 => first | exact units1 (by assumption) (by decide) | ktr_units))))
              rintro r hD tkD ⟨kD, tD, rfl, hBD⟩ FD ND
              refine hQC7 _ _ ?_
              clear hQC7
              first | refine normA s rfl ?_ | refine normR s rfl ?_ | skip
              have eD := row_down (p := fun y => y ≤ x) (q := fun y => y < -x) hso hlen hi2 he hcU (fun y => by omega) hBD
              clear hBD
              (repeat' ((fail_if_success (first | with_reducible show wpAny _ _ (compareOp CmpOp.NotEq (Value.ref _) (Value.ref _)) _ _ _ | with_reducible show Exists _ | with_reducible show wpR _ _ _ _ _ _ | with_reducible show wpAny _ _ (PySem.call (Value.builtin "list.append") [_, Value.bytes _ _] _) _ _ _ | with_reducible show wpAny _ _ (PySem.exec (Stmt.Assign _ (Expr.ListComp _ _ _ _) _) _) _ _ _ | with_reducible show wpAny _ _ (PySem.eval (Expr.ListComp _ _ _ _) _) _ _ _ | with_reducible show wpAny _ _ (PySem.setItem _ _ _) _ _ _ | with_reducible show KswEnd _ _ _ _ _ _ _ _ _ _ _ _ | with_reducible show wpAny _ _ (PySem.call (Value.type "bytes") _ _) _ _ _ | with_reducible show wpAny _ _ (PySem.call (Value.ref _) _ _) _ _ _ | with_reducible show wpAny _ _ (exec (Stmt.While _ _ _ _) _) _ _ _ | with_reducible show wpAny _ _ (pyIter _) _ _ _)); (first | ((with_reducible show wpAny _ _ (PySem.execs (_ :: _) _) _ _ _); (first | ((first | with_reducible show wpAny _ _ _ _ _ (PySem.Shared.mk _ _ _ (_ + _) _) | with_reducible show wpAny _ _ _ _ _ (PySem.Shared.mk _ _ _ (PySem.Shared.toks _) _)); (try dsimp only); refine normG s rfl ?_; intro tkN8; (try clear tkN9); rename Nat => tkN9) | dsimp only)) | (k_unfold; (try dsimp only)) | (k_end; wrow_close) | walk1 | (dsimp only; walk1) | (leave1; walk_say "STEP leave1"; try dsimp only) | fail "no step")))
              refine iadd_K (by k_asm) (by k_asm) (by k_mem) (by simp) (by k_upd) (by simp; omega) ?_
              intro hx Fx Nx
              (repeat' ((fail_if_success (first | with_reducible show wpAny _ _ (compareOp CmpOp.NotEq (Value.ref _) (Value.ref _)) _ _ _ | with_reducible show Exists _ | with_reducible show wpR _ _ _ _ _ _ | with_reducible show wpAny _ _ (PySem.call (Value.builtin "list.append") [_, Value.bytes _ _] _) _ _ _ | with_reducible show wpAny _ _ (PySem.exec (Stmt.Assign _ (Expr.ListComp _ _ _ _) _) _) _ _ _ | with_reducible show wpAny _ _ (PySem.eval (Expr.ListComp _ _ _ _) _) _ _ _ | with_reducible show wpAny _ _ (PySem.setItem _ _ _) _ _ _ | with_reducible show KswEnd _ _ _ _ _ _ _ _ _ _ _ _ | with_reducible show wpAny _ _ (PySem.call (Value.type "bytes") _ _) _ _ _ | with_reducible show wpAny _ _ (PySem.call (Value.ref _) _ _) _ _ _ | with_reducible show wpAny _ _ (exec (Stmt.While _ _ _ _) _) _ _ _ | with_reducible show wpAny _ _ (pyIter _) _ _ _)); (first | ((with_reducible show wpAny _ _ (PySem.execs (_ :: _) _) _ _ _); (first | ((first | with_reducible show wpAny _ _ _ _ _ (PySem.Shared.mk _ _ _ (_ + _) _) | with_reducible show wpAny _ _ _ _ _ (PySem.Shared.mk _ _ _ (PySem.Shared.toks _) _)); (try dsimp only); refine normG s rfl ?_; intro tkN8; (try clear tkN9); rename Nat => tkN9) | dsimp only)) | (k_unfold; (try dsimp only)) | (k_end; wrow_close) | walk1 | (dsimp only; walk1) | (leave1; walk_say "STEP leave1"; try dsimp only) | fail "no step")))
              refine iadd_K (by k_asm) (by k_asm) (by k_mem) (by simp) (by k_upd) (by simp; omega) ?_
              intro hy Fy Ny
              (repeat' ((fail_if_success (first | with_reducible show wpAny _ _ (compareOp CmpOp.NotEq (Value.ref _) (Value.ref _)) _ _ _ | with_reducible show Exists _ | with_reducible show wpR _ _ _ _ _ _ | with_reducible show wpAny _ _ (PySem.call (Value.builtin "list.append") [_, Value.bytes _ _] _) _ _ _ | with_reducible show wpAny _ _ (PySem.exec (Stmt.Assign _ (Expr.ListComp _ _ _ _) _) _) _ _ _ | with_reducible show wpAny _ _ (PySem.eval (Expr.ListComp _ _ _ _) _) _ _ _ | with_reducible show wpAny _ _ (PySem.setItem _ _ _) _ _ _ | with_reducible show KswEnd _ _ _ _ _ _ _ _ _ _ _ _ | with_reducible show wpAny _ _ (PySem.call (Value.type "bytes") _ _) _ _ _ | with_reducible show wpAny _ _ (PySem.call (Value.ref _) _ _) _ _ _ | with_reducible show wpAny _ _ (exec (Stmt.While _ _ _ _) _) _ _ _ | with_reducible show wpAny _ _ (pyIter _) _ _ _)); (first | ((with_reducible show wpAny _ _ (PySem.execs (_ :: _) _) _ _ _); (first | ((first | with_reducible show wpAny _ _ _ _ _ (PySem.Shared.mk _ _ _ (_ + _) _) | with_reducible show wpAny _ _ _ _ _ (PySem.Shared.mk _ _ _ (PySem.Shared.toks _) _)); (try dsimp only); refine normG s rfl ?_; intro tkN8; (try clear tkN9); rename Nat => tkN9) | dsimp only)) | (k_unfold; (try dsimp only)) | (k_end; wrow_close) | walk1 | (dsimp only; walk1) | (leave1; walk_say "STEP leave1"; try dsimp only) | fail "no step")))
              refine hQ2 _ _ ?_
              dsimp only [RngPost]
              refine rng_end ((_, tn + 1 + 1), (_, dn + 1), ⟨s1, o1, s2, o2, _⟩) (by assumption) (by assumption) (by k_mem) (by (((try simp only [List.append_nil, List.nil_append, List.cons_append, List.append_assoc]); first | exact (fun p hp => hp) | (simp only [List.forall_mem_cons, List.not_mem_nil, false_implies, implies_true, and_true, true_and]; (repeat' apply And.intro) <;> first | trivial | k_mem) | (simp; done)))) ?zap (by kst_all) (by ((intro z h1 h2 h3; (simp only [List.forall_mem_cons, List.not_mem_nil, false_implies, implies_true, and_true, ne_eq] at h2); (simp only [List.contains_cons, List.contains_nil, Bool.or_false, Bool.or_eq_false_iff, beq_eq_false_iff_ne, ne_eq] at h3); by_cases d1 : z = Str.ofString "due"; (· simp only [kstB, if_pos d1]); by_cases d2 : z = Str.ofString "told"; (· simp only [kstB, if_neg d1, if_pos d2]); (simp [kstB, h1, h2, h3, d1, d2]; done)))) ?_
              case zap =>
                simp only [List.forall_mem_cons, List.not_mem_nil, false_implies, implies_true, and_true, true_and]
                (repeat' apply And.intro) <;> (first | assumption | exact Ne.symm (by assumption) | ((try dsimp only); k_ne))
              refine ⟨⟨_, hX1.append (.cons _ _ (.cons _ _ .nil)), ints_cast (hX2.append (.cons _ _ (.cons _ _ .nil))) ?_, len2 hXl⟩, .inr ⟨rfl, ⟨_, _, hd1, hq1⟩, ⟨_, _, hd2, hq2⟩⟩, ?_⟩
              · exact due2 eC eD
              · exact hOff0
      · intro c8 u8 h8 tk8 hP8 F N
        obtain ⟨⟨tw, tn⟩, ⟨dw, dn⟩, ⟨s1, o1, s2, o2, ps⟩⟩ := c8
        obtain ⟨⟨X, hX1, hX2, hXl⟩, hTab, hOff⟩ := hP8
        dsimp only [envOfC] at F N hTab hOff hX1 hX2
        have hOff0 := hOff
        have g0 := hOff.1
        refine Apart.elim9 hOff.2.1 ?_
        intro g1 g1' g2 g2' g3 g3' g4 g4' g5 g5' g6 g6' g7 g7' g8 g8' g9 g9'
        refine Apart.elim9 hOff.2.2 ?_
        intro k1 k1' k2 k2' k3 k3' k4 k4' k5 k5' k6 k6' k7 k7' k8 k8' k9 k9'
        clear hOff
        (repeat' ((fail_if_success (first | with_reducible show wpAny _ _ (compareOp CmpOp.NotEq (Value.ref _) (Value.ref _)) _ _ _ | with_reducible show Exists _ | with_reducible show wpR _ _ _ _ _ _ | with_reducible show wpAny _ _ (PySem.call (Value.builtin "list.append") [_, Value.bytes _ _] _) _ _ _ | with_reducible show wpAny _ _ (PySem.exec (Stmt.Assign _ (Expr.ListComp _ _ _ _) _) _) _ _ _ | with_reducible show wpAny _ _ (PySem.eval (Expr.ListComp _ _ _ _) _) _ _ _ | with_reducible show wpAny _ _ (PySem.setItem _ _ _) _ _ _ | with_reducible show KswEnd _ _ _ _ _ _ _ _ _ _ _ _ | with_reducible show wpAny _ _ (PySem.call (Value.type "bytes") _ _) _ _ _ | with_reducible show wpAny _ _ (PySem.call (Value.ref _) _ _) _ _ _ | with_reducible show wpAny _ _ (exec (Stmt.While _ _ _ _) _) _ _ _ | with_reducible show wpAny _ _ (pyIter _) _ _ _)); (first | ((with_reducible show wpAny _ _ (PySem.execs (_ :: _) _) _ _ _); (first | ((first | with_reducible show wpAny _ _ _ _ _ (PySem.Shared.mk _ _ _ (_ + _) _) | with_reducible show wpAny _ _ _ _ _ (PySem.Shared.mk _ _ _ (PySem.Shared.toks _) _)); (try dsimp only); refine normG s rfl ?_; intro tkN8; (try clear tkN9); rename Nat => tkN9) | dsimp only)) | (k_unfold; (try dsimp only)) | (k_end; wrow_close) | walk1 | (dsimp only; walk1) | (leave1; walk_say "STEP leave1"; try dsimp only) | fail "no step")))
        refine ke_ne_ints (xs := tw) (ys := dw) ⟨_, (N (Dt, listOf tw.toArray tn) (by k_mem)).1, rfl, _, rfl⟩ ⟨_, (N (Dd, listOf dw.toArray dn) (by k_mem)).1, rfl, _, rfl⟩ hX1 hX2 (by first | ktr_units | units_room) ?_
        rw [show (!decide (X = X)) = false by simp]
        (repeat' ((fail_if_success (first | with_reducible show wpAny _ _ (compareOp CmpOp.NotEq (Value.ref _) (Value.ref _)) _ _ _ | with_reducible show Exists _ | with_reducible show wpR _ _ _ _ _ _ | with_reducible show wpAny _ _ (PySem.call (Value.builtin "list.append") [_, Value.bytes _ _] _) _ _ _ | with_reducible show wpAny _ _ (PySem.exec (Stmt.Assign _ (Expr.ListComp _ _ _ _) _) _) _ _ _ | with_reducible show wpAny _ _ (PySem.eval (Expr.ListComp _ _ _ _) _) _ _ _ | with_reducible show wpAny _ _ (PySem.setItem _ _ _) _ _ _ | with_reducible show KswEnd _ _ _ _ _ _ _ _ _ _ _ _ | with_reducible show wpAny _ _ (PySem.call (Value.type "bytes") _ _) _ _ _ | with_reducible show wpAny _ _ (PySem.call (Value.ref _) _ _) _ _ _ | with_reducible show wpAny _ _ (exec (Stmt.While _ _ _ _) _) _ _ _ | with_reducible show wpAny _ _ (pyIter _) _ _ _)); (first | ((with_reducible show wpAny _ _ (PySem.execs (_ :: _) _) _ _ _); (first | ((first | with_reducible show wpAny _ _ _ _ _ (PySem.Shared.mk _ _ _ (_ + _) _) | with_reducible show wpAny _ _ _ _ _ (PySem.Shared.mk _ _ _ (PySem.Shared.toks _) _)); (try dsimp only); refine normG s rfl ?_; intro tkN8; (try clear tkN9); rename Nat => tkN9) | dsimp only)) | (k_unfold; (try dsimp only)) | (k_end; wrow_close) | walk1 | (dsimp only; walk1) | (leave1; walk_say "STEP leave1"; try dsimp only) | fail "no step")))
        refine hQ1 _ _ ?_
        dsimp only [LlPost]
        refine ll_end (oN2, ⟨s1, o1, s2, o2, ps⟩) (by assumption) (by assumption) hit (by k_mem) (by (((try simp only [List.append_nil, List.nil_append, List.cons_append, List.append_assoc]); first | exact (fun p hp => hp) | (simp only [List.forall_mem_cons, List.not_mem_nil, false_implies, implies_true, and_true, true_and]; (repeat' apply And.intro) <;> first | trivial | k_mem) | (simp; done)))) (by (((try simp only [List.append_nil, List.nil_append, List.cons_append, List.append_assoc]); first   | (simp only [List.forall_mem_cons, List.not_mem_nil, false_implies, implies_true, and_true, true_and, ne_eq]; done)   | ((simp only [List.forall_mem_cons, List.not_mem_nil, false_implies, implies_true, and_true, true_and]); (repeat' apply And.intro) <;> first | trivial | assumption | exact Ne.symm (by assumption) | k_ne)))) (by ((intro z h3; (simp only [List.contains_cons, List.contains_nil, Bool.or_false, Bool.or_eq_false_iff, beq_eq_false_iff_ne, ne_eq] at h3); (first | (simp [kstB, h3]; done) | (simp [kstB, h3]; rfl))))) ⟨⟨_, hcell2⟩, hTab, ?_⟩
        exact ⟨hOff0.1, Apart.pre (bs := [I, Dt, Dd]) hOff0.2.1, Apart.pre (bs := [I, Dt, Dd]) hOff0.2.2⟩
    · rintro ⟨oN, ⟨s1, o1, s2, o2, ps⟩⟩ u h tk _ F N
      dsimp only at N ⊢
      refine wpR_any ?_
      (repeat' ((fail_if_success (first | with_reducible show wpAny _ _ (compareOp CmpOp.NotEq (Value.ref _) (Value.ref _)) _ _ _ | with_reducible show Exists _ | with_reducible show wpR _ _ _ _ _ _ | with_reducible show wpAny _ _ (PySem.call (Value.builtin "list.append") [_, Value.bytes _ _] _) _ _ _ | with_reducible show wpAny _ _ (PySem.exec (Stmt.Assign _ (Expr.ListComp _ _ _ _) _) _) _ _ _ | with_reducible show wpAny _ _ (PySem.eval (Expr.ListComp _ _ _ _) _) _ _ _ | with_reducible show wpAny _ _ (PySem.setItem _ _ _) _ _ _ | with_reducible show KswEnd _ _ _ _ _ _ _ _ _ _ _ _ | with_reducible show wpAny _ _ (PySem.call (Value.type "bytes") _ _) _ _ _ | with_reducible show wpAny _ _ (PySem.call (Value.ref _) _ _) _ _ _ | with_reducible show wpAny _ _ (exec (Stmt.While _ _ _ _) _) _ _ _ | with_reducible show wpAny _ _ (pyIter _) _ _ _)); (first | ((with_reducible show wpAny _ _ (PySem.execs (_ :: _) _) _ _ _); (first | ((first | with_reducible show wpAny _ _ _ _ _ (PySem.Shared.mk _ _ _ (_ + _) _) | with_reducible show wpAny _ _ _ _ _ (PySem.Shared.mk _ _ _ (PySem.Shared.toks _) _)); (try dsimp only); refine normG s rfl ?_; intro tkN8; (try clear tkN9); rename Nat => tkN9) | dsimp only)) | (k_unfold; (try dsimp only)) | (k_end; wrow_close) | walk1 | (dsimp only; walk1) | (leave1; walk_say "STEP leave1"; try dsimp only) | fail "no step")))
      refine hQ0 _ _ (Left.intro (own' := [(95, tabObj ps)]) (by assumption) (by assumption) (by (((try simp only [List.append_nil, List.nil_append, List.cons_append, List.append_assoc]); first | exact (fun p hp => hp) | (simp only [List.forall_mem_cons, List.not_mem_nil, false_implies, implies_true, and_true, true_and]; (repeat' apply And.intro) <;> first | trivial | k_mem) | (simp; done)))) ⟨rfl, ps, rfl⟩)
end Mine
end
section -- LW
open PySem PySem.W PySem.Calls PyProof.Rows
set_option linter.unusedVariables false
set_option maxRecDepth 100000
set_option maxHeartbeats 8000000
namespace Mine
theorem law_w : PySem.Challenge.rw_pk0050_01.Holds := by
  refine hq.key ?_
  k_fill
  w_top off
  intro w s₀ s mg mb G Y fa o pm cd doc dV kV ho hd hcd hD hmg hg args vals as hpre hlay hrd hwl hlo
  have KX := km_in_of Y
  km_tabs Y
  have X := (Ground.X G).1
  have V := (Ground.X G).2
  refine Ground.open G ?_
  intro T B D TE TW
  try (refine guard_noD D (by decide +kernel) ?_; clear D)
  km_lay T hmg ho hd cd
  clear hmg
  wrow_args hpre hlay hrd hwl hlo
  refine enter_callR ?_
  w_top on
  refine kn_postR hT9 (fun _ _ => rfl) ?_
  have he := Dflts.none hD rfl
  subst he
  have he := Dflts.noKw hD
  subst he
  refine call_fullR (by decide) ho hd (Top.nolimit T) hcd (BindsTo.of_eq rfl) (locs rfl) fun h₁ F => ?_
  w_binds F
  have N0 := (News.nil : News _ _ _ []).at F
  clear hd
  kn_ghosts F T
  k_drop
  rename IntsAre _ _ => hI
  rename Heap.IsList (ghostOf _ _) _ _ => hL
  rename ¬ ((63 : Nat) : Int) < _ => h63
  have hzl := IntsAre.length hI
  refine hideR ?_
  intro Q0 hQ0
  refine execs_A ?_
  (repeat' ((fail_if_success (first | with_reducible show wpAny _ _ (subscriptTail _ _ (Value.ref _) (Value.ref _)) _ _ _ | with_reducible show Exists _ | with_reducible show wpR _ _ _ _ _ _ | with_reducible show wpAny _ _ (PySem.call (Value.builtin "list.append") [_, Value.bytes _ _] _) _ _ _ | with_reducible show wpAny _ _ (PySem.exec (Stmt.Assign _ (Expr.ListComp _ _ _ _) _) _) _ _ _ | with_reducible show wpAny _ _ (PySem.eval (Expr.ListComp _ _ _ _) _) _ _ _ | with_reducible show wpAny _ _ (PySem.setItem _ _ _) _ _ _ | with_reducible show KswEnd _ _ _ _ _ _ _ _ _ _ _ _ | with_reducible show wpAny _ _ (PySem.call (Value.type "bytes") _ _) _ _ _ | with_reducible show wpAny _ _ (PySem.call (Value.ref _) _ _) _ _ _ | with_reducible show wpAny _ _ (exec (Stmt.While _ _ _ _) _) _ _ _ | with_reducible show wpAny _ _ (pyIter _) _ _ _)); (first | ((with_reducible show wpAny _ _ (PySem.execs (_ :: _) _) _ _ _); (first | ((first | with_reducible show wpAny _ _ _ _ _ (PySem.Shared.mk _ _ _ (_ + _) _) | with_reducible show wpAny _ _ _ _ _ (PySem.Shared.mk _ _ _ (PySem.Shared.toks _) _)); (try dsimp only); refine normG s rfl ?_; intro tkN8; (try clear tkN9); rename Nat => tkN9) | dsimp only)) | (k_unfold; (try dsimp only)) | (k_end; wrow_close) | walk1 | (dsimp only; walk1) | (leave1; walk_say "STEP leave1"; try dsimp only) | fail "no step")))
  refine numbers_c w _ mg mb _ _ _ hI (by omega) _ _ _ _ _ _ _ _ _ _ _ _ _ _ _ _ _ _ (by assumption) hL (by assumption) (by assumption) (by assumption) (by assumption) rfl (by ktr_room) (by ktr_units) ?_
  rintro D ys ns n h' tk' hI1 hl1 F1 N1 ne1
  have hyl := IntsAre.length hI1
  (repeat' ((fail_if_success (first | with_reducible show wpAny _ _ (subscriptTail _ _ (Value.ref _) (Value.ref _)) _ _ _ | with_reducible show Exists _ | with_reducible show wpR _ _ _ _ _ _ | with_reducible show wpAny _ _ (PySem.call (Value.builtin "list.append") [_, Value.bytes _ _] _) _ _ _ | with_reducible show wpAny _ _ (PySem.exec (Stmt.Assign _ (Expr.ListComp _ _ _ _) _) _) _ _ _ | with_reducible show wpAny _ _ (PySem.eval (Expr.ListComp _ _ _ _) _) _ _ _ | with_reducible show wpAny _ _ (PySem.setItem _ _ _) _ _ _ | with_reducible show KswEnd _ _ _ _ _ _ _ _ _ _ _ _ | with_reducible show wpAny _ _ (PySem.call (Value.type "bytes") _ _) _ _ _ | with_reducible show wpAny _ _ (PySem.call (Value.ref _) _ _) _ _ _ | with_reducible show wpAny _ _ (exec (Stmt.While _ _ _ _) _) _ _ _ | with_reducible show wpAny _ _ (pyIter _) _ _ _)); (first | ((with_reducible show wpAny _ _ (PySem.execs (_ :: _) _) _ _ _); (first | ((first | with_reducible show wpAny _ _ _ _ _ (PySem.Shared.mk _ _ _ (_ + _) _) | with_reducible show wpAny _ _ _ _ _ (PySem.Shared.mk _ _ _ (PySem.Shared.toks _) _)); (try dsimp only); refine normG s rfl ?_; intro tkN8; (try clear tkN9); rename Nat => tkN9) | dsimp only)) | (k_unfold; (try dsimp only)) | (k_end; wrow_close) | walk1 | (dsimp only; walk1) | (leave1; walk_say "STEP leave1"; try dsimp only) | fail "no step")))
  refine execs_A ?_
  (repeat' ((fail_if_success (first | with_reducible show wpAny _ _ (subscriptTail _ _ (Value.ref _) (Value.ref _)) _ _ _ | with_reducible show Exists _ | with_reducible show wpR _ _ _ _ _ _ | with_reducible show wpAny _ _ (PySem.call (Value.builtin "list.append") [_, Value.bytes _ _] _) _ _ _ | with_reducible show wpAny _ _ (PySem.exec (Stmt.Assign _ (Expr.ListComp _ _ _ _) _) _) _ _ _ | with_reducible show wpAny _ _ (PySem.eval (Expr.ListComp _ _ _ _) _) _ _ _ | with_reducible show wpAny _ _ (PySem.setItem _ _ _) _ _ _ | with_reducible show KswEnd _ _ _ _ _ _ _ _ _ _ _ _ | with_reducible show wpAny _ _ (PySem.call (Value.type "bytes") _ _) _ _ _ | with_reducible show wpAny _ _ (PySem.call (Value.ref _) _ _) _ _ _ | with_reducible show wpAny _ _ (exec (Stmt.While _ _ _ _) _) _ _ _ | with_reducible show wpAny _ _ (pyIter _) _ _ _)); (first | ((with_reducible show wpAny _ _ (PySem.execs (_ :: _) _) _ _ _); (first | ((first | with_reducible show wpAny _ _ _ _ _ (PySem.Shared.mk _ _ _ (_ + _) _) | with_reducible show wpAny _ _ _ _ _ (PySem.Shared.mk _ _ _ (PySem.Shared.toks _) _)); (try dsimp only); refine normG s rfl ?_; intro tkN8; (try clear tkN9); rename Nat => tkN9) | dsimp only)) | (k_unfold; (try dsimp only)) | (k_end; wrow_close) | walk1 | (dsimp only; walk1) | (leave1; walk_say "STEP leave1"; try dsimp only) | fail "no step")))
  refine execs_A ?_
  (repeat' ((fail_if_success (first | with_reducible show wpAny _ _ (subscriptTail _ _ (Value.ref _) (Value.ref _)) _ _ _ | with_reducible show Exists _ | with_reducible show wpR _ _ _ _ _ _ | with_reducible show wpAny _ _ (PySem.call (Value.builtin "list.append") [_, Value.bytes _ _] _) _ _ _ | with_reducible show wpAny _ _ (PySem.exec (Stmt.Assign _ (Expr.ListComp _ _ _ _) _) _) _ _ _ | with_reducible show wpAny _ _ (PySem.eval (Expr.ListComp _ _ _ _) _) _ _ _ | with_reducible show wpAny _ _ (PySem.setItem _ _ _) _ _ _ | with_reducible show KswEnd _ _ _ _ _ _ _ _ _ _ _ _ | with_reducible show wpAny _ _ (PySem.call (Value.type "bytes") _ _) _ _ _ | with_reducible show wpAny _ _ (PySem.call (Value.ref _) _ _) _ _ _ | with_reducible show wpAny _ _ (exec (Stmt.While _ _ _ _) _) _ _ _ | with_reducible show wpAny _ _ (pyIter _) _ _ _)); (first | ((with_reducible show wpAny _ _ (PySem.execs (_ :: _) _) _ _ _); (first | ((first | with_reducible show wpAny _ _ _ _ _ (PySem.Shared.mk _ _ _ (_ + _) _) | with_reducible show wpAny _ _ _ _ _ (PySem.Shared.mk _ _ _ (PySem.Shared.toks _) _)); (try dsimp only); refine normG s rfl ?_; intro tkN8; (try clear tkN9); rename Nat => tkN9) | dsimp only)) | (k_unfold; (try dsimp only)) | (k_end; wrow_close) | walk1 | (dsimp only; walk1) | (leave1; walk_say "STEP leave1"; try dsimp only) | fail "no step")))
  rename Fr _ _ _ _ => F2
  rename News _ _ _ _ => N2
  have hz0 : ns.getD (Int.toNat 0) 0 = ns.getD 0 0 := rfl
  obtain ⟨R, hR, hR2, hR6⟩ : ∃ R : Nat, 2 + (ns.getD (Int.toNat 0) 0).fmod 5 = (R : Int) ∧ 2 ≤ R ∧ R ≤ 6 := by
    have h1 := Int.fmod_nonneg_of_pos (ns.getD (Int.toNat 0) 0) (b := 5) (by decide)
    have h2 := Int.fmod_lt_of_pos (ns.getD (Int.toNat 0) 0) (b := 5) (by decide)
    exact ⟨(2 + (ns.getD (Int.toNat 0) 0).fmod 5).toNat, by omega, by omega, by omega⟩
  rw [hR] at F2
  clear hR hz0
  obtain ⟨W, hW0, hW7, hRW, hRW2⟩ : ∃ W : Nat, 0 < W ∧ W < 7 ∧ ((12 : Int).fdiv (R : Int)) * (R : Int) = ((R * W : Nat) : Int) ∧ 7 < R * W ∧ R * W < 13 := by
    have : R = 2 ∨ R = 3 ∨ R = 4 ∨ R = 5 ∨ R = 6 := by omega
    rcases this with rfl | rfl | rfl | rfl | rfl
    · exact ⟨6, by decide⟩
    · exact ⟨4, by decide⟩
    · exact ⟨3, by decide⟩
    · exact ⟨2, by decide⟩
    · exact ⟨2, by decide⟩
  k_dflt (refine LCg.ListComp_U (F₀ := by k_asm) (by with_unfolding_all rfl) (by decide) (by rfl) (by decide) (by rfl) ?_)
  (repeat' ((fail_if_success (first | with_reducible show wpAny _ _ (subscriptTail _ _ (Value.ref _) (Value.ref _)) _ _ _ | with_reducible show Exists _ | with_reducible show wpR _ _ _ _ _ _ | with_reducible show wpAny _ _ (PySem.call (Value.builtin "list.append") [_, Value.bytes _ _] _) _ _ _ | with_reducible show wpAny _ _ (PySem.exec (Stmt.Assign _ (Expr.ListComp _ _ _ _) _) _) _ _ _ | with_reducible show wpAny _ _ (PySem.eval (Expr.ListComp _ _ _ _) _) _ _ _ | with_reducible show wpAny _ _ (PySem.setItem _ _ _) _ _ _ | with_reducible show KswEnd _ _ _ _ _ _ _ _ _ _ _ _ | with_reducible show wpAny _ _ (PySem.call (Value.type "bytes") _ _) _ _ _ | with_reducible show wpAny _ _ (PySem.call (Value.ref _) _ _) _ _ _ | with_reducible show wpAny _ _ (exec (Stmt.While _ _ _ _) _) _ _ _ | with_reducible show wpAny _ _ (pyIter _) _ _ _)); (first | ((with_reducible show wpAny _ _ (PySem.execs (_ :: _) _) _ _ _); (first | ((first | with_reducible show wpAny _ _ _ _ _ (PySem.Shared.mk _ _ _ (_ + _) _) | with_reducible show wpAny _ _ _ _ _ (PySem.Shared.mk _ _ _ (PySem.Shared.toks _) _)); (try dsimp only); refine normG s rfl ?_; intro tkN8; (try clear tkN9); rename Nat => tkN9) | dsimp only)) | (k_unfold; (try dsimp only)) | (k_end; wrow_close) | walk1 | (dsimp only; walk1) | (leave1; walk_say "STEP leave1"; try dsimp only) | fail "no step")))
  k_dflt (refine' kmk_slice_ints (ns := ns) (ms := ns.take (R * W)) (c := R * W) ?sF ?sN ?sl ?sp ?sq hI1 ?sm ?sc ?_ ?ss ?st ?sz; (case sF => k_asm); (case sN => k_asm); (case sl => kmk_list); (case sp => kmk_part); (case sq => kmk_part); (case sm => (rw [hRW]; exact kmk_upto hI1 (by omega))); (case sc => (rw [List.length_take]; omega)); (case ss => with_unfolding_all rfl); (case st => kmk_pure); (case sz => (rw [sizeLine_eq]; simp; omega)))
  intro Ds ws hs3 F3 N3 l3 hI3 hC3 hL3
  have hws := IntsAre.length hI3
  k_dflt (refine' LCg.CompSrc.ledger ?sh ?sF ?sN ?sm ?sz ?_; (case sh => exact rfl); (case sF => k_asm); (case sN => k_asm); (case sm => k_mem); (case sz => (rw [sizeLine_eq, List.size_toArray]; omega)))
  intro g5
  refine comp_all (fun i ys => ∃ ks, IntsAre ys ks ∧ ks.length = i ∧ ∀ k ∈ ks, 0 ≤ k ∧ k < 256) ⟨[], .nil, rfl, fun k hk => nomatch hk⟩ (.inr ⟨_, by k_mem, rfl, _, rfl⟩) ?_ ?_
  · rintro i ys5 hi ⟨ks, hT, hkl, hkk⟩ v I oI C oC D5 m₂ h20 tk20 E' hP hC hx F20 N20 off ⟨ne1, ne2, ne3⟩
    have hP2 : ws[i]? = some v := by
      rw [← List.getElem?_toArray]; exact hP
    have q2 : ∃ (c : Int) (tv : Tok), v = .int c tv := by
      obtain ⟨tv, hv⟩ := ints_at hI3 hP2
      exact ⟨_, tv, hv⟩
    obtain ⟨c, tv, hv⟩ := q2
    replace hx : m₂ _ = some (.int c tv) := hx.trans (congrArg some hv)
    clear hv hP hP2
    (repeat' ((fail_if_success (first | with_reducible show wpAny _ _ (subscriptTail _ _ (Value.ref _) (Value.ref _)) _ _ _ | with_reducible show Exists _ | with_reducible show wpR _ _ _ _ _ _ | with_reducible show wpAny _ _ (PySem.call (Value.builtin "list.append") [_, Value.bytes _ _] _) _ _ _ | with_reducible show wpAny _ _ (PySem.exec (Stmt.Assign _ (Expr.ListComp _ _ _ _) _) _) _ _ _ | with_reducible show wpAny _ _ (PySem.eval (Expr.ListComp _ _ _ _) _) _ _ _ | with_reducible show wpAny _ _ (PySem.setItem _ _ _) _ _ _ | with_reducible show KswEnd _ _ _ _ _ _ _ _ _ _ _ _ | with_reducible show wpAny _ _ (PySem.call (Value.type "bytes") _ _) _ _ _ | with_reducible show wpAny _ _ (PySem.call (Value.ref _) _ _) _ _ _ | with_reducible show wpAny _ _ (exec (Stmt.While _ _ _ _) _) _ _ _ | with_reducible show wpAny _ _ (pyIter _) _ _ _)); (first | ((with_reducible show wpAny _ _ (PySem.execs (_ :: _) _) _ _ _); (first | ((first | with_reducible show wpAny _ _ _ _ _ (PySem.Shared.mk _ _ _ (_ + _) _) | with_reducible show wpAny _ _ _ _ _ (PySem.Shared.mk _ _ _ (PySem.Shared.toks _) _)); (try dsimp only); refine normG s rfl ?_; intro tkN8; (try clear tkN9); rename Nat => tkN9) | dsimp only)) | (k_unfold; (try dsimp only)) | (k_end; wrow_close) | walk1 | (dsimp only; walk1) | (leave1; walk_say "STEP leave1"; try dsimp only) | fail "no step")))
    refine ⟨_, _, rfl, by k_asm, by k_asm, ks ++ [_], hT.append (.cons _ _ .nil), by rw [List.length_append, hkl]; rfl, ?_⟩
    intro k hk
    rcases List.mem_append.mp hk with hk | hk
    · exact hkk k hk
    · rw [List.mem_singleton.mp hk]
      exact ⟨Int.fmod_nonneg_of_pos _ (by decide), Int.fmod_lt_of_pos _ (by decide)⟩
  · rintro ys5 ⟨ks, hT, hkl, hkk⟩
    have hkl2 : ks.length = R * W := by rw [hkl, List.size_toArray, hws, hC3]
    have hb : KBw.bInts (byteArr ks) = ks := KBa.ints_make (fun k hk => hkk k hk)
    (repeat' ((fail_if_success (first | with_reducible show wpAny _ _ (subscriptTail _ _ (Value.ref _) (Value.ref _)) _ _ _ | with_reducible show Exists _ | with_reducible show wpR _ _ _ _ _ _ | with_reducible show wpAny _ _ (PySem.call (Value.builtin "list.append") [_, Value.bytes _ _] _) _ _ _ | with_reducible show wpAny _ _ (PySem.exec (Stmt.Assign _ (Expr.ListComp _ _ _ _) _) _) _ _ _ | with_reducible show wpAny _ _ (PySem.eval (Expr.ListComp _ _ _ _) _) _ _ _ | with_reducible show wpAny _ _ (PySem.setItem _ _ _) _ _ _ | with_reducible show KswEnd _ _ _ _ _ _ _ _ _ _ _ _ | with_reducible show wpAny _ _ (PySem.call (Value.type "bytes") _ _) _ _ _ | with_reducible show wpAny _ _ (PySem.call (Value.ref _) _ _) _ _ _ | with_reducible show wpAny _ _ (exec (Stmt.While _ _ _ _) _) _ _ _ | with_reducible show wpAny _ _ (pyIter _) _ _ _)); (first | ((with_reducible show wpAny _ _ (PySem.execs (_ :: _) _) _ _ _); (first | ((first | with_reducible show wpAny _ _ _ _ _ (PySem.Shared.mk _ _ _ (_ + _) _) | with_reducible show wpAny _ _ _ _ _ (PySem.Shared.mk _ _ _ (PySem.Shared.toks _) _)); (try dsimp only); refine normG s rfl ?_; intro tkN8; (try clear tkN9); rename Nat => tkN9) | dsimp only)) | (k_unfold; (try dsimp only)) | (k_end; wrow_close) | walk1 | (dsimp only; walk1) | (leave1; walk_say "STEP leave1"; try dsimp only) | fail "no step")))
    refine KBa.make_K (by k_asm) (by k_asm) rfl (by kba_isList) hT (fun k hk => hkk k hk) (by rw [hkl2]; omega) ?_
    intro h7 t7 k7 F7 N7 _
    (repeat' ((fail_if_success (first | with_reducible show wpAny _ _ (subscriptTail _ _ (Value.ref _) (Value.ref _)) _ _ _ | with_reducible show Exists _ | with_reducible show wpR _ _ _ _ _ _ | with_reducible show wpAny _ _ (PySem.call (Value.builtin "list.append") [_, Value.bytes _ _] _) _ _ _ | with_reducible show wpAny _ _ (PySem.exec (Stmt.Assign _ (Expr.ListComp _ _ _ _) _) _) _ _ _ | with_reducible show wpAny _ _ (PySem.eval (Expr.ListComp _ _ _ _) _) _ _ _ | with_reducible show wpAny _ _ (PySem.setItem _ _ _) _ _ _ | with_reducible show KswEnd _ _ _ _ _ _ _ _ _ _ _ _ | with_reducible show wpAny _ _ (PySem.call (Value.type "bytes") _ _) _ _ _ | with_reducible show wpAny _ _ (PySem.call (Value.ref _) _ _) _ _ _ | with_reducible show wpAny _ _ (exec (Stmt.While _ _ _ _) _) _ _ _ | with_reducible show wpAny _ _ (pyIter _) _ _ _)); (first | ((with_reducible show wpAny _ _ (PySem.execs (_ :: _) _) _ _ _); (first | ((first | with_reducible show wpAny _ _ _ _ _ (PySem.Shared.mk _ _ _ (_ + _) _) | with_reducible show wpAny _ _ _ _ _ (PySem.Shared.mk _ _ _ (PySem.Shared.toks _) _)); (try dsimp only); refine normG s rfl ?_; intro tkN8; (try clear tkN9); rename Nat => tkN9) | dsimp only)) | (k_unfold; (try dsimp only)) | (k_end; wrow_close) | walk1 | (dsimp only; walk1) | (leave1; walk_say "STEP leave1"; try dsimp only) | fail "no step")))
    refine execs_R (assign_call_R (K := hq.heap_1_39 w.params) ?_)
    (repeat' ((fail_if_success (first | with_reducible show wpAny _ _ (subscriptTail _ _ (Value.ref _) (Value.ref _)) _ _ _ | with_reducible show Exists _ | with_reducible show wpR _ _ _ _ _ _ | with_reducible show wpAny _ _ (PySem.call (Value.builtin "list.append") [_, Value.bytes _ _] _) _ _ _ | with_reducible show wpAny _ _ (PySem.exec (Stmt.Assign _ (Expr.ListComp _ _ _ _) _) _) _ _ _ | with_reducible show wpAny _ _ (PySem.eval (Expr.ListComp _ _ _ _) _) _ _ _ | with_reducible show wpAny _ _ (PySem.setItem _ _ _) _ _ _ | with_reducible show KswEnd _ _ _ _ _ _ _ _ _ _ _ _ | with_reducible show wpAny _ _ (PySem.call (Value.type "bytes") _ _) _ _ _ | with_reducible show wpAny _ _ (PySem.call (Value.ref _) _ _) _ _ _ | with_reducible show wpAny _ _ (exec (Stmt.While _ _ _ _) _) _ _ _ | with_reducible show wpAny _ _ (pyIter _) _ _ _)); (first | ((with_reducible show wpAny _ _ (PySem.execs (_ :: _) _) _ _ _); (first | ((first | with_reducible show wpAny _ _ _ _ _ (PySem.Shared.mk _ _ _ (_ + _) _) | with_reducible show wpAny _ _ _ _ _ (PySem.Shared.mk _ _ _ (PySem.Shared.toks _) _)); (try dsimp only); refine normG s rfl ?_; intro tkN8; (try clear tkN9); rename Nat => tkN9) | dsimp only)) | (k_unfold; (try dsimp only)) | (k_end; wrow_close) | walk1 | (dsimp only; walk1) | (leave1; walk_say "STEP leave1"; try dsimp only) | fail "no step")))
    refine hideR ?_
    intro QC1 hQC1
    k_dflt (refine' use_claimR (rounds_c w _ mg mb _ ks hb R W hkl2 (by omega) (by omega) _ _ hW0 (by omega)) [(100, tabObj #[]), (95, tabObj #[])] ?k1 ?k2 ?k3 ?k4 ?k5 ?k6 ?k7 ?k8 ?k9 ?k10 ?_; (((case k1 => k_asm); (case k2 => k_asm); (case k3 => k_asm); (case k4 => k_asm); (case k5 => k_asm); (case k6 => exact rfl); (case k7 => (((try simp only [List.append_nil, List.nil_append, List.cons_append, List.append_assoc]); first | exact (fun p hp => hp) | (simp only [List.forall_mem_cons, List.not_mem_nil, false_implies, implies_true, and_true, true_and]; (repeat' apply And.intro) <;> first | trivial | k_mem) | (simp; done)))); (case k8 => (((try simp only [List.append_nil, List.nil_append, List.cons_append, List.append_assoc]); first   | (simp only [List.forall_mem_cons, List.not_mem_nil, false_implies, implies_true, and_true, true_and, ne_eq]; done)   | ((simp only [List.forall_mem_cons, List.not_mem_nil, false_implies, implies_true, and_true, true_and]); (repeat' apply And.intro) <;> first | trivial | assumption | exact Ne.symm (by assumption) | k_ne)))); (case k9 => first | exact room1 (by assumption) (by decide) | ktr_room); (case k10 => first | exact units1 (by assumption) (by decide) | ktr_units))))
    rintro r own' h8 tk8 ⟨Dr, itr, nr, rfl, rfl, hIr⟩ F8 N8 q8
    refine hQC1 _ _ ?_
    clear hQC1
    first | refine normA s rfl ?_ | refine normR s rfl ?_ | skip
    have hil := IntsAre.length hIr
    (repeat' ((fail_if_success (first | with_reducible show wpAny _ _ (subscriptTail _ _ (Value.ref _) (Value.ref _)) _ _ _ | with_reducible show Exists _ | with_reducible show wpR _ _ _ _ _ _ | with_reducible show wpAny _ _ (PySem.call (Value.builtin "list.append") [_, Value.bytes _ _] _) _ _ _ | with_reducible show wpAny _ _ (PySem.exec (Stmt.Assign _ (Expr.ListComp _ _ _ _) _) _) _ _ _ | with_reducible show wpAny _ _ (PySem.eval (Expr.ListComp _ _ _ _) _) _ _ _ | with_reducible show wpAny _ _ (PySem.setItem _ _ _) _ _ _ | with_reducible show KswEnd _ _ _ _ _ _ _ _ _ _ _ _ | with_reducible show wpAny _ _ (PySem.call (Value.type "bytes") _ _) _ _ _ | with_reducible show wpAny _ _ (PySem.call (Value.ref _) _ _) _ _ _ | with_reducible show wpAny _ _ (exec (Stmt.While _ _ _ _) _) _ _ _ | with_reducible show wpAny _ _ (pyIter _) _ _ _)); (first | ((with_reducible show wpAny _ _ (PySem.execs (_ :: _) _) _ _ _); (first | ((first | with_reducible show wpAny _ _ _ _ _ (PySem.Shared.mk _ _ _ (_ + _) _) | with_reducible show wpAny _ _ _ _ _ (PySem.Shared.mk _ _ _ (PySem.Shared.toks _) _)); (try dsimp only); refine normG s rfl ?_; intro tkN8; (try clear tkN9); rename Nat => tkN9) | dsimp only)) | (k_unfold; (try dsimp only)) | (k_end; wrow_close) | walk1 | (dsimp only; walk1) | (leave1; walk_say "STEP leave1"; try dsimp only) | fail "no step")))
    refine execs_R (If_R (Or_R ?_))
    (repeat' ((fail_if_success (first | with_reducible show wpAny _ _ (subscriptTail _ _ (Value.ref _) (Value.ref _)) _ _ _ | with_reducible show Exists _ | with_reducible show wpR _ _ _ _ _ _ | with_reducible show wpAny _ _ (PySem.call (Value.builtin "list.append") [_, Value.bytes _ _] _) _ _ _ | with_reducible show wpAny _ _ (PySem.exec (Stmt.Assign _ (Expr.ListComp _ _ _ _) _) _) _ _ _ | with_reducible show wpAny _ _ (PySem.eval (Expr.ListComp _ _ _ _) _) _ _ _ | with_reducible show wpAny _ _ (PySem.setItem _ _ _) _ _ _ | with_reducible show KswEnd _ _ _ _ _ _ _ _ _ _ _ _ | with_reducible show wpAny _ _ (PySem.call (Value.type "bytes") _ _) _ _ _ | with_reducible show wpAny _ _ (PySem.call (Value.ref _) _ _) _ _ _ | with_reducible show wpAny _ _ (exec (Stmt.While _ _ _ _) _) _ _ _ | with_reducible show wpAny _ _ (pyIter _) _ _ _)); (first | ((with_reducible show wpAny _ _ (PySem.execs (_ :: _) _) _ _ _); (first | ((first | with_reducible show wpAny _ _ _ _ _ (PySem.Shared.mk _ _ _ (_ + _) _) | with_reducible show wpAny _ _ _ _ _ (PySem.Shared.mk _ _ _ (PySem.Shared.toks _) _)); (try dsimp only); refine normG s rfl ?_; intro tkN8; (try clear tkN9); rename Nat => tkN9) | dsimp only)) | (k_unfold; (try dsimp only)) | (k_end; wrow_close) | walk1 | (dsimp only; walk1) | (leave1; walk_say "STEP leave1"; try dsimp only) | fail "no step")))
    refine sorted_bytes (by k_asm) (by k_asm) rfl hb (by omega) ?_
    intro D9 h9 tk9 vs9 ns9 e9 F9 N9 q9 hI9 hp9 hs9
    have eq9 := srt_eq hp9 hs9
    subst eq9
    (repeat' ((fail_if_success (first | with_reducible show wpAny _ _ (subscriptTail _ _ (Value.ref _) (Value.ref _)) _ _ _ | with_reducible show Exists _ | with_reducible show wpR _ _ _ _ _ _ | with_reducible show wpAny _ _ (PySem.call (Value.builtin "list.append") [_, Value.bytes _ _] _) _ _ _ | with_reducible show wpAny _ _ (PySem.exec (Stmt.Assign _ (Expr.ListComp _ _ _ _) _) _) _ _ _ | with_reducible show wpAny _ _ (PySem.eval (Expr.ListComp _ _ _ _) _) _ _ _ | with_reducible show wpAny _ _ (PySem.setItem _ _ _) _ _ _ | with_reducible show KswEnd _ _ _ _ _ _ _ _ _ _ _ _ | with_reducible show wpAny _ _ (PySem.call (Value.type "bytes") _ _) _ _ _ | with_reducible show wpAny _ _ (PySem.call (Value.ref _) _ _) _ _ _ | with_reducible show wpAny _ _ (exec (Stmt.While _ _ _ _) _) _ _ _ | with_reducible show wpAny _ _ (pyIter _) _ _ _)); (first | ((with_reducible show wpAny _ _ (PySem.execs (_ :: _) _) _ _ _); (first | ((first | with_reducible show wpAny _ _ _ _ _ (PySem.Shared.mk _ _ _ (_ + _) _) | with_reducible show wpAny _ _ _ _ _ (PySem.Shared.mk _ _ _ (PySem.Shared.toks _) _)); (try dsimp only); refine normG s rfl ?_; intro tkN8; (try clear tkN9); rename Nat => tkN9) | dsimp only)) | (k_unfold; (try dsimp only)) | (k_end; wrow_close) | walk1 | (dsimp only; walk1) | (leave1; walk_say "STEP leave1"; try dsimp only) | fail "no step")))
    refine Not_R (Truth_Call_R (call_def_R (K := hq.heap_1_39 w.params) ?_))
    (repeat' ((fail_if_success (first | with_reducible show wpAny _ _ (subscriptTail _ _ (Value.ref _) (Value.ref _)) _ _ _ | with_reducible show Exists _ | with_reducible show wpR _ _ _ _ _ _ | with_reducible show wpAny _ _ (PySem.call (Value.builtin "list.append") [_, Value.bytes _ _] _) _ _ _ | with_reducible show wpAny _ _ (PySem.exec (Stmt.Assign _ (Expr.ListComp _ _ _ _) _) _) _ _ _ | with_reducible show wpAny _ _ (PySem.eval (Expr.ListComp _ _ _ _) _) _ _ _ | with_reducible show wpAny _ _ (PySem.setItem _ _ _) _ _ _ | with_reducible show KswEnd _ _ _ _ _ _ _ _ _ _ _ _ | with_reducible show wpAny _ _ (PySem.call (Value.type "bytes") _ _) _ _ _ | with_reducible show wpAny _ _ (PySem.call (Value.ref _) _ _) _ _ _ | with_reducible show wpAny _ _ (exec (Stmt.While _ _ _ _) _) _ _ _ | with_reducible show wpAny _ _ (pyIter _) _ _ _)); (first | ((with_reducible show wpAny _ _ (PySem.execs (_ :: _) _) _ _ _); (first | ((first | with_reducible show wpAny _ _ _ _ _ (PySem.Shared.mk _ _ _ (_ + _) _) | with_reducible show wpAny _ _ _ _ _ (PySem.Shared.mk _ _ _ (PySem.Shared.toks _) _)); (try dsimp only); refine normG s rfl ?_; intro tkN8; (try clear tkN9); rename Nat => tkN9) | dsimp only)) | (k_unfold; (try dsimp only)) | (k_end; wrow_close) | walk1 | (dsimp only; walk1) | (leave1; walk_say "STEP leave1"; try dsimp only) | fail "no step")))
    have N10 : News _ _ h9 [(Dr, listOf itr.toArray nr), (100, tabObj #[]), (95, tabObj #[])] := News.drop1 N9
    refine words_c w _ mg mb _ _ _ _ _ _ _ [] _ _ _ (byteArr ks) ks hb (by omega) (by omega) t7 rfl (by assumption) (by assumption) (by assumption) Dr itr nr N10 (by assumption) (fun p hp => (N10 p hp).2.1) ?_
    intro h11 tk11 F11 N11
    clear F9 N9 N10
    (repeat' ((fail_if_success (first | with_reducible show wpAny _ _ (subscriptTail _ _ (Value.ref _) (Value.ref _)) _ _ _ | with_reducible show Exists _ | with_reducible show wpR _ _ _ _ _ _ | with_reducible show wpAny _ _ (PySem.call (Value.builtin "list.append") [_, Value.bytes _ _] _) _ _ _ | with_reducible show wpAny _ _ (PySem.exec (Stmt.Assign _ (Expr.ListComp _ _ _ _) _) _) _ _ _ | with_reducible show wpAny _ _ (PySem.eval (Expr.ListComp _ _ _ _) _) _ _ _ | with_reducible show wpAny _ _ (PySem.setItem _ _ _) _ _ _ | with_reducible show KswEnd _ _ _ _ _ _ _ _ _ _ _ _ | with_reducible show wpAny _ _ (PySem.call (Value.type "bytes") _ _) _ _ _ | with_reducible show wpAny _ _ (PySem.call (Value.ref _) _ _) _ _ _ | with_reducible show wpAny _ _ (exec (Stmt.While _ _ _ _) _) _ _ _ | with_reducible show wpAny _ _ (pyIter _) _ _ _)); (first | ((with_reducible show wpAny _ _ (PySem.execs (_ :: _) _) _ _ _); (first | ((first | with_reducible show wpAny _ _ _ _ _ (PySem.Shared.mk _ _ _ (_ + _) _) | with_reducible show wpAny _ _ _ _ _ (PySem.Shared.mk _ _ _ (PySem.Shared.toks _) _)); (try dsimp only); refine normG s rfl ?_; intro tkN8; (try clear tkN9); rename Nat => tkN9) | dsimp only)) | (k_unfold; (try dsimp only)) | (k_end; wrow_close) | walk1 | (dsimp only; walk1) | (leave1; walk_say "STEP leave1"; try dsimp only) | fail "no step")))
    refine wpR_any ?_
    (repeat' ((fail_if_success (first | with_reducible show wpAny _ _ (subscriptTail _ _ (Value.ref _) (Value.ref _)) _ _ _ | with_reducible show Exists _ | with_reducible show wpR _ _ _ _ _ _ | with_reducible show wpAny _ _ (PySem.call (Value.builtin "list.append") [_, Value.bytes _ _] _) _ _ _ | with_reducible show wpAny _ _ (PySem.exec (Stmt.Assign _ (Expr.ListComp _ _ _ _) _) _) _ _ _ | with_reducible show wpAny _ _ (PySem.eval (Expr.ListComp _ _ _ _) _) _ _ _ | with_reducible show wpAny _ _ (PySem.setItem _ _ _) _ _ _ | with_reducible show KswEnd _ _ _ _ _ _ _ _ _ _ _ _ | with_reducible show wpAny _ _ (PySem.call (Value.type "bytes") _ _) _ _ _ | with_reducible show wpAny _ _ (PySem.call (Value.ref _) _ _) _ _ _ | with_reducible show wpAny _ _ (exec (Stmt.While _ _ _ _) _) _ _ _ | with_reducible show wpAny _ _ (pyIter _) _ _ _)); (first | ((with_reducible show wpAny _ _ (PySem.execs (_ :: _) _) _ _ _); (first | ((first | with_reducible show wpAny _ _ _ _ _ (PySem.Shared.mk _ _ _ (_ + _) _) | with_reducible show wpAny _ _ _ _ _ (PySem.Shared.mk _ _ _ (PySem.Shared.toks _) _)); (try dsimp only); refine normG s rfl ?_; intro tkN8; (try clear tkN9); rename Nat => tkN9) | dsimp only)) | (k_unfold; (try dsimp only)) | (k_end; wrow_close) | walk1 | (dsimp only; walk1) | (leave1; walk_say "STEP leave1"; try dsimp only) | fail "no step")))
    have hin2 : KBa.In (srt ks) := fun k hk => hkk k ((srt_perm ks).mem_iff.mp hk)
    have hsl : (srt ks).length = R * W := by rw [srt_length]; exact hkl2
    have hb2 : KBw.bInts (byteArr (srt ks)) = srt ks := KBa.ints_make hin2
    have hdiv : ((ks.length : Nat) : Int).fdiv (R : Int) = (W : Int) := by
      rw [Int.fdiv_eq_ediv_of_nonneg _ (by omega), hkl2, Int.natCast_mul, Int.mul_comm, Int.mul_ediv_cancel _ (by omega)]
    refine execs_R (assign_call_R (K := hq.heap_1_39 w.params) ?_)
    (repeat' ((fail_if_success (first | with_reducible show wpAny _ _ (subscriptTail _ _ (Value.ref _) (Value.ref _)) _ _ _ | with_reducible show Exists _ | with_reducible show wpR _ _ _ _ _ _ | with_reducible show wpAny _ _ (PySem.call (Value.builtin "list.append") [_, Value.bytes _ _] _) _ _ _ | with_reducible show wpAny _ _ (PySem.exec (Stmt.Assign _ (Expr.ListComp _ _ _ _) _) _) _ _ _ | with_reducible show wpAny _ _ (PySem.eval (Expr.ListComp _ _ _ _) _) _ _ _ | with_reducible show wpAny _ _ (PySem.setItem _ _ _) _ _ _ | with_reducible show KswEnd _ _ _ _ _ _ _ _ _ _ _ _ | with_reducible show wpAny _ _ (PySem.call (Value.type "bytes") _ _) _ _ _ | with_reducible show wpAny _ _ (PySem.call (Value.ref _) _ _) _ _ _ | with_reducible show wpAny _ _ (exec (Stmt.While _ _ _ _) _) _ _ _ | with_reducible show wpAny _ _ (pyIter _) _ _ _)); (first | ((with_reducible show wpAny _ _ (PySem.execs (_ :: _) _) _ _ _); (first | ((first | with_reducible show wpAny _ _ _ _ _ (PySem.Shared.mk _ _ _ (_ + _) _) | with_reducible show wpAny _ _ _ _ _ (PySem.Shared.mk _ _ _ (PySem.Shared.toks _) _)); (try dsimp only); refine normG s rfl ?_; intro tkN8; (try clear tkN9); rename Nat => tkN9) | dsimp only)) | (k_unfold; (try dsimp only)) | (k_end; wrow_close) | walk1 | (dsimp only; walk1) | (leave1; walk_say "STEP leave1"; try dsimp only) | fail "no step")))
    refine KBa.make_K (by k_asm) (by k_asm) rfl (by kba_isList) hIr hin2 (by omega) ?_
    intro h12 t12 k12 F12 N12 _
    (repeat' ((fail_if_success (first | with_reducible show wpAny _ _ (subscriptTail _ _ (Value.ref _) (Value.ref _)) _ _ _ | with_reducible show Exists _ | with_reducible show wpR _ _ _ _ _ _ | with_reducible show wpAny _ _ (PySem.call (Value.builtin "list.append") [_, Value.bytes _ _] _) _ _ _ | with_reducible show wpAny _ _ (PySem.exec (Stmt.Assign _ (Expr.ListComp _ _ _ _) _) _) _ _ _ | with_reducible show wpAny _ _ (PySem.eval (Expr.ListComp _ _ _ _) _) _ _ _ | with_reducible show wpAny _ _ (PySem.setItem _ _ _) _ _ _ | with_reducible show KswEnd _ _ _ _ _ _ _ _ _ _ _ _ | with_reducible show wpAny _ _ (PySem.call (Value.type "bytes") _ _) _ _ _ | with_reducible show wpAny _ _ (PySem.call (Value.ref _) _ _) _ _ _ | with_reducible show wpAny _ _ (exec (Stmt.While _ _ _ _) _) _ _ _ | with_reducible show wpAny _ _ (pyIter _) _ _ _)); (first | ((with_reducible show wpAny _ _ (PySem.execs (_ :: _) _) _ _ _); (first | ((first | with_reducible show wpAny _ _ _ _ _ (PySem.Shared.mk _ _ _ (_ + _) _) | with_reducible show wpAny _ _ _ _ _ (PySem.Shared.mk _ _ _ (PySem.Shared.toks _) _)); (try dsimp only); refine normG s rfl ?_; intro tkN8; (try clear tkN9); rename Nat => tkN9) | dsimp only)) | (k_unfold; (try dsimp only)) | (k_end; wrow_close) | walk1 | (dsimp only; walk1) | (leave1; walk_say "STEP leave1"; try dsimp only) | fail "no step")))
    rw [hdiv]
    clear F11 N11
    refine hideR ?_
    intro QC2 hQC2
    k_dflt (refine' use_claimR (fro_c w _ mg mb _ (srt ks) hb2 R W hsl (by omega) (by omega) _ _ hW0 (by omega)) [(Dr, listOf itr.toArray nr), (100, tabObj #[]), (95, tabObj #[])] ?k1 ?k2 ?k3 ?k4 ?k5 ?k6 ?k7 ?k8 ?k9 ?k10 ?_; (((case k1 => k_asm); (case k2 => k_asm); (case k3 => k_asm); (case k4 => k_asm); (case k5 => k_asm); (case k6 => exact rfl); (case k7 => (((try simp only [List.append_nil, List.nil_append, List.cons_append, List.append_assoc]); first | exact (fun p hp => hp) | (simp only [List.forall_mem_cons, List.not_mem_nil, false_implies, implies_true, and_true, true_and]; (repeat' apply And.intro) <;> first | trivial | k_mem) | (simp; done)))); (case k8 => (((try simp only [List.append_nil, List.nil_append, List.cons_append, List.append_assoc]); first   | (simp only [List.forall_mem_cons, List.not_mem_nil, false_implies, implies_true, and_true, true_and, ne_eq]; done)   | ((simp only [List.forall_mem_cons, List.not_mem_nil, false_implies, implies_true, and_true, true_and]); (repeat' apply And.intro) <;> first | trivial | assumption | exact Ne.symm (by assumption) | k_ne)))); (case k9 => first | exact room1 (by assumption) (by decide) | ktr_room); (case k10 => first | exact units1 (by assumption) (by decide) | ktr_units))))
    rintro r own' h13 tk13 ⟨rfl, sb, ts, rfl, hsb⟩ F13 N13 q13
    refine hQC2 _ _ ?_
    clear hQC2
    first | refine normA s rfl ?_ | refine normR s rfl ?_ | skip
    (repeat' ((fail_if_success (first | with_reducible show wpAny _ _ (subscriptTail _ _ (Value.ref _) (Value.ref _)) _ _ _ | with_reducible show Exists _ | with_reducible show wpR _ _ _ _ _ _ | with_reducible show wpAny _ _ (PySem.call (Value.builtin "list.append") [_, Value.bytes _ _] _) _ _ _ | with_reducible show wpAny _ _ (PySem.exec (Stmt.Assign _ (Expr.ListComp _ _ _ _) _) _) _ _ _ | with_reducible show wpAny _ _ (PySem.eval (Expr.ListComp _ _ _ _) _) _ _ _ | with_reducible show wpAny _ _ (PySem.setItem _ _ _) _ _ _ | with_reducible show KswEnd _ _ _ _ _ _ _ _ _ _ _ _ | with_reducible show wpAny _ _ (PySem.call (Value.type "bytes") _ _) _ _ _ | with_reducible show wpAny _ _ (PySem.call (Value.ref _) _ _) _ _ _ | with_reducible show wpAny _ _ (exec (Stmt.While _ _ _ _) _) _ _ _ | with_reducible show wpAny _ _ (pyIter _) _ _ _)); (first | ((with_reducible show wpAny _ _ (PySem.execs (_ :: _) _) _ _ _); (first | ((first | with_reducible show wpAny _ _ _ _ _ (PySem.Shared.mk _ _ _ (_ + _) _) | with_reducible show wpAny _ _ _ _ _ (PySem.Shared.mk _ _ _ (PySem.Shared.toks _) _)); (try dsimp only); refine normG s rfl ?_; intro tkN8; (try clear tkN9); rename Nat => tkN9) | dsimp only)) | (k_unfold; (try dsimp only)) | (k_end; wrow_close) | walk1 | (dsimp only; walk1) | (leave1; walk_say "STEP leave1"; try dsimp only) | fail "no step")))
    have hdis : ∀ p ∈ [((100 : Addr), tabObj #[])], ∀ q ∈ [(Dr, listOf itr.toArray nr), ((95 : Addr), tabObj #[])], p.1 ≠ q.1 := by
      intro p hp q hq
      rcases List.mem_singleton.mp hp with rfl
      rcases List.mem_cons.mp hq with rfl | hq
      · exact q8 (100, tabObj #[]) (.head _) (Dr, listOf itr.toArray nr) (.head _)
      · rcases List.mem_singleton.mp hq with rfl
        exact (by decide : (100 : Nat) ≠ 95)
    refine execs_R (Return_R (And_R (call_def_R (K := hq.heap_1_39 w.params) ?_)))
    (repeat' ((fail_if_success (first | with_reducible show wpAny _ _ (subscriptTail _ _ (Value.ref _) (Value.ref _)) _ _ _ | with_reducible show Exists _ | with_reducible show wpR _ _ _ _ _ _ | with_reducible show wpAny _ _ (PySem.call (Value.builtin "list.append") [_, Value.bytes _ _] _) _ _ _ | with_reducible show wpAny _ _ (PySem.exec (Stmt.Assign _ (Expr.ListComp _ _ _ _) _) _) _ _ _ | with_reducible show wpAny _ _ (PySem.eval (Expr.ListComp _ _ _ _) _) _ _ _ | with_reducible show wpAny _ _ (PySem.setItem _ _ _) _ _ _ | with_reducible show KswEnd _ _ _ _ _ _ _ _ _ _ _ _ | with_reducible show wpAny _ _ (PySem.call (Value.type "bytes") _ _) _ _ _ | with_reducible show wpAny _ _ (PySem.call (Value.ref _) _ _) _ _ _ | with_reducible show wpAny _ _ (exec (Stmt.While _ _ _ _) _) _ _ _ | with_reducible show wpAny _ _ (pyIter _) _ _ _)); (first | ((with_reducible show wpAny _ _ (PySem.execs (_ :: _) _) _ _ _); (first | ((first | with_reducible show wpAny _ _ _ _ _ (PySem.Shared.mk _ _ _ (_ + _) _) | with_reducible show wpAny _ _ _ _ _ (PySem.Shared.mk _ _ _ (PySem.Shared.toks _) _)); (try dsimp only); refine normG s rfl ?_; intro tkN8; (try clear tkN9); rename Nat => tkN9) | dsimp only)) | (k_unfold; (try dsimp only)) | (k_end; wrow_close) | walk1 | (dsimp only; walk1) | (leave1; walk_say "STEP leave1"; try dsimp only) | fail "no step")))
    rw [hdiv]
    refine hideR ?_
    intro QC3 hQC3
    k_dflt (refine' use_claimR (found_c w _ mg mb Dr itr nr (srt ks) hIr (srt_sorted ks) sb R W hsl (by omega) (by omega) hsb _ _ hW0 (by omega) (Ne.symm (q8 (95, tabObj #[]) (.tail _ (.head _)) _ (.head _)))) [(100, tabObj #[])] ?k1 ?k2 ?k3 ?k4 ?k5 ?k6 ?k7 ?k8 ?k9 ?k10 ?_; (case k1 => k_asm); (case k2 => k_asm); (case k3 => k_asm); (case k4 => k_asm); (case k5 => k_asm); (case k6 => exact rfl); (case k7 => (((try simp only [List.append_nil, List.nil_append, List.cons_append, List.append_assoc]); first | exact (fun p hp => hp) | (simp only [List.forall_mem_cons, List.not_mem_nil, false_implies, implies_true, and_true, true_and]; (repeat' apply And.intro) <;> first | trivial | k_mem) | (simp; done)))); (case k8 => exact hdis); (case k9 => first | exact room1 (by assumption) (by decide) | ktr_room); (case k10 => first | exact units1 (by assumption) (by decide) | ktr_units))
    rintro r own' h14 tk14 ⟨rfl, ps, rfl⟩ F14 N14 q14
    refine hQC3 _ _ ?_
    clear hQC3
    first | refine normA s rfl ?_ | refine normR s rfl ?_ | skip
    refine ⟨rfl, ?_⟩
    refine call_def_R (K := hq.heap_1_39 w.params) ?_
    (repeat' ((fail_if_success (first | with_reducible show wpAny _ _ (subscriptTail _ _ (Value.ref _) (Value.ref _)) _ _ _ | with_reducible show Exists _ | with_reducible show wpR _ _ _ _ _ _ | with_reducible show wpAny _ _ (PySem.call (Value.builtin "list.append") [_, Value.bytes _ _] _) _ _ _ | with_reducible show wpAny _ _ (PySem.exec (Stmt.Assign _ (Expr.ListComp _ _ _ _) _) _) _ _ _ | with_reducible show wpAny _ _ (PySem.eval (Expr.ListComp _ _ _ _) _) _ _ _ | with_reducible show wpAny _ _ (PySem.setItem _ _ _) _ _ _ | with_reducible show KswEnd _ _ _ _ _ _ _ _ _ _ _ _ | with_reducible show wpAny _ _ (PySem.call (Value.type "bytes") _ _) _ _ _ | with_reducible show wpAny _ _ (PySem.call (Value.ref _) _ _) _ _ _ | with_reducible show wpAny _ _ (exec (Stmt.While _ _ _ _) _) _ _ _ | with_reducible show wpAny _ _ (pyIter _) _ _ _)); (first | ((with_reducible show wpAny _ _ (PySem.execs (_ :: _) _) _ _ _); (first | ((first | with_reducible show wpAny _ _ _ _ _ (PySem.Shared.mk _ _ _ (_ + _) _) | with_reducible show wpAny _ _ _ _ _ (PySem.Shared.mk _ _ _ (PySem.Shared.toks _) _)); (try dsimp only); refine normG s rfl ?_; intro tkN8; (try clear tkN9); rename Nat => tkN9) | dsimp only)) | (k_unfold; (try dsimp only)) | (k_end; wrow_close) | walk1 | (dsimp only; walk1) | (leave1; walk_say "STEP leave1"; try dsimp only) | fail "no step")))
    rw [hdiv]
    have N15 : News _ _ h14 [((100 : Addr), tabObj #[]), ((95 : Addr), tabObj ps)] := News.sub N14 (by (((try simp only [List.append_nil, List.nil_append, List.cons_append, List.append_assoc]); first | exact (fun p hp => hp) | (simp only [List.forall_mem_cons, List.not_mem_nil, false_implies, implies_true, and_true, true_and]; (repeat' apply And.intro) <;> first | trivial | k_mem) | (simp; done))))
    have h100 : (100 : Nat) < s.heap.objs.size := Heap.lt_size (hT8 100 (.head _))
    have h95 : (95 : Nat) < s.heap.objs.size := Heap.lt_size (hT8 95 (.tail _ (.head _)))
    refine refused_c w _ mg mb _ _ _ _ _ _ _ ps _ _ _ sb W _ _ hW0 (by omega) rfl (by assumption) (by assumption) (by assumption) N15 (by assumption) ?hl ?_
    case hl =>
      intro p hp
      rcases List.mem_cons.mp hp with rfl | hp
      · exact h100
      · rcases List.mem_singleton.mp hp with rfl
        exact h95
    intro ps2 h16 tk16 F16 N16
    refine hQ0 _ _ ?_
    refine ⟨?_, ⟨_, (N16 _ (.head _)).1⟩, ⟨_, (N16 _ (.tail _ (.head _))).1⟩, trivial⟩
    k_end
    wrow_close
end Mine
end
set_option maxRecDepth 100000 in
set_option maxHeartbeats 8000000 in
theorem PySem.Challenge.cw_pk0050_01_holds : PySem.Challenge.rw_pk0050_01.Holds := by
  exact Mine.law_w
