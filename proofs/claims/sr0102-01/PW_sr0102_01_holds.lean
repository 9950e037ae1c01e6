import PyProof.Rows.All
import Wide.All
import OpenK.AllK
import Wide.FinOn
import PySem.Challenge.RW_sr0102_01
set_option Elab.async false

/-! part Lg -/
section
open PySem PySem.W PyProof.Rows PySem.Calls
namespace Mine

/-- no code of a `__repr__` built-in -/
def codeOk : Code → Bool
  | .builtin id _ => !id.endsWith ".__repr__"
  | _ => true

structure Clean (Γ : Ctx) : Prop where
  code : codeOk Γ.code = true
  below : ∀ x ∈ Γ.below, codeOk x.1 = true

def wpC {α : Type} (b : Bool) (M : Model) (A : Around) (t : Sem α) (Q : α → Shared → Prop) (E : Value → Shared → Prop) (s : Shared) : Prop :=
  ∀ Γ p, Γ.In A → (b = true → Clean Γ) → Sem.wp M Γ t (fun a _ s' => Q a s') (fun e _ s' => E e s') p s

def codeC (b : Bool) (M : Model) (A : Around) (c : Code) (R : Result → Shared → Prop) (s : Shared) : Prop :=
  ∀ Γ p, Γ.code = c → Γ.Below A → (b = true → ∀ x ∈ Γ.below, codeOk x.1 = true) → wpCode M Γ R p s

section
variable {b : Bool} {α β : Type} {M : Model} {A : Around} {E : Value → Shared → Prop} {s : Shared}

theorem wpC_of {t : Sem α} {Q : α → Shared → Prop} (h : wpAny M A t Q E s) : wpC b M A t Q E s := fun Γ p hΓ _ => h Γ p hΓ
theorem codeC_of {c : Code} {R : Result → Shared → Prop} (h : codeAny M A c R s) : codeC b M A c R s := fun Γ p hc hΓ _ => h Γ p hc hΓ

theorem wpC_mono {t : Sem α} {Q Q' : α → Shared → Prop} {E' : Value → Shared → Prop} (h : wpC b M A t Q E s)
    (hQ : ∀ a s, Q a s → Q' a s) (hE : ∀ e s, E e s → E' e s) : wpC b M A t Q' E' s :=
  fun Γ p hΓ hc => Sem.wp_mono M Γ t (fun a _ s => hQ a s) (fun e _ s => hE e s) p s (h Γ p hΓ hc)
theorem codeC_mono {c : Code} {R R' : Result → Shared → Prop} (h : codeC b M A c R s) (hR : ∀ r s, R r s → R' r s) : codeC b M A c R' s :=
  fun Γ p hc hΓ hb => wpCode_mono hR (h Γ p hc hΓ hb)

theorem wpC_pure {a : α} {Q : α → Shared → Prop} (h : Q a s) : wpC b M A (pure a) Q E s := fun _ _ _ _ => h

theorem wpC_bind {m : Sem α} {f : α → Sem β} {Q : β → Shared → Prop} (h : wpC b M A m (fun a s' => wpC b M A (f a) Q E s') E s) :
    wpC b M A (m >>= f) Q E s := fun Γ p hΓ hc => by
  rw [Sem.wp_bind']
  exact Sem.wp_mono M Γ m (fun a p' s' h' => h' Γ p' hΓ hc) (fun _ _ _ h' => h') p s (h Γ p hΓ hc)

/-- the first part by the library, the rest ours -/
theorem wpC_bindA {m : Sem α} {f : α → Sem β} {Q : β → Shared → Prop} (h : wpAny M A m (fun a s' => wpC b M A (f a) Q E s') E s) :
    wpC b M A (m >>= f) Q E s := wpC_bind (wpC_of h)

theorem wpC_onRaise {m : Sem α} {k : Value → Sem Unit} {Q : α → Shared → Prop}
    (h : wpC b M A m Q (fun e s' => wpC b M A (k e) (fun _ s'' => E e s'') E s') s) : wpC b M A (m.onRaise k) Q E s := fun Γ p hΓ hc => by
  rw [Sem.wp_onRaise]
  exact Sem.wp_mono M Γ m (fun _ _ _ h' => h') (fun e p' s' h' => h' Γ p' hΓ hc) p s (h Γ p hΓ hc)

theorem wpC_attempt {m : Sem α} {Q : Except Value α → Shared → Prop} (h : wpC b M A m (fun a => Q (.ok a)) (fun e => Q (.error e)) s) :
    wpC b M A m.attempt Q E s := fun Γ p hΓ hc => by rw [Sem.wp_attempt]; exact h Γ p hΓ hc

theorem wpC_tryCatch {m : Sem α} {k : Value → Sem α} {Q : α → Shared → Prop} (h : wpC b M A m Q (fun e s' => wpC b M A (k e) Q E s') s) :
    wpC b M A (tryCatch m k) Q E s := fun Γ p hΓ hc => by
  rw [Sem.wp_tryCatch']
  exact Sem.wp_mono M Γ m (fun _ _ _ h' => h') (fun e p' s' h' => h' Γ p' hΓ hc) p s (h Γ p hΓ hc)

theorem wpC_holding {vs : List Value} {m : Sem α} {Q : α → Shared → Prop} (h : wpC b M A m Q E s) : wpC b M A (holding vs m) Q E s :=
  fun Γ p hΓ hc => by rw [Sem.wp_holding]; exact h Γ p hΓ hc
theorem wpC_keep {vs : List Value} {m : Sem α} {Q : α → Shared → Prop} (h : wpC b M A m Q E s) : wpC b M A (m.keep vs) Q E s :=
  fun Γ p hΓ hc => by rw [Sem.wp_keep]; exact h Γ p hΓ hc

theorem wpC_standAt {pos : Pos} {Q : Unit → Shared → Prop} (h : Q () s) : wpC b M A (standAt pos) Q E s := fun _ _ _ _ => h
theorem wpC_eq {t t' : Sem α} {Q : α → Shared → Prop} (e : t = t') (h : wpC b M A t' Q E s) : wpC b M A t Q E s := by rw [e]; exact h

theorem clean_enter {Γ : Ctx} (hc : b = true → Clean Γ) (c : Code) (h : Option Value) (p : Pos) : b = true → ∀ x ∈ (Γ.enter c h p).below, codeOk x.1 = true := by
  intro hb x hx
  have hc := hc hb
  rcases List.mem_cons.mp hx with rfl | hx
  · exact hc.code
  · exact hc.below x hx

theorem wpC_run {c : Code} {h : Option Value} {Q : Flow → Shared → Prop}
    (hc : codeC b M (A.mark h) c (fun r s' => match r with | .ok f => Q f s' | .error e => E e s') s) (hnb : h ≠ some byPass := by intro x; cases x) :
    wpC b M A (run c h) Q E s :=
  fun Γ p hΓ hcl => by rw [Sem.wp_run]; exact hc _ p rfl (hΓ.enter c h p hnb) (clean_enter hcl c h p)

theorem wpC_runValue {c : Code} {Q : Value → Shared → Prop}
    (hc : codeC b M A c (fun r s' => match r with | .ok (.ret v) => Q v s' | .ok _ => False | .error e => E e s') s) :
    wpC b M A (runValue c) Q E s := fun Γ p hΓ hcl => by
  rw [Sem.wp_runValue]; exact hc _ p rfl (hΓ.enter c none p (by intro x; cases x)) (clean_enter hcl c none p)

theorem wpC_call {f : Value} {pos : List Value} {kw : List (Str × Value)} {Q : Value → Shared → Prop}
    (hc : codeC b M A (.call f ⟨pos, kw⟩) (fun r s' => match r with | .ok (.ret v) => Q v s' | .ok _ => False | .error e => E e s') s) :
    wpC b M A (call f pos kw) Q E s := wpC_runValue hc

theorem codeC_of_tree {c : Code} {R : Result → Shared → Prop} (hk : b = true → codeOk c = true)
    (h : wpC b M (A.under c) (M.den c) (fun fin s' => match fin with | .done f => R (.ok f) s' | .again c' => c'.quiet = true ∧ codeC b M A c' R s')
      (fun e s' => R (.error e) s') s) : codeC b M A c R s := fun Γ p hc hΓ hb => by
  rw [wpCode_iff_wp, hc]
  refine Sem.wp_mono M Γ _ (fun fin p' s' h' => ?_) (fun _ _ _ h' => h') p s (h Γ p (hc ▸ hΓ.in) (fun q => ⟨hc ▸ hk q, hb q⟩))
  cases fin with
  | done f => exact h'
  | again c' => exact ⟨h'.1, h'.2 (Γ.goto c') p' rfl (hΓ.goto c') hb⟩

theorem codeC_loop {c : Code} {R : Result → Shared → Prop} (hk : b = true → codeOk c = true) (hq : c.quiet = true) (I : Nat → Shared → Prop)
    (turn : ∀ n s, I n s → wpC b M (A.under c) (M.den c)
      (fun fin s' => match fin with | .done f => R (.ok f) s' | .again c' => (c' = c ∧ ∃ m, m < n ∧ I m s') ∨ (c'.quiet = true ∧ codeC b M A c' R s')) (fun e s' => R (.error e) s') s)
    (n : Nat) (h : I n s) : codeC b M A c R s := by
  induction n using Nat.strongRecOn generalizing s with
  | ind n ih =>
    refine codeC_of_tree hk (wpC_mono (turn n s h) (fun fin s' hf => ?_) fun _ _ h' => h')
    cases fin with
    | done f => exact hf
    | again c' =>
      rcases hf with ⟨rfl, m, hm, hI⟩ | hf
      · exact ⟨hq, ih m hm hI⟩
      · exact hf
end
section
variable {b : Bool} {prog : Program} {w : World} {A : Around} {E : Value → Shared → Prop} {R : Result → Shared → Prop} {s : Shared} {env : Env}

theorem wpC_execs_nil {Q : Flow → Shared → Prop} (h : Q .next s) : wpC b (model prog w) A (execs [] env) Q E s := fun _ _ _ _ => h
theorem wpC_execs_cons {st : Stmt} {rest : List Stmt} {Q : Flow → Shared → Prop}
    (h : wpC b (model prog w) A (exec st env) (fun f s' => match f with | .next => wpC b (model prog w) A (execs rest env) Q E s' | f => Q f s') E s) :
    wpC b (model prog w) A (execs (st :: rest) env) Q E s := by
  rw [execs_cons]
  refine wpC_bind (wpC_mono h (fun f s' h' => ?_) fun _ _ e => e)
  cases f <;> first | exact h' | exact wpC_pure h'

theorem codeC_func {body : List Stmt}
    (h : wpC b (model prog w) (A.deeper env) (execs body env) (fun f s' => R (.ok (.ret (match f with | .ret v => v | _ => .none))) s') (fun _ _ => False) s) :
    codeC b (model prog w) A (.func body env) R s := by
  refine codeC_of_tree (fun _ => rfl) ?_
  show wpC b _ (A.deeper env) (do point; match ← (execs body env).onRaise (leaving env) with | .ret v => ret v | _ => ret .none) _ _ s
  refine wpC_bindA (wpAny_point (wpC_bind (wpC_onRaise (wpC_mono h (fun f s' h' => ?_) fun _ _ h' => h'.elim))))
  cases f <;> exact wpC_pure h'

theorem codeC_call_function {a : Addr} {args : Args} {o : Obj} {fd : FuncData} {body : List Stmt} (hroom : A.depth < recursionLimit)
    (ho : s.heap.get? a = some o)
    (hd' : o.data = .func fd) (hco : fd.scope.isCoroutine = false) (hgen : fd.scope.isGenerator = false) (hbody : fd.body = .stmts body) (hcd : s.heap.CodeRec fd.code fd.qualname)
    (h : wpAny (model prog w) A.in1 (bindArgs fd args) (fun binds s₁ =>
      wpAny (model prog w) A.in1 (newFunctionEnv fd.scope fd.globals fd.closure binds (fd.qualname ++ ".<locals>.") (some a) fd.code none fd.builtins)
        (fun env s₂ => s₂.heap.NoLimit ∧ codeC b (model prog w) A (.func body env) R s₂) (fun e s' => R (.error e) s') s₁) (fun e s' => R (.error e) s') s) :
    codeC b (model prog w) A (.call (.ref a) args) R s := by
  refine codeC_of_tree (fun _ => rfl) (wpC_of ?_)
  show wpAny _ A.in1 (callAny (.ref a) args) _ _ s
  simp only [callAny]
  refine wpAny_bind (wpAny_load ho ?_)
  obtain ⟨c, oc, vs, tq, hc, hoc, hdc, hq⟩ := hcd
  simp only [hd', callFunction, hco, hgen, hbody, hc]
  rw [hc] at h
  refine wpAny_bind (m := field (.ref c) 1) (wpAny_field hoc hdc hq (wpAny_bind (wpAny_pure ?_)))
  exact wpAny_bind (wpAny_mono h (fun binds s₁ h₁ => wpAny_bind (wpAny_mono h₁ (fun env s₂ h₂ => wpAny_bind (wpAny_enterFrame h₂.1 hroom
    (wpAny_pure (And.intro rfl h₂.2)))) fun _ _ h' => h')) fun _ _ h' => h')
end
end Mine
end

/-! part Hd0 -/
section
open PySem PySem.W PyProof.Rows PySem.Calls
namespace Mine

theorem clean_caller : Clean ⟨.builtin "claim.caller" {}, none, none, [], none⟩ := ⟨by decide +kernel, fun _ h => nomatch h⟩

theorem ends_C {prog : Program} {w : World} {t : Sem Fin} {s : Shared} {R : Result → Shared → Prop} (hreg : s.asleep)
    (h : wpC true (model prog w) callerA t (fun fin s' => ∃ f, fin = .done f ∧ (R (.ok f) s' ∧ leftWithCleanup s'.gens = false)) (fun e s' => R (.error e) s' ∧ leftWithCleanup s'.gens = false) s) :
    ∃ n r s' s'', runN (denote table) prog w n s ⟨t, .builtin "claim.caller" {}, default, []⟩ = .halted (outcomeOf r) s' ∧
      schedN (denote table) prog w n (.single s ⟨t, .builtin "claim.caller" {}, default, []⟩) = .halted (outcomeOf r) s' ∧ s'.forget = s''.forget ∧ R r s'' := by
  have h' := Sem.wp_mono (model prog w) _ t (post' := Sem.finPost (model prog w) ⟨.builtin "claim.caller" {}, none, none, [], none⟩ fun r s' => R r s' ∧ leftWithCleanup s'.gens = false)
    (exc' := fun e _ s' => R (.error e) s' ∧ leftWithCleanup s'.gens = false) (fun fin p' s' h' => by
      obtain ⟨f, rfl, hf⟩ := h'
      exact hf) (fun _ _ _ h' => h') default s (h _ default caller_in (fun _ => clean_caller))
  obtain ⟨n, r, s₁, s₂, hs, hn, hfo, hR⟩ := wp_halts_full (M := model prog w) (R := R) hreg h'
  exact ⟨n, r, s₂, s₁, hn, hs, hfo, hR⟩

theorem callFrom_C {c : ClaimW} {tree : List Value → Sem Fin} {w : World} {s : Shared} {free : Addr → Prop} {gens : Prop} {kept : Heap → Prop} (hz : s.asleep) (hgens : s.gens = #[])
    (hspec : ∀ args, c.pre args = true → WData.layableAll args = true → ∀ ord : List DictEntry → List DictEntry, (∀ l, (ord l).Perm l) →
      ∃ vs s₁, layAllW c.records (classAt s.heap) w.params ord args s = some (vs, s₁) ∧
        wpC true (model c.prog w) callerA (tree vs) (fun fin s' => ∃ f, fin = .done f ∧ (c.Ends s args vs s₁ (.ok f) s' ∧ s'.os = s.os ∧ AllBare s'.gens ∧ kept s'.heap))
          (fun e s' => c.Ends s args vs s₁ (.error e) s' ∧ s'.os = s.os ∧ AllBare s'.gens ∧ kept s'.heap) s₁) :
    c.CallFrom (fun vs => ⟨tree vs, .builtin "claim.caller" {}, default, []⟩) w free gens kept s := by
  intro args hpre hlay ord hord
  obtain ⟨vs, s₁, hlaid, hcode⟩ := hspec args hpre hlay ord hord
  have hal := layAllW_rest _ _ _ hlaid
  obtain ⟨k, r, s', s'', hrun, hsched, hfo, hends, hos, hkp⟩ := ends_C (prog := c.prog) (w := w) (t := tree vs) (s := s₁) (R := fun r s' => c.Ends s args vs s₁ r s' ∧ s'.os = s.os ∧ kept s'.heap)
    (Shared.asleep_of_life hal.2.2.2 hz)
    (wpC_mono hcode (fun fin s' ⟨f, e, h1, h2, h3, h4⟩ => ⟨f, e, ⟨h1, h2, h4⟩, leftWithCleanup_false_of_bare h3⟩) fun e s' ⟨h1, h2, h3, h4⟩ => ⟨⟨h1, h2, h4⟩, leftWithCleanup_false_of_bare h3⟩)
  obtain ⟨eh, _, _, eo, _⟩ := Shared.forget_eq hfo
  have hcase := hends.congr eh
  have hlife : s'.heap.life = s.heap.life := (runN_life _ _ _ hrun).trans hal.2.2.2
  refine ⟨vs, s₁, hlaid, k, _, s', hsched, ?_, (fun _ i x hx => by rw [hgens] at hx; simp at hx), (by rw [eh]; exact hkp), by rw [hlife], Shared.rest_eq (eo.trans hos)⟩
  rcases hcase with ⟨v, rfl, d1, d2, d3, d4, d5⟩ | ⟨e, ob, cls, rfl, d1, d2, d3, d4, d5⟩
  · exact .inl ⟨v, rfl, d1, d2, d3, fun b o y _ => d4 b o y, d5⟩
  · exact .inr ⟨e, ob, cls, rfl, d1, d2, d3, d4, fun b o y _ => d5 b o y⟩

/-- what is asked of the call: over clean stacks alone, with no more of the ground than the walk needs -/
abbrev WalkC (YP : World → Heap → Prop) (r : RowW) : Prop :=
  ∀ (w : World) (s₀ s₁ : Shared) (mg mb : Str → Option Value), s₁.heap.Ns mainGlobals mg → s₁.heap.Ns builtinsNs mb → (∀ x : Str, x ≠ "__name__" → mb x = bootBuiltins x) → s₁.heap.NoLimit → YP w s₁.heap → ∀ a : Addr, mg r.name = some (.ref a) → s₁.gens = #[] →
    ∀ (args : List WData) (vals : List Value) (as : List Addr), r.claim.pre args = true → WData.layableAll args = true → ReadsAllW r.records (classAt s₀.heap) s₁.heap vals args as → WellAll w.params s₁.heap vals args → (∀ a ∈ as, (a == sysModules) = false) →
      wpC true (model r.prog w) callerA (PySem.call (.ref a) vals) (fun v s' => GoodWG r.claim (classAt s₀.heap) (ExcName.means s₀.heap) args s₁ (.ok (.ret v)) s')
        (fun e s' => GoodWG r.claim (classAt s₀.heap) (ExcName.means s₀.heap) args s₁ (.error e) s') s₁

theorem PySem.W.holds_open {r : OpenRow} {q : Program} {loose : List Str} {Xt : Shared → Bool} {XP : (Str → Option Value) → Heap → Prop} {α : Type} {Yf : Shared → α} {Ya : World → α} {YP : World → Heap → Prop} {d : DefRec} {kwd : List (Str × PySem.Expr)} {N : Nat}
    (left : LeftO r.prog q loose Xt Yf Ya N) (hY : ∀ w s, Yf s = Ya w → YP w s.heap) (hYk : ∀ w h h', YP w h → (∀ b o, h.get? b = some o → h'.get? b = some o) → YP w h')
    (hX : ∀ s, Xt s = true → XP (s.heap.nsMap mainGlobals) s.heap) (hXk : ∀ mg h h', XP mg h → (∀ b o, h.get? b = some o → h'.get? b = some o) → XP mg h')
    (hdef : defOf q r.name = some (d, kwd)) (hp : r.prog.theDef r.name = some (d.params, d.body, d.scope)) (hk : kwWritten? d.params.kwonlyargs d.params.kw_defaults = some kwd) (hRf : ∀ s, Xt s = true → RecFacts r.records s.heap) (hwr : (!r.writes || r.records.isEmpty) = true)
    (k1 : r.wellSaid = true) (ok : (chainsOk q && opensWell r.prog && (frees r.toRowW && r.within.isEmpty)) = true) (hb : r.prog.bare) (hw : r.toRowW.promised)
    (call : WalkC YP r.toRowW) : r.Holds := by
  refine ⟨k1, hw, ?_⟩
  obtain ⟨ok, k5⟩ := Bool.and_eq_true_iff.mp ok
  obtain ⟨hch, o1⟩ := Bool.and_eq_true_iff.mp ok
  obtain ⟨k5, k6⟩ := Bool.and_eq_true_iff.mp k5
  obtain ⟨hsame, hu, ha, hap, hm⟩ := frees_parts k5
  refine ⟨⟨hb, o1, by show r.toRowW.makers.map _ = []; rw [hm]; rfl⟩, hw.witness, fun w => ⟨(left.behind hX hch w).1, fun s' hs' => ?_⟩⟩
  obtain ⟨s₀, hf, hg0, s, hT, hz, hgens, hg, G00, y⟩ := (left.behind (XP := fun mg h => XP mg h ∧ RecFacts r.records h) (fun s hs => ⟨hX s hs, hRf s hs⟩) hch w).2 s' hs'
  have G0 : Ground q loose [] XP w s (s.heap.nsMap mainGlobals) (s.heap.nsMap builtinsNs) s.heap := ⟨G00.T, G00.B, G00.D, G00.TE, G00.TD, G00.W, G00.X.1, G00.cls, G00.has, G00.apart, G00.once, G00.K⟩
  have RF := G00.X.2
  refine ⟨s₀, hf, hg0, s, hT, ?_, RF.1, RF.2.1, ?_⟩
  · intro n hn
    obtain rfl : n = r.name := by split at hn <;> simp_all
    exact pinned_of_view hg G0 hdef hp hk
  have hgens : s.gens = #[] := Array.eq_empty_of_size_eq_zero (beq_iff_eq.mp hgens)
  have G : Ground q loose r.records XP w s _ _ s.heap := RF.ground G0
  refine callFrom_C (c := r.toRowW.claim) hz hgens fun args hpre hlay ord hord => ?_
  obtain ⟨⟨vs, s₁⟩, hlaid⟩ := Option.isSome_iff_exists.mp (layAllW_isSome (P := w.params) (ord := ord) G.has args r.args s (pre_splitW hpre).1)
  have keeps := layAllW_keeps _ _ _ hlaid
  have hal := layAllW_rest _ _ _ hlaid
  obtain ⟨as, hrd, hin, hold⟩ := reads_layAllW hord _ _ _ hlaid hlay s₁.heap (fun _ _ e => e)
  have L : PySem.W.Laid r.records w s s₁ args vs as := ⟨⟨ord, hord, hlaid⟩, hrd, hin, hold, keeps, hal.1.trans hgens, hal.2.2.1⟩
  have G₁ := G.keeps hXk keeps
  obtain ⟨a, o, pm, cd, doc, dV, kV, h1, h2, h3, h4, h5⟩ := G₁.fn hdef
  have h := call w s s₁ _ _ G₁.T.g G₁.T.b G₁.T.builtins G₁.T.nolimit (hYk _ _ _ (hY w s y) keeps) a h1 L.gens args vs as hpre hlay L.reads L.well (L.low G.low)
  have hi := ident_freeW hu ha hap
  have hwi : r.toRowW.claim.within = [] := List.isEmpty_iff.mp k6
  refine ⟨vs, s₁, hlaid, wpC_bindA (wpAny_nsGet G₁.T.g ?_)⟩
  rw [h1]
  refine wpC_bind (wpC_mono h (fun v s' g => wpC_pure ⟨_, rfl, ?_⟩) fun e s' g => ?_)
  all_goals
    have z := g.laid (c := r.toRowW.claim) hsame hwi hi L
    exact ⟨z.1, z.2.1, z.2.2, fun q => ⟨namesKept_of hT hg r.keeps keeps g.2.1.old, noTable hwr q⟩⟩
end Mine
end

/-! part Kp -/
section
open PySem PySem.W PyProof.Rows PySem.Calls
namespace Mine
abbrev prog : Program := PySem.Challenge.pw_sr0102_01
def stmtAt (i : Nat) : Stmt := (prog.main.body[i]?).getD (.Pass ⟨0, 0, 0, 0⟩)
def bodyOf : Stmt → List Stmt
  | .FunctionDef _ _ b _ _ _ _ _ _ _ => b
  | _ => []
def scopeOf : Stmt → Scope
  | .FunctionDef _ _ _ _ _ _ sc _ _ _ => sc
  | _ => prog.main.scope
def paramsOf : Stmt → Arguments
  | .FunctionDef _ a _ _ _ _ _ _ _ _ => a
  | _ => ⟨[], [], none, [], [], none, []⟩
def clsBody : Stmt → List Stmt
  | .ClassDef _ _ _ b _ _ _ _ _ _ _ => b
  | _ => []
def mmNew : Stmt := ((clsBody (stmtAt 6)).find? fun st => match st with | .FunctionDef n .. => n == ("__new__" : Str) | _ => false).getD (.Pass ⟨0, 0, 0, 0⟩)
/-- the part of the heap behind the top that the walk reads -/
noncomputable def KP (P : Params) : Frag := [
  (2, { cls := Value.none, data := Data.dict #[] }),
  (3, { cls := Value.type "dict", data := Data.dict #[{ hash := PyData.keyHash P (Str.ofString "__name__"), key := Value.str (Str.ofString "__name__") 165, val := Value.str (Str.ofString "law_sr0102_01") 426 }, { hash := PyData.keyHash P (Str.ofString "__doc__"), key := Value.str (Str.ofString "__doc__") 166, val := Value.none }, { hash := PyData.keyHash P (Str.ofString "__package__"), key := Value.str (Str.ofString "__package__") 167, val := Value.none }, { hash := PyData.keyHash P (Str.ofString "__loader__"), key := Value.str (Str.ofString "__loader__") 168, val := Value.builtin "__main__.__loader__#opaque" }, { hash := PyData.keyHash P (Str.ofString "__spec__"), key := Value.str (Str.ofString "__spec__") 169, val := Value.none }, { hash := PyData.keyHash P (Str.ofString "__annotations__"), key := Value.str (Str.ofString "__annotations__") 170, val := Value.ref 6 }, { hash := PyData.keyHash P (Str.ofString "__builtins__"), key := Value.str (Str.ofString "__builtins__") 171, val := Value.ref 4 }, { hash := PyData.keyHash P (Str.ofString "__file__"), key := Value.str (Str.ofString "__file__") 173, val := Value.str (Str.ofString "/claim/cut.py") 172 }, { hash := PyData.keyHash P (Str.ofString "__cached__"), key := Value.str (Str.ofString "__cached__") 174, val := Value.none }, { hash := PyData.keyHash P (Str.ofString "_wall"), key := Value.str (Str.ofString "_wall") 193, val := Value.ref 21 }, { hash := PyData.keyHash P (Str.ofString "_tuplegetter"), key := Value.str (Str.ofString "_tuplegetter") 252, val := Value.ref 60 }, { hash := PyData.keyHash P (Str.ofString "_MAX_LENGTH"), key := Value.str (Str.ofString "_MAX_LENGTH") 254, val := Value.int 80 253 }, { hash := PyData.keyHash P (Str.ofString "safe_repr"), key := Value.str (Str.ofString "safe_repr") 263, val := Value.ref 72 }, { hash := PyData.keyHash P (Str.ofString "unorderable_list_difference"), key := Value.str (Str.ofString "unorderable_list_difference") 274, val := Value.ref 79 }, { hash := PyData.keyHash P (Str.ofString "Mismatch"), key := Value.str (Str.ofString "Mismatch") 402, val := Value.ref 150 }, { hash := PyData.keyHash P (Str.ofString "_Mismatch"), key := Value.str (Str.ofString "_Mismatch") 403, val := Value.ref 150 }, { hash := PyData.keyHash P (Str.ofString "_count_diff_all_purpose"), key := Value.str (Str.ofString "_count_diff_all_purpose") 425, val := Value.ref 160 }, { hash := PyData.keyHash P (Str.ofString "_law_faces"), key := Value.str (Str.ofString "_law_faces") 433, val := Value.ref 167 }, { hash := PyData.keyHash P (Str.ofString "_law_names"), key := Value.str (Str.ofString "_law_names") 439, val := Value.ref 174 }, { hash := PyData.keyHash P (Str.ofString "_law_things"), key := Value.str (Str.ofString "_law_things") 445, val := Value.ref 179 }, { hash := PyData.keyHash P (Str.ofString "_law_written"), key := Value.str (Str.ofString "_law_written") 451, val := Value.ref 184 }, { hash := PyData.keyHash P (Str.ofString "_law_equals"), key := Value.str (Str.ofString "_law_equals") 457, val := Value.ref 189 }, { hash := PyData.keyHash P (Str.ofString "_law_rows"), key := Value.str (Str.ofString "_law_rows") 472, val := Value.ref 196 }, { hash := PyData.keyHash P (Str.ofString "_law_counts_hold"), key := Value.str (Str.ofString "_law_counts_hold") 478, val := Value.ref 201 }, { hash := PyData.keyHash P (Str.ofString "_law_copies_hold"), key := Value.str (Str.ofString "_law_copies_hold") 496, val := Value.ref 208 }, { hash := PyData.keyHash P (Str.ofString "_law_one_list_holds"), key := Value.str (Str.ofString "_law_one_list_holds") 511, val := Value.ref 215 }, { hash := PyData.keyHash P (Str.ofString "law"), key := Value.str (Str.ofString "law") 517, val := Value.ref 220 }] 27 }),
  (65, { cls := Value.type "tuple", data := Data.seq #[Value.bool false] }),
  (71, { cls := Value.type "code", data := Data.fields #[Value.str (Str.ofString "safe_repr") 255, Value.str (Str.ofString "safe_repr") 256, Value.str (Str.ofString "/claim/cut.py") 257, Value.int 24 0, Value.int 2 0, Value.int 0 0, Value.int 0 0, Value.int 3 0, Value.ref 66, Value.bool true, Value.int 181 0, Value.ref 67, Value.none, Value.ref 68, Value.ref 69, Value.ref 70, Value.int 261 0, Value.int 24 0, Value.str (Str.ofString "/claim/cut.py") 262] }),
  (72, ⟨Value.type "function", none, .func (fnOf (Str.ofString "safe_repr") (Str.ofString "safe_repr") (paramsOf (stmtAt 4)) (bodyOf (stmtAt 4)) (scopeOf (stmtAt 4)) (Value.ref 65) (Value.none) (Value.none) (Value.str (Str.ofString "cpy313.unittest.util") 194) (none) (Value.ref 71) (Value.none)), #[]⟩),
  (78, { cls := Value.type "code", data := Data.fields #[Value.str (Str.ofString "unorderable_list_difference") 264, Value.str (Str.ofString "unorderable_list_difference") 265, Value.str (Str.ofString "/claim/cut.py") 266, Value.int 32 0, Value.int 2 0, Value.int 0 0, Value.int 0 0, Value.int 3 0, Value.ref 73, Value.bool true, Value.int 181 0, Value.ref 74, Value.none, Value.ref 75, Value.ref 76, Value.ref 77, Value.int 271 0, Value.int 32 0, Value.str (Str.ofString "/claim/cut.py") 272] }),
  (79, ⟨Value.type "function", none, .func (fnOf (Str.ofString "unorderable_list_difference") (Str.ofString "unorderable_list_difference") (paramsOf (stmtAt 5)) (bodyOf (stmtAt 5)) (scopeOf (stmtAt 5)) (Value.none) (Value.none) (Value.str ((docOf (bodyOf (stmtAt 5))).getD "") 273) (Value.str (Str.ofString "cpy313.unittest.util") 194) (none) (Value.ref 78) (Value.none)), #[]⟩),
  (96, { cls := Value.type "code", data := Data.fields #[Value.str (Str.ofString "__new__") 296, Value.str (Str.ofString "Mismatch.__new__") 297, Value.str (Str.ofString "/claim/cut.py") 298, Value.int 52 0, Value.int 4 0, Value.int 0 0, Value.int 0 0, Value.int 3 0, Value.ref 91, Value.bool true, Value.int 181 0, Value.ref 92, Value.none, Value.ref 93, Value.ref 94, Value.ref 95, Value.int 303 0, Value.int 52 0, Value.str (Str.ofString "/claim/cut.py") 304] }),
  (97, ⟨Value.type "function", none, .func (fnOf (Str.ofString "__new__") (Str.ofString "Mismatch.__new__") (paramsOf mmNew) (bodyOf mmNew) (scopeOf mmNew) (Value.none) (Value.none) (Value.str ((docOf (bodyOf mmNew)).getD "") 305) (Value.str (Str.ofString "cpy313.unittest.util") 194) (none) (Value.ref 96) (Value.none)), #[]⟩),
  (147, { cls := Value.type "tuple", data := Data.seq #[] }),
  (149, { cls := Value.type "dict", data := Data.dict #[{ hash := PyData.keyHash P (Str.ofString "__module__"), key := Value.str (Str.ofString "__module__") 282, val := Value.str (Str.ofString "cpy313.unittest.util") 194 }, { hash := PyData.keyHash P (Str.ofString "__firstlineno__"), key := Value.str (Str.ofString "__firstlineno__") 286, val := Value.int 46 285 }, { hash := PyData.keyHash P (Str.ofString "__doc__"), key := Value.str (Str.ofString "__doc__") 288, val := Value.str (Str.ofString "Mismatch(actual, expected, value)") 287 }, { hash := PyData.keyHash P (Str.ofString "__slots__"), key := Value.str (Str.ofString "__slots__") 290, val := Value.ref 88 }, { hash := PyData.keyHash P (Str.ofString "_fields"), key := Value.str (Str.ofString "_fields") 294, val := Value.ref 89 }, { hash := PyData.keyHash P (Str.ofString "_field_defaults"), key := Value.str (Str.ofString "_field_defaults") 295, val := Value.ref 90 }, { hash := PyData.keyHash P (Str.ofString "__new__"), key := Value.str (Str.ofString "__new__") 306, val := Value.ref 151 }, { hash := PyData.keyHash P (Str.ofString "_make"), key := Value.str (Str.ofString "_make") 328, val := Value.ref 106 }, { hash := PyData.keyHash P (Str.ofString "_replace"), key := Value.str (Str.ofString "_replace") 339, val := Value.ref 115 }, { hash := PyData.keyHash P (Str.ofString "__replace__"), key := Value.str (Str.ofString "__replace__") 340, val := Value.ref 115 }, { hash := PyData.keyHash P (Str.ofString "__repr__"), key := Value.str (Str.ofString "__repr__") 348, val := Value.ref 122 }, { hash := PyData.keyHash P (Str.ofString "_asdict"), key := Value.str (Str.ofString "_asdict") 355, val := Value.ref 129 }, { hash := PyData.keyHash P (Str.ofString "__getnewargs__"), key := Value.str (Str.ofString "__getnewargs__") 363, val := Value.ref 136 }, { hash := PyData.keyHash P (Str.ofString "__match_args__"), key := Value.str (Str.ofString "__match_args__") 367, val := Value.ref 137 }, { hash := PyData.keyHash P (Str.ofString "actual"), key := Value.str (Str.ofString "actual") 377, val := Value.ref 139 }, { hash := PyData.keyHash P (Str.ofString "expected"), key := Value.str (Str.ofString "expected") 387, val := Value.ref 142 }, { hash := PyData.keyHash P (Str.ofString "value"), key := Value.str (Str.ofString "value") 397, val := Value.ref 145 }, { hash := PyData.keyHash P (Str.ofString "__static_attributes__"), key := Value.str (Str.ofString "__static_attributes__") 398, val := Value.ref 147 }] 2 }),
  (150, { cls := Value.type "type", data := Data.cls { name := Str.ofString "Mismatch", bases := [Value.type "tuple"], mro := [Value.ref 150, Value.type "tuple", Value.type "object"], ns := 149, qualname := Str.ofString "Mismatch", hasDict := false }, slots := #[some (Value.ref 80), none, some (Value.str (Str.ofString "Mismatch") 275), some (Value.str (Str.ofString "Mismatch") 283), some Value.none, some (Value.bool false)] }),
  (151, { cls := Value.type "staticmethod", data := Data.fields #[Value.ref 97] }),
  (159, { cls := Value.type "code", data := Data.fields #[Value.str (Str.ofString "_count_diff_all_purpose") 404, Value.str (Str.ofString "_count_diff_all_purpose") 405, Value.str (Str.ofString "/claim/cut.py") 406, Value.int 90 0, Value.int 2 0, Value.int 0 0, Value.int 0 0, Value.int 3 0, Value.ref 154, Value.bool true, Value.int 181 0, Value.ref 155, Value.none, Value.ref 156, Value.ref 157, Value.ref 158, Value.int 422 0, Value.int 90 0, Value.str (Str.ofString "/claim/cut.py") 423] }),
  (160, ⟨Value.type "function", none, .func (fnOf (Str.ofString "_count_diff_all_purpose") (Str.ofString "_count_diff_all_purpose") (paramsOf (stmtAt 8)) (bodyOf (stmtAt 8)) (scopeOf (stmtAt 8)) (Value.none) (Value.none) (Value.str ((docOf (bodyOf (stmtAt 8))).getD "") 424) (Value.str (Str.ofString "cpy313.unittest.util") 194) (none) (Value.ref 159) (Value.none)), #[]⟩),
  (166, { cls := Value.type "code", data := Data.fields #[Value.str (Str.ofString "_law_faces") 428, Value.str (Str.ofString "_law_faces") 429, Value.str (Str.ofString "/claim/cut.py") 430, Value.int 123 0, Value.int 0 0, Value.int 0 0, Value.int 0 0, Value.int 3 0, Value.ref 161, Value.bool true, Value.int 181 0, Value.ref 162, Value.none, Value.ref 163, Value.ref 164, Value.ref 165, Value.int 431 0, Value.int 123 0, Value.str (Str.ofString "/claim/cut.py") 432] }),
  (167, ⟨Value.type "function", none, .func (fnOf (Str.ofString "_law_faces") (Str.ofString "_law_faces") (paramsOf (stmtAt 10)) (bodyOf (stmtAt 10)) (scopeOf (stmtAt 10)) (Value.none) (Value.none) (Value.none) (Value.str (Str.ofString "law_sr0102_01") 426) (none) (Value.ref 166) (Value.none)), #[]⟩),
  (173, { cls := Value.type "code", data := Data.fields #[Value.str (Str.ofString "_law_names") 434, Value.str (Str.ofString "_law_names") 435, Value.str (Str.ofString "/claim/cut.py") 436, Value.int 125 0, Value.int 0 0, Value.int 0 0, Value.int 0 0, Value.int 3 0, Value.ref 168, Value.bool true, Value.int 181 0, Value.ref 169, Value.none, Value.ref 170, Value.ref 171, Value.ref 172, Value.int 437 0, Value.int 125 0, Value.str (Str.ofString "/claim/cut.py") 438] }),
  (174, ⟨Value.type "function", none, .func (fnOf (Str.ofString "_law_names") (Str.ofString "_law_names") (paramsOf (stmtAt 11)) (bodyOf (stmtAt 11)) (scopeOf (stmtAt 11)) (Value.none) (Value.none) (Value.none) (Value.str (Str.ofString "law_sr0102_01") 426) (none) (Value.ref 173) (Value.none)), #[]⟩),
  (178, { cls := Value.type "code", data := Data.fields #[Value.str (Str.ofString "_law_things") 440, Value.str (Str.ofString "_law_things") 441, Value.str (Str.ofString "/claim/cut.py") 442, Value.int 127 0, Value.int 1 0, Value.int 0 0, Value.int 0 0, Value.int 3 0, Value.ref 175, Value.bool true, Value.int 181 0, Value.ref 176, Value.none, Value.none, Value.none, Value.ref 177, Value.int 443 0, Value.int 127 0, Value.str (Str.ofString "/claim/cut.py") 444] }),
  (179, ⟨Value.type "function", none, .func (fnOf (Str.ofString "_law_things") (Str.ofString "_law_things") (paramsOf (stmtAt 12)) (bodyOf (stmtAt 12)) (scopeOf (stmtAt 12)) (Value.none) (Value.none) (Value.none) (Value.str (Str.ofString "law_sr0102_01") 426) (none) (Value.ref 178) (Value.none)), #[]⟩),
  (183, { cls := Value.type "code", data := Data.fields #[Value.str (Str.ofString "_law_written") 446, Value.str (Str.ofString "_law_written") 447, Value.str (Str.ofString "/claim/cut.py") 448, Value.int 130 0, Value.int 1 0, Value.int 0 0, Value.int 0 0, Value.int 3 0, Value.ref 180, Value.bool true, Value.int 181 0, Value.ref 181, Value.none, Value.none, Value.none, Value.ref 182, Value.int 449 0, Value.int 130 0, Value.str (Str.ofString "/claim/cut.py") 450] }),
  (184, ⟨Value.type "function", none, .func (fnOf (Str.ofString "_law_written") (Str.ofString "_law_written") (paramsOf (stmtAt 13)) (bodyOf (stmtAt 13)) (scopeOf (stmtAt 13)) (Value.none) (Value.none) (Value.none) (Value.str (Str.ofString "law_sr0102_01") 426) (none) (Value.ref 183) (Value.none)), #[]⟩),
  (188, { cls := Value.type "code", data := Data.fields #[Value.str (Str.ofString "_law_equals") 452, Value.str (Str.ofString "_law_equals") 453, Value.str (Str.ofString "/claim/cut.py") 454, Value.int 132 0, Value.int 2 0, Value.int 0 0, Value.int 0 0, Value.int 3 0, Value.ref 185, Value.bool true, Value.int 181 0, Value.ref 186, Value.none, Value.none, Value.none, Value.ref 187, Value.int 455 0, Value.int 132 0, Value.str (Str.ofString "/claim/cut.py") 456] }),
  (189, ⟨Value.type "function", none, .func (fnOf (Str.ofString "_law_equals") (Str.ofString "_law_equals") (paramsOf (stmtAt 14)) (bodyOf (stmtAt 14)) (scopeOf (stmtAt 14)) (Value.none) (Value.none) (Value.none) (Value.str (Str.ofString "law_sr0102_01") 426) (none) (Value.ref 188) (Value.none)), #[]⟩),
  (195, { cls := Value.type "code", data := Data.fields #[Value.str (Str.ofString "_law_rows") 458, Value.str (Str.ofString "_law_rows") 459, Value.str (Str.ofString "/claim/cut.py") 460, Value.int 134 0, Value.int 2 0, Value.int 0 0, Value.int 0 0, Value.int 3 0, Value.ref 190, Value.bool true, Value.int 181 0, Value.ref 191, Value.none, Value.ref 192, Value.ref 193, Value.ref 194, Value.int 470 0, Value.int 134 0, Value.str (Str.ofString "/claim/cut.py") 471] }),
  (196, ⟨Value.type "function", none, .func (fnOf (Str.ofString "_law_rows") (Str.ofString "_law_rows") (paramsOf (stmtAt 15)) (bodyOf (stmtAt 15)) (scopeOf (stmtAt 15)) (Value.none) (Value.none) (Value.none) (Value.str (Str.ofString "law_sr0102_01") 426) (none) (Value.ref 195) (Value.none)), #[]⟩),
  (200, { cls := Value.type "code", data := Data.fields #[Value.str (Str.ofString "_law_counts_hold") 473, Value.str (Str.ofString "_law_counts_hold") 474, Value.str (Str.ofString "/claim/cut.py") 475, Value.int 144 0, Value.int 2 0, Value.int 0 0, Value.int 0 0, Value.int 3 0, Value.ref 197, Value.bool true, Value.int 181 0, Value.ref 198, Value.none, Value.none, Value.none, Value.ref 199, Value.int 476 0, Value.int 144 0, Value.str (Str.ofString "/claim/cut.py") 477] }),
  (201, ⟨Value.type "function", none, .func (fnOf (Str.ofString "_law_counts_hold") (Str.ofString "_law_counts_hold") (paramsOf (stmtAt 16)) (bodyOf (stmtAt 16)) (scopeOf (stmtAt 16)) (Value.none) (Value.none) (Value.none) (Value.str (Str.ofString "law_sr0102_01") 426) (none) (Value.ref 200) (Value.none)), #[]⟩),
  (207, { cls := Value.type "code", data := Data.fields #[Value.str (Str.ofString "_law_copies_hold") 479, Value.str (Str.ofString "_law_copies_hold") 480, Value.str (Str.ofString "/claim/cut.py") 481, Value.int 147 0, Value.int 2 0, Value.int 0 0, Value.int 0 0, Value.int 3 0, Value.ref 202, Value.bool true, Value.int 181 0, Value.ref 203, Value.none, Value.ref 204, Value.ref 205, Value.ref 206, Value.int 494 0, Value.int 147 0, Value.str (Str.ofString "/claim/cut.py") 495] }),
  (208, ⟨Value.type "function", none, .func (fnOf (Str.ofString "_law_copies_hold") (Str.ofString "_law_copies_hold") (paramsOf (stmtAt 17)) (bodyOf (stmtAt 17)) (scopeOf (stmtAt 17)) (Value.none) (Value.none) (Value.none) (Value.str (Str.ofString "law_sr0102_01") 426) (none) (Value.ref 207) (Value.none)), #[]⟩),
  (214, { cls := Value.type "code", data := Data.fields #[Value.str (Str.ofString "_law_one_list_holds") 497, Value.str (Str.ofString "_law_one_list_holds") 498, Value.str (Str.ofString "/claim/cut.py") 499, Value.int 161 0, Value.int 1 0, Value.int 0 0, Value.int 0 0, Value.int 3 0, Value.ref 209, Value.bool true, Value.int 181 0, Value.ref 210, Value.none, Value.ref 211, Value.ref 212, Value.ref 213, Value.int 509 0, Value.int 161 0, Value.str (Str.ofString "/claim/cut.py") 510] }),
  (215, ⟨Value.type "function", none, .func (fnOf (Str.ofString "_law_one_list_holds") (Str.ofString "_law_one_list_holds") (paramsOf (stmtAt 18)) (bodyOf (stmtAt 18)) (scopeOf (stmtAt 18)) (Value.none) (Value.none) (Value.none) (Value.str (Str.ofString "law_sr0102_01") 426) (none) (Value.ref 214) (Value.none)), #[]⟩),
  (219, { cls := Value.type "code", data := Data.fields #[Value.str (Str.ofString "law") 512, Value.str (Str.ofString "law") 513, Value.str (Str.ofString "/claim/cut.py") 514, Value.int 170 0, Value.int 1 0, Value.int 0 0, Value.int 0 0, Value.int 3 0, Value.ref 216, Value.bool true, Value.int 181 0, Value.ref 217, Value.none, Value.none, Value.none, Value.ref 218, Value.int 515 0, Value.int 170 0, Value.str (Str.ofString "/claim/cut.py") 516] }),
  (220, ⟨Value.type "function", none, .func (fnOf (Str.ofString "law") (Str.ofString "law") (paramsOf (stmtAt 19)) (bodyOf (stmtAt 19)) (scopeOf (stmtAt 19)) (Value.none) (Value.none) (Value.none) (Value.str (Str.ofString "law_sr0102_01") 426) (none) (Value.ref 219) (Value.none)), #[]⟩)]
end Mine
end

/-! part Hd -/
section
open PySem PySem.W PyProof.Rows PySem.Calls
set_option maxRecDepth 100000
namespace Mine
def kAt : List Addr := [2, 3, 65, 71, 72, 78, 79, 96, 97, 147, 149, 150, 151, 159, 160, 166, 167, 173, 174, 178, 179, 183, 184, 188, 189, 195, 196, 200, 201, 207, 208, 214, 215, 219, 220]
theorem kAt_is (P : Params) : kAt = (KP P).map (·.1) := rfl
def vw : Program := view prog [19]
/-- the look that LeftO asks for, with the library's quick twins in the place of what it runs -/
theorem left_quick {p q : Program} {loose : List Str} {Xt : Shared → Bool} {α : Type} {Yf : Shared → α} {Ya : World → α} {N : Nat}
    (h : ∀ w, ((((Fast.tw10274390034422433532 Fast.tw14364793385576792824 (opening p) w N (start (opening p)).1 (start (opening p)).2).bind (Fast.tw14289696077712309145 p)).bind fun s₀ =>
      match s₀.heap.isNs mainGlobals && s₀.gens.size == 0 with
      | true => (Fast.tw14082659384304107361 Fast.tw14364793385576792824 p w s₀.heap.objs.size (s₀.heap.nsMap mainGlobals "__annotations__") N s₀ (topStub p)).bind fun s₁ =>
          match staticsOk (Fast.tw5923862056798008813 p.main.body) s₀.heap s₁.heap && namesBound p s₁.heap && gensDone s₁ && laidKept s₀.heap s₁.heap with
          | true => some s₁
          | false => none
      | false => none).map fun s => (Fast.tw4187177175401517315 q loose (Fast.tw5923862056798008813 p.main.body) Xt true s, Yf s)) = some (openGood q loose, Ya w)) :
    LeftO p q loose Xt Yf Ya N := by
  rw [← Fast.te10274390034422433532, ← Fast.te14364793385576792824, ← Fast.te14289696077712309145, ← Fast.te14082659384304107361, ← Fast.te5923862056798008813, ← Fast.te4187177175401517315] at h
  exact h
set_option maxHeartbeats 0 in
theorem left1 : LeftO prog vw prog.boundNames (fun _ => true) (Hook.obs (kHook KP kAt kAt_is)) (Hook.val (kHook KP kAt kAt_is)) 4000 := by
  refine left_quick fun w => ?_
  kernel_rfl
set_option maxHeartbeats 0 in
theorem said1 : PySem.Challenge.rw_sr0102_01.wellSaid = true := (congrFun Fast.te9446332074065402090 _).trans (by kernel_rfl)
end Mine
end

/-! part Xr -/
section
open PySem PySem.W PyProof.Rows PySem.Calls
namespace Mine
section
variable {b : Bool} {α : Type} {M : Model} {A : Around} {E : Value → Shared → Prop} {s : Shared} {env : Env}
theorem any_of {t : Sem α} {Q : α → Shared → Prop} (h : wpC false M A t Q E s) : wpAny M A t Q E s := fun Γ p hΓ => h Γ p hΓ (fun e => nomatch e)
theorem codeAny_ofC {c : Code} {R : Result → Shared → Prop} (h : codeC false M A c R s) : codeAny M A c R s := fun Γ p hc hΓ => h Γ p hc hΓ (fun e => nomatch e)
end
section
variable {b : Bool} {prog : Program} {w : World} {A : Around} {E : Value → Shared → Prop} {s : Shared} {env : Env}

theorem X_items_cons {pos : Pos} {e : PySem.Expr} {rest : List PySem.Expr} {Q : List Value → Shared → Prop}
    (h : wpC b (model prog w) A (eval e env) (fun v s₁ => wpC b (model prog w) A (spliced (backTo pos (starEach rest env))) (fun vs s₂ => Q (v :: vs) s₂) E s₁) E s)
    (he : starEach (e :: rest) env = (false, eval e env) :: starEach rest env := by rfl) : wpC b (model prog w) A (spliced (backTo pos (starEach (e :: rest) env))) Q E s := by
  rw [he]
  show wpC b _ A (spliced ((false, eval e env) :: backTo pos (starEach rest env))) Q E s
  simp only [spliced]
  refine wpC_bind (wpC_mono h (fun v s₁ h₁ => ?_) fun _ _ e => e)
  show wpC b _ A (do let here ← (pure [v] : Sem (List Value)); return here ++ (← holding here (spliced (backTo pos (starEach rest env))))) Q E s₁
  exact wpC_bind (wpC_pure (wpC_bind (wpC_holding (wpC_mono h₁ (fun vs s₂ h₂ => wpC_pure h₂) fun _ _ e => e))))
theorem X_items_nil {pos : Pos} {Q : List Value → Shared → Prop} (h : Q [] s) : wpC b (model prog w) A (spliced (backTo pos (starEach [] env))) Q E s := wpC_of (wpAny_items_nil h)

theorem X_Tuple {elts : List PySem.Expr} {k : Nat} {pos : Pos} {Q : Value → Shared → Prop}
    (h : wpC b (model prog w) A (spliced (backTo pos (starEach elts env))) (fun vs s₁ => vs.length ≤ sizeLine ∧ Q (.ref s₁.heap.objs.size) { s₁ with heap := s₁.heap.push { cls := .type "tuple", data := .seq vs.toArray } }) E s) :
    wpC b (model prog w) A (eval (.Tuple elts k pos) env) Q E s := by
  show wpC b _ A (do standAt pos; newTuple (← spliced (backTo pos (starEach elts env)))) Q E s
  exact wpC_bind (wpC_standAt (wpC_bind (wpC_mono h (fun vs s₁ h₁ => wpC_of (wpAny_newTuple h₁.2 h₁.1)) fun _ _ e => e)))

/-- a call of a def of the text, its function's value at hand -/
theorem X_callWith_own {pos : Pos} {f : Addr} {of : Obj} {fd : FuncData} {e : PySem.Expr} {rest : List PySem.Expr} {Q : Value → Shared → Prop}
    (h : wpC b (model prog w) A (spliced (backTo pos (starEach (e :: rest) env))) (fun vs s₁ => s₁.heap.get? f = some of ∧ codeC b (model prog w) A (.call (.ref f) ⟨vs, []⟩) (fun r s' => match r with | .ok (.ret v) => Q v s' | .ok _ => False | .error e => E e s') s₁) E s)
    (hd : of.data = .func fd)
    (he : starEach (e :: rest) env = (false, eval e env) :: starEach rest env := by rfl) (hplain : (backTo pos (starEach rest env)).any (·.1) = false := by rfl) :
    wpC b (model prog w) A (callWith pos (.ref f) [] (backTo pos (starEach (e :: rest) env)) []) Q E s := by
  have hp : (backTo pos (starEach (e :: rest) env)).any (·.1) = false := by
    rw [he]; show (false || (backTo pos (starEach rest env)).any (·.1)) = false; rw [hplain]; rfl
  unfold callWith
  refine wpC_bind (wpC_holding ?_)
  have ha : wpC b (model prog w) A (evalArgs (.ref f) true (backTo pos (starEach (e :: rest) env)) []) (fun a s₁ => a.kw = [] ∧ s₁.heap.get? f = some of ∧ codeC b (model prog w) A (.call (.ref f) ⟨a.pos, []⟩) (fun r s' => match r with | .ok (.ret v) => Q v s' | .ok _ => False | .error e => E e s') s₁) E s := by
    rw [he] at h ⊢
    unfold evalArgs
    show wpC b _ A (spliced ((false, eval e env) :: backTo pos (starEach rest env)) >>= _) _ E s
    refine wpC_bind (wpC_mono h (fun vs s₁ h₁ => ?_) fun _ _ e => e)
    refine wpC_holding ?_
    exact wpC_bind (wpC_pure (wpC_bind (wpC_pure (wpC_pure ⟨rfl, h₁⟩))))
  refine wpC_mono ha (fun a s₁ h₁ => wpC_bind (wpC_standAt ?_)) fun _ _ e => e
  obtain ⟨hkw, ho, hc⟩ := h₁
  have hk : wpAny (model prog w) A (keeperOf (.ref f)) (fun k s' => k = .frame ∧ s' = s₁) (fun _ _ => False) s₁ := by
    unfold keeperOf
    refine wpAny_bind (wpAny_load ho ?_)
    rw [hd]; exact wpAny_pure ⟨rfl, rfl⟩
  simp only [hp, List.any_nil, Bool.or_false]
  refine wpC_bind (wpC_mono (wpC_of hk) (fun k s' hs => ?_) fun _ _ e => e.elim)
  obtain ⟨rfl, rfl⟩ := hs
  have tail : ∀ {t : Sem Value}, wpC b (model prog w) A t Q E s' → wpC b (model prog w) A (t >>= fun r => holding [r] point >>= fun _ => pure r) Q E s' :=
    fun ht => wpC_bind (wpC_mono ht (fun r s₂ hr => wpC_bindA (wpAny_holding (wpAny_point (wpC_pure hr)))) fun _ _ x => x)
  rw [hkw]
  dsimp only [List.nil_append]
  split
  · exact tail (wpC_call hc)
  · refine tail ?_
    unfold callMarked
    exact wpC_keep (wpC_call hc)

theorem X_Call_own {x : Str} {np pos : Pos} {f : Addr} {of : Obj} {fd : FuncData} {e : PySem.Expr} {rest : List PySem.Expr} {Q : Value → Shared → Prop}
    (hn : ∀ (Q' : Value → Shared → Prop), Q' (.ref f) s → wpAny (model prog w) A (eval (.Name x np) env) Q' E s)
    (h : wpC b (model prog w) A (spliced (backTo pos (starEach (e :: rest) env))) (fun vs s₁ => s₁.heap.get? f = some of ∧ codeC b (model prog w) A (.call (.ref f) ⟨vs, []⟩) (fun r s' => match r with | .ok (.ret v) => Q v s' | .ok _ => False | .error e => E e s') s₁) E s)
    (hd : of.data = .func fd)
    (he : starEach (e :: rest) env = (false, eval e env) :: starEach rest env := by rfl) (hplain : (backTo pos (starEach rest env)).any (·.1) = false := by rfl) :
    wpC b (model prog w) A (eval (.Call (.Name x np) (e :: rest) [] pos) env) Q E s := by
  show wpC b _ A (do callWith pos (← eval (.Name x np) env) [] (backTo pos (starEach (e :: rest) env)) (backToKw pos (keywordEach [] env))) Q E s
  exact wpC_bindA (hn _ (X_callWith_own h hd he hplain))

theorem X_Compare1 {l r : PySem.Expr} {op : CmpOp} {pos : Pos} {Q : Value → Shared → Prop}
    (h : wpC b (model prog w) A (eval l env) (fun x s₁ => wpC b (model prog w) A (eval r env) (fun y s₂ => wpAny (model prog w) A (compareOp op x y) Q E s₂) E s₁) E s)
    (hm : behindInMarks op r = false := by with_unfolding_all rfl) : wpC b (model prog w) A (eval (.Compare l [op] [r] pos) env) Q E s := by
  refine fun Γ p hΓ hc => ?_
  have key : ∀ {t : Sem Value} {x : Value}, True := fun {_ _} => trivial
  rw [show eval (.Compare l [op] [r] pos) env = (do compareChain pos (← eval l env) [op] (markedEach [op] [r] (evalEach [r] env))) from rfl]
  have hmk : markedEach [op] [r] (evalEach [r] env) = [eval r env] := by
    show [markedBehindIn op r (eval r env)] = _
    unfold markedBehindIn
    rw [hm]
  rw [hmk]
  revert Γ p
  show wpC b _ A _ _ _ _
  refine wpC_bind (wpC_mono h (fun x s₁ h₁ => ?_) fun _ _ e => e)
  show wpC b _ A (do let rv ← holding [x] (eval r env); standAt pos; operate [x, rv] (compareOp op x rv)) Q E s₁
  refine wpC_bind (wpC_holding (wpC_mono h₁ (fun y s₂ h₂ => ?_) fun _ _ e => e))
  exact wpC_of (wpAny_bind (wpAny_standAt (wpAny_operating h₂)))

theorem X_isTrue_Compare1 {l r : PySem.Expr} {op : CmpOp} {pos : Pos} {whole : Sem Value} {Q : Bool → Shared → Prop}
    (h : wpC b (model prog w) A (eval l env) (fun x s₁ => wpC b (model prog w) A (eval r env) (fun y s₂ => wpAny (model prog w) A (compareOp op x y) (fun c s₃ => wpAny (model prog w) A (truthy c) Q E s₃) E s₂) E s₁) E s)
    (hm : behindInMarks op r = false := by with_unfolding_all rfl) : wpC b (model prog w) A (isTrue (.Compare l [op] [r] pos) env whole) Q E s := by
  have hmk : markedEach [op] [r] (evalEach [r] env) = [eval r env] := by
    show [markedBehindIn op r (eval r env)] = _
    unfold markedBehindIn
    rw [hm]
  show wpC b _ A (do testChain pos (← eval l env) [op] (markedEach [op] [r] (evalEach [r] env))) Q E s
  rw [hmk]
  refine wpC_bind (wpC_mono h (fun x s₁ h₁ => ?_) fun _ _ e => e)
  show wpC b _ A (do let rv ← holding [x] (eval r env); standAt pos; let c ← operate [x, rv] (compareOp op x rv); holding [c] (truthy c)) Q E s₁
  refine wpC_bind (wpC_holding (wpC_mono h₁ (fun y s₂ h₂ => ?_) fun _ _ e => e))
  exact wpC_of (wpAny_bind (wpAny_standAt (wpAny_bind (wpAny_operating (wpAny_mono h₂ (fun c s₃ h₃ => wpAny_holding h₃) fun _ _ e => e)))))

theorem X_isTrue_value {e : PySem.Expr} {Q : Bool → Shared → Prop} (h : wpC b (model prog w) A (eval e env) (fun v s₁ => wpAny (model prog w) A (truthy v) Q E s₁) E s)
    (he : isTrue e env (eval e env) = (do let v ← eval e env; standAt e.pos; holding [v] (truthy v)) := by rfl) : wpC b (model prog w) A (isTrue e env (eval e env)) Q E s := by
  rw [he]
  exact wpC_bind (wpC_mono h (fun v s₁ h₁ => wpC_of (wpAny_bind (wpAny_standAt (wpAny_holding h₁)))) fun _ _ e => e)
theorem X_isTrue_not {x : PySem.Expr} {pos : Pos} {whole : Sem Value} {Q : Bool → Shared → Prop} (h : wpC b (model prog w) A (isTrue x env (eval x env)) (fun t s₁ => Q (!t) s₁) E s) :
    wpC b (model prog w) A (isTrue (.UnaryOp .Not x pos) env whole) Q E s := by
  show wpC b _ A (do return !(← isTrue x env (eval x env))) Q E s
  exact wpC_bind (wpC_mono h (fun t s₁ h₁ => wpC_pure h₁) fun _ _ e => e)
/-- `x or y` as a test -/
theorem X_isTrue_or {x y : PySem.Expr} {pos : Pos} {whole : Sem Value} {Q : Bool → Shared → Prop}
    (h : wpC b (model prog w) A (isTrue x env (eval x env)) (fun t s₁ => if t then Q true s₁ else wpC b (model prog w) A (isTrue y env (eval y env)) Q E s₁) E s) :
    wpC b (model prog w) A (isTrue (.BoolOp .Or [x, y] pos) env whole) Q E s := by
  show wpC b _ A (allTrue .Or [x, y] env) Q E s
  simp only [allTrue]
  refine wpC_bind (wpC_mono h (fun t s₁ h₁ => ?_) fun _ _ e => e)
  cases t with
  | true => exact wpC_pure (by simpa using h₁)
  | false =>
    simp only [Bool.false_eq_true, if_false] at h₁
    show wpC b _ A (do match BoolOp.Or, ← isTrue y env (eval y env) with | .And, false => pure false | .Or, true => pure true | _, _ => pure (BoolOp.Or == BoolOp.And)) Q E s₁
    refine wpC_bind (wpC_mono h₁ (fun t s₂ h₂ => ?_) fun _ _ e => e)
    cases t <;> exact wpC_pure h₂

theorem X_If {test : PySem.Expr} {body orelse : List Stmt} {pos : Pos} {Q : Flow → Shared → Prop}
    (h : wpC b (model prog w) A (isTrue test env (eval test env)) (fun t s₂ => if t then wpC b (model prog w) A (execs body env) Q E s₂ else wpC b (model prog w) A (execs orelse env) Q E s₂) E s) :
    wpC b (model prog w) A (exec (.If test body orelse pos) env) Q E s := by
  show wpC b _ A (do standAt pos; if ← isTrue test env (eval test env) then execs body env else execs orelse env) Q E s
  refine wpC_bind (wpC_standAt (wpC_bind (wpC_mono h (fun t s₂ h₂ => ?_) fun _ _ e => e)))
  cases t with
  | true => simpa using h₂
  | false => simpa using h₂

theorem X_Return {e : PySem.Expr} {pos : Pos} {Q : Flow → Shared → Prop} (h : wpC b (model prog w) A (eval e env) (fun v => Q (.ret v)) E s) :
    wpC b (model prog w) A (exec (.Return (some e) pos) env) Q E s := by
  show wpC b _ A (do standAt pos; return .ret (← eval e env)) Q E s
  exact wpC_bind (wpC_standAt (wpC_bind (wpC_mono h (fun v s₁ h₁ => wpC_pure h₁) fun _ _ e => e)))

/-- `x and y` -/
theorem X_And2 {x y : PySem.Expr} {pos : Pos} {Q : Value → Shared → Prop}
    (h : wpC b (model prog w) A (eval x env) (fun v s₁ => wpAny (model prog w) A (truthy v) (fun t s₂ => if t then wpC b (model prog w) A (eval y env) Q E s₂ else Q v s₂) E s₁) E s) :
    wpC b (model prog w) A (eval (.BoolOp .And [x, y] pos) env) Q E s := by
  show wpC b _ A (boolOp pos .And [eval x env, eval y env]) Q E s
  simp only [boolOp]
  refine wpC_bind (wpC_mono h (fun v s₁ h₁ => wpC_bind (wpC_standAt (wpC_bindA (wpAny_holding (wpAny_mono h₁ (fun t s₂ h₂ => ?_) fun _ _ e => e))))) fun _ _ e => e)
  cases t with
  | true => simpa using h₂
  | false => exact wpC_pure (by simpa using h₂)
/-- `x and y and z` -/
theorem X_And3 {x y z : PySem.Expr} {pos : Pos} {Q : Value → Shared → Prop}
    (h : wpC b (model prog w) A (eval x env) (fun v s₁ => wpAny (model prog w) A (truthy v) (fun t s₂ => if t then
      wpC b (model prog w) A (eval y env) (fun v s₁ => wpAny (model prog w) A (truthy v) (fun t s₂ => if t then wpC b (model prog w) A (eval z env) Q E s₂ else Q v s₂) E s₁) E s₂ else Q v s₂) E s₁) E s) :
    wpC b (model prog w) A (eval (.BoolOp .And [x, y, z] pos) env) Q E s := by
  show wpC b _ A (boolOp pos .And [eval x env, eval y env, eval z env]) Q E s
  simp only [boolOp]
  refine wpC_bind (wpC_mono h (fun v s₁ h₁ => wpC_bind (wpC_standAt (wpC_bindA (wpAny_holding (wpAny_mono h₁ (fun t s₂ h₂ => ?_) fun _ _ e => e))))) fun _ _ e => e)
  cases t with
  | false => exact wpC_pure (by simpa using h₂)
  | true =>
    simp only [if_true] at h₂
    refine wpC_bind (wpC_mono h₂ (fun v s₁ h₁ => wpC_bind (wpC_standAt (wpC_bindA (wpAny_holding (wpAny_mono h₁ (fun t s₂ h₂ => ?_) fun _ _ e => e))))) fun _ _ e => e)
    cases t with
    | true => simpa using h₂
    | false => exact wpC_pure (by simpa using h₂)

theorem X_Assign_Name {x : Str} {pos' pos : Pos} {value : PySem.Expr} {Q : Flow → Shared → Prop}
    (h : wpC b (model prog w) A (eval value env) (fun v s₁ => wpAny (model prog w) A (storeName env x v) (fun _ => Q .next) E s₁) E s)
    (hs : swapsWith value (some (.Name x pos')) pos.line env = pure false := by rfl) :
    wpC b (model prog w) A (exec (.Assign [.Name x pos'] value pos) env) Q E s := by
  rw [exec_Assign_Name env x pos' value pos hs]
  refine wpC_bind (wpC_standAt (wpC_bind (wpC_mono h (fun v s₁ h₁ => ?_) fun _ _ e => e)))
  exact wpC_of (wpAny_bind (wpAny_standAt (wpAny_bind (wpAny_bindName (wpAny_mono h₁ (fun _ _ q => wpAny_pure q) fun _ _ e => e)))))
end
end Mine
end

/-! part Xc -/
section
open PySem PySem.W PyProof.Rows PySem.Calls
namespace Mine
section
variable {b : Bool} {prog : Program} {w : World} {A : Around} {E : Value → Shared → Prop} {R : Result → Shared → Prop} {s : Shared} {env : Env}

theorem wpC_noted {α : Type} {m : Sem α} {k : Value → Sem Unit} {Q : α → Shared → Prop} (h : wpC b (model prog w) A m Q (fun _ _ => False) s) : wpC b (model prog w) A (m.onRaise k) Q E s :=
  wpC_onRaise (wpC_mono h (fun _ _ q => q) fun _ _ e => e.elim)

/-- one turn of a comprehension with no test or with one -/
theorem X_compTurn {elt target iter : PySem.Expr} {ifs : List PySem.Expr} {scope : Scope} {pos : Pos} {it acc : Value} {Q : Fin → Shared → Prop} (hif : ifs.length ≤ 1)
    (h : wpAny (model prog w) A (pyNext it) (fun r s₁ => match r with
      | none => Q (.done .next) s₁
      | some v => wpAny (model prog w) A (letOwnedTupleGo target it v) (fun _ s₁ => wpC b (model prog w) A (assign target env v) (fun _ s₂ =>
          (match ifs with
            | [] => wpC b (model prog w) A (eval elt env) (fun x s₃ => wpAny (model prog w) A (call (.builtin "list.append") [acc, x]) (fun _ s₄ => Q (.again (.compLoop (.ListComp elt [⟨target, iter, ifs, 0⟩] scope pos) 0 it acc env)) s₄) E s₃) E s₂
            | c :: _ => wpC b (model prog w) A (isTrue c env (eval c env)) (fun ok s₂ => if ok = true then wpC b (model prog w) A (eval elt env) (fun x s₃ => wpAny (model prog w) A (call (.builtin "list.append") [acc, x]) (fun _ s₄ => Q (.again (.compLoop (.ListComp elt [⟨target, iter, ifs, 0⟩] scope pos) 0 it acc env)) s₄) E s₃) E s₂
                else Q (.again (.compLoop (.ListComp elt [⟨target, iter, ifs, 0⟩] scope pos) 0 it acc env)) s₂) E s₂)) E s₁) E s₁) E s) :
    wpC b (model prog w) A (compTurn (.ListComp elt [⟨target, iter, ifs, 0⟩] scope pos) 0 it acc env) Q E s := by
  unfold compTurn
  refine wpC_bind (wpC_standAt ?_)
  show wpC b _ A (pyNext it >>= _) Q E s
  refine wpC_bindA (wpAny_mono h (fun r s₁ h₁ => ?_) fun _ _ e => e)
  cases r with
  | none => exact wpC_pure h₁
  | some v =>
    refine wpC_bindA (wpAny_mono h₁ (fun _ s₁ h₁ => ?_) fun _ _ e => e)
    refine wpC_bind (wpC_mono h₁ (fun _ s₂ h₂ => ?_) fun _ _ e => e)
    match ifs, hif with
    | [], _ =>
      refine wpC_bind (m := forIn [] true _) (wpC_pure ?_)
      refine wpC_bind (wpC_bind (wpC_mono h₂ (fun x s₃ h₃ => wpC_bindA (wpAny_mono h₃ (fun _ s₄ h₄ => wpC_pure (wpC_pure h₄)) fun _ _ e => e)) fun _ _ e => e))
    | [c], _ =>
      refine wpC_bind (m := forIn [c] true _) ?_
      rw [List.forIn_cons]
      refine wpC_bind (wpC_bind (wpC_mono h₂ (fun ok s₂ h₂ => wpC_pure ?_) fun _ _ e => e))
      dsimp only
      rw [List.forIn_nil]
      refine wpC_pure ?_
      cases ok with
      | false => exact wpC_pure (by simpa using h₂)
      | true =>
        simp only [if_true] at h₂
        refine wpC_bind (wpC_bind (wpC_mono h₂ (fun x s₃ h₃ => wpC_bindA (wpAny_mono h₃ (fun _ s₄ h₄ => wpC_pure (wpC_pure h₄)) fun _ _ e => e)) fun _ _ e => e))
    | _ :: _ :: _, h' => exact absurd h' (by simp)

theorem listIter_go {target : PySem.Expr} {it l : Addr} {i : Nat} {v : Value} {Q : Unit → Shared → Prop} (hit : s.heap.IsListIter it l i) (h : Q () s) : wpAny (model prog w) A (letOwnedTupleGo target (.ref it) v) Q E s := by
  obtain ⟨o, ho, hc, hd⟩ := hit
  unfold letOwnedTupleGo
  split
  · cases v <;> first | exact wpAny_pure h | (refine wpAny_bind (wpAny_load ho ?_); rw [hc, hd]; exact wpAny_pure h)
  · cases v <;> first | exact wpAny_pure h | (refine wpAny_bind (wpAny_load ho ?_); rw [hc, hd]; exact wpAny_pure h)
  · exact wpAny_pure h

def CompSt (s : Shared) (D C : Addr) (n : Nat) (St : Nat → Heap → Prop) (Inv : Nat → List Value → Heap → Prop) (B : Heap) (wr : List Addr) (k : Nat) (s' : Shared) : Prop :=
  ∃ h tk i ys nn m, s' = { s with heap := h, toks := tk } ∧ i ≤ n ∧ k = n - i ∧ ys.length ≤ i ∧ St i h ∧ h.get? D = some { cls := .type "list", data := .seq ys.toArray nn } ∧ h.Ns C m ∧ Inv i ys h ∧ (∀ b o, B.get? b = some o → b ∉ wr → h.get? b = some o)

/-- the loop of a comprehension over any iterator: `Inv` speaks of the items taken, the results, the heap -/
theorem X_compLoop {elt target iter : PySem.Expr} {ifs : List PySem.Expr} {scope : Scope} {pos : Pos} {cenv : Env} {I D : Addr} {fp wr : List Addr} {n : Nat} {P : Nat → Value → Prop} {St : Nat → Heap → Prop} (hif : ifs.length ≤ 1)
    (W : Walks prog w A I fp wr n P St) (hsz : n ≤ sizeLine) (Inv : Nat → List Value → Heap → Prop) (hDC : D ≠ cenv.locals) (hDf : D ∉ fp) (hCf : cenv.locals ∉ fp)
    (hgo : ∀ (i : Nat) (v : Value) (s₁ : Shared) (Q : Unit → Shared → Prop) (E : Value → Shared → Prop), St i s₁.heap → Q () s₁ → wpAny (model prog w) A (letOwnedTupleGo target (.ref I) v) Q E s₁)
    (B : Heap) (hB : ∀ b o, B.get? b = some o → b ∉ wr → s.heap.get? b = some o) (hBD : B.get? D = none) (hBC : B.get? cenv.locals = none)
    (hst : St 0 s.heap) (hD : s.heap.get? D = some { cls := .type "list", data := .seq #[] 0 }) {m₀ : Str → Option Value} (hn : s.heap.Ns cenv.locals m₀) (h0 : Inv 0 [] s.heap)
    (mono : ∀ i ys (h h' : Heap), (∀ b o, b ≠ D → b ≠ cenv.locals → b ∉ wr → h.get? b = some o → h'.get? b = some o) → Inv i ys h → Inv i ys h')
    (turn : ∀ i v ys m s₁, i < n → P i v → Inv i ys s₁.heap → s₁.heap.Ns cenv.locals m → (∀ b o, B.get? b = some o → b ∉ wr → s₁.heap.get? b = some o) → (∃ h tk, s₁ = { s with heap := h, toks := tk }) → (St (i + 1) s₁.heap ∧ ∃ o, s₁.heap.get? D = some o) →
      let fin : Option Value → Shared → Prop := fun y s₂ => (∃ h tk, s₂ = { s₁ with heap := h, toks := tk }) ∧ (∀ b o, b ≠ cenv.locals → s₁.heap.get? b = some o → s₂.heap.get? b = some o) ∧ (∃ m', s₂.heap.Ns cenv.locals m') ∧ Inv (i + 1) (ys ++ y.toList) s₂.heap
      wpC b (model prog w) A (assign target cenv v) (fun _ s₂ =>
          (match ifs with
            | [] => wpC b (model prog w) A (eval elt cenv) (fun x s₃ => fin (some x) s₃) (fun _ _ => False) s₂
            | c :: _ => wpC b (model prog w) A (isTrue c cenv (eval c cenv)) (fun ok s₂ => if ok = true then wpC b (model prog w) A (eval elt cenv) (fun x s₃ => fin (some x) s₃) (fun _ _ => False) s₂ else fin none s₂) (fun _ _ => False) s₂)) (fun _ _ => False) s₁)
    (hR : ∀ h' tk ys nn m', h'.get? D = some { cls := .type "list", data := .seq ys.toArray nn } → h'.Ns cenv.locals m' → Inv n ys h' → (∀ b o, B.get? b = some o → b ∉ wr → h'.get? b = some o) → R (.ok .next) { s with heap := h', toks := tk }) :
    codeC b (model prog w) A (.compLoop (.ListComp elt [⟨target, iter, ifs, 0⟩] scope pos) 0 (.ref I) (.ref D) cenv) R s := by
  refine codeC_loop (fun _ => rfl) rfl
    (CompSt s D cenv.locals n St Inv B wr)
    ?_ n ⟨s.heap, s.toks, 0, [], 0, m₀, rfl, Nat.zero_le _, rfl, Nat.le_refl _, hst, hD, hn, h0, hB⟩
  rintro k s' ⟨h, tk, i, ys, nn, m, rfl, hi, rfl, hlen, hSt, hDy, hNs, hInv, hBk⟩
  show wpC b _ A ((compTurn (.ListComp elt [⟨target, iter, ifs, 0⟩] scope pos) 0 (.ref I) (.ref D) cenv).onRaise _) _ _ _
  refine wpC_noted (X_compTurn hif ?_)
  have hDw : D ∉ wr := fun q => hDf (W.sub _ q)
  have hCw : cenv.locals ∉ wr := fun q => hCf (W.sub _ q)
  by_cases hlt : i < n
  · refine W.item i _ _ _ hlt hSt fun v h₁ tk₁ hP hSt₁ hk₁ => ?_
    refine hgo (i + 1) v _ _ _ hSt₁ ?_
    have hDy₁ := hk₁ _ _ hDw hDy
    have hNs₁ : h₁.Ns cenv.locals m := hNs.at' fun o e => hk₁ _ o hCw e
    have hInv₁ := mono i ys h h₁ (fun b o _ _ q e => hk₁ b o q e) hInv
    have hBk₁ : ∀ b o, B.get? b = some o → b ∉ wr → h₁.get? b = some o := fun b o e q => hk₁ b o q (hBk b o e q)
    have T := turn i v ys m { s with heap := h₁, toks := tk₁ } hlt hP hInv₁ hNs₁ hBk₁ ⟨h₁, tk₁, rfl⟩ ⟨hSt₁, _, hDy₁⟩
    have close : ∀ (y : Option Value) (s₂ : Shared), ((∃ h tk, s₂ = { s with heap := h, toks := tk }) ∧ (∀ b o, b ≠ cenv.locals → h₁.get? b = some o → s₂.heap.get? b = some o) ∧ (∃ m', s₂.heap.Ns cenv.locals m') ∧ Inv (i + 1) (ys ++ y.toList) s₂.heap) →
        ∀ (s₃ : Shared), (∃ h tk nn', s₃ = { s with heap := h, toks := tk } ∧ h.get? D = some { cls := .type "list", data := .seq (ys ++ y.toList).toArray nn' } ∧ (∀ b o, b ≠ D → s₂.heap.get? b = some o → h.get? b = some o)) →
        ∃ k, k < n - i ∧ CompSt s D cenv.locals n St Inv B wr k s₃ := by
      rintro y s₂ ⟨_, hk₂, ⟨m', hn'⟩, hI⟩ s₃ ⟨h₃, tk₃, nn', rfl, hD₃, hk₃⟩
      have all : ∀ b o, b ≠ cenv.locals → b ≠ D → h₁.get? b = some o → h₃.get? b = some o := fun b o q1 q2 e => hk₃ b o q2 (hk₂ b o q1 e)
      refine ⟨n - (i + 1), by omega, h₃, tk₃, i + 1, ys ++ y.toList, nn', m', rfl, hlt, rfl, ?_, ?_, hD₃, hn'.at' fun o e => hk₃ _ o (fun q => hDC q.symm) e, ?_, ?_⟩
      · rw [List.length_append]; cases y <;> simp <;> omega
      · exact W.frame _ _ _ hSt₁ fun b hb o e => all b o (fun q => hCf (q ▸ hb)) (fun q => hDf (q ▸ hb)) e
      · exact mono _ _ s₂.heap h₃ (fun b o q _ _ e => hk₃ b o q e) hI
      · intro b o e q
        exact all b o (fun z => by rw [z, hBC] at e; cases e) (fun z => by rw [z, hBD] at e; cases e) (hBk₁ b o e q)
    have fin : ∀ (x : Value) (s₂ : Shared), ((∃ h tk, s₂ = { s with heap := h, toks := tk }) ∧ (∀ b o, b ≠ cenv.locals → h₁.get? b = some o → s₂.heap.get? b = some o) ∧ (∃ m', s₂.heap.Ns cenv.locals m') ∧ Inv (i + 1) (ys ++ (some x).toList) s₂.heap) →
        wpAny (model prog w) A (call (.builtin "list.append") [.ref D, x]) (fun _ s₄ => ∃ k, k < n - i ∧ CompSt s D cenv.locals n St Inv B wr k s₄) (fun _ _ => False) s₂ := by
      rintro x s₂ ⟨⟨h₂, tk₂, rfl⟩, hk₂, hn', hI⟩
      have hD₂ := hk₂ _ _ hDC hDy₁
      refine wpAny_call_entry slot_list_append ⟨_, hD₂, rfl⟩ entry_list_append ?_ (args_list_append _ _)
      show wpAny _ _ (updateSeq D (·.push x) >>= fun _ => ret .none) _ _ _
      refine wpAny_bind (wpAny_updateSeq hD₂ rfl (wpAny_pure ⟨.none, rfl, ?_⟩) (by simp; omega))
      refine close (some x) _ ⟨⟨h₂, tk₂, rfl⟩, hk₂, hn', hI⟩ _ ⟨_, _, nn + 1, rfl, ?_, fun b o q e => (Heap.get?_update_other _ _ (fun z : D = b => q z.symm)).trans e⟩
      have := Heap.get?_update_self (Obj.mapSeq (·.push x)) hD₂ rfl
      rw [this]
      show some ({ cls := _, dict := _, data := .seq (ys.toArray.push x) (if (ys.toArray.push x).size == ys.toArray.size then nn else nn + 1), slots := _ } : Obj) = _
      have e1 : ((ys.toArray.push x).size == ys.toArray.size) = false := by simp
      rw [e1]
      simp
    refine wpC_mono T (fun _ s₂ h₂ => ?_) fun _ _ e => e.elim
    match ifs, hif, h₂, fin with
    | [], _, h₂, fin => exact wpC_mono h₂ (fun x s₃ h₃ => wpAny_mono (fin x s₃ h₃) (fun _ _ q => .inl ⟨(by first | trivial | rfl), q⟩) fun _ _ e => e.elim) fun _ _ e => e.elim
    | [c], _, h₂, fin =>
      refine wpC_mono h₂ (fun ok s₃ h₃ => ?_) fun _ _ e => e.elim
      cases ok with
      | false =>
        simp only [Bool.false_eq_true, if_false] at h₃ ⊢
        obtain ⟨⟨h₂, tk₂, rfl⟩, hk₂, hn', hI⟩ := h₃
        exact .inl ⟨trivial, close none _ ⟨⟨h₂, tk₂, rfl⟩, hk₂, hn', hI⟩ _ ⟨h₂, tk₂, nn, rfl, by simpa using hk₂ _ _ hDC hDy₁, fun b o _ e => e⟩⟩
      | true =>
        simp only [if_true] at h₃ ⊢
        exact wpC_mono h₃ (fun x s₃ h₃ => wpAny_mono (fin x s₃ h₃) (fun _ _ q => .inl ⟨(by first | trivial | rfl), q⟩) fun _ _ e => e.elim) fun _ _ e => e.elim
    | _ :: _ :: _, h', _, _ => exact absurd h' (by simp)
  · have hin : i = n := by omega
    subst hin
    refine W.done _ _ _ hSt fun h₁ tk₁ hk₁ => ?_
    exact hR h₁ tk₁ ys nn m (hk₁ _ _ hDw hDy) (hNs.at' fun o e => hk₁ _ o hCw e) (mono i ys h h₁ (fun b o _ _ q e => hk₁ b o q e) hInv) fun b o e q => hk₁ b o q (hBk b o e q)

theorem X_compStart {elt target iter : PySem.Expr} {ifs : List PySem.Expr} {scope : Scope} {pos : Pos} {it acc : Value} {cenv : Env}
    (h0 : codeC b (model prog w) A (.compLoop (.ListComp elt [⟨target, iter, ifs, 0⟩] scope pos) 0 it acc cenv) R s)
    (h : wpAny (model prog w) A (pyIter it) (fun it' s' => codeC b (model prog w) A (.compLoop (.ListComp elt [⟨target, iter, ifs, 0⟩] scope pos) 0 it' acc cenv) R s') (fun _ _ => False) s) :
    codeC b (model prog w) A (.compStart (.ListComp elt [⟨target, iter, ifs, 0⟩] scope pos) 0 it acc cenv) R s := by
  refine codeC_of_tree (fun _ => rfl) ?_
  show wpC b _ A ((compStart (.ListComp elt [⟨target, iter, ifs, 0⟩] scope pos) 0 it acc cenv).onRaise _) _ _ s
  refine wpC_noted ?_
  unfold compStart
  show wpC b _ A (ask >>= _) _ _ s
  refine wpC_bindA (wpAny_askSetting ?_)
  refine wpC_of (wpAny_ite ?_)
  split
  · first
      | exact wpAny_bind (wpAny_pure (wpAny_pure (And.intro rfl h0)))
      | exact wpAny_pure (And.intro rfl h0)
  · refine wpAny_bind (wpAny_rule ?_)
    show wpAny _ _ (standAt iter.pos >>= _) _ _ s
    exact wpAny_bind (wpAny_standAt (wpAny_bind (wpAny_mono h (fun it' s' h' => wpAny_pure (And.intro rfl h')) fun _ _ x => x.elim)))

theorem wpC_standIf {α : Type} {c : Prop} [Decidable c] {pos : Pos} {k : PUnit → Sem α} {Q : α → Shared → Prop} (h : wpC b (model prog w) A (k ()) Q E s) :
    wpC b (model prog w) A (if c then (standAt pos >>= k) else k ()) Q E s := by
  split
  · exact wpC_bind (wpC_standAt h)
  · exact h

/-- what a comprehension's user shows, from the state where the iterator stands -/
structure CompOn (b : Bool) (prog : Program) (w : World) (A : Around) (env : Env) (scope : Scope) (cl : List (Str × Addr)) (target elt : PySem.Expr) (ifs : List PySem.Expr) (I : Addr) (fp wr : List Addr) (n : Nat) (P : Nat → Value → Prop) (St : Nat → Heap → Prop)
    (Inv : Nat → List Value → Heap → Prop) (s₂ : Shared) : Prop where
  walks : Walks prog w A I fp wr n P St
  size : n ≤ sizeLine
  st : St 0 s₂.heap
  low : ∀ b ∈ fp, b < s₂.heap.objs.size
  goes : ∀ (i : Nat) (v : Value) (s₁ : Shared) (Q : Unit → Shared → Prop) (E : Value → Shared → Prop), St i s₁.heap → Q () s₁ → wpAny (model prog w) A (letOwnedTupleGo target (.ref I) v) Q E s₁
  start : ∀ h', (∀ b o, s₂.heap.get? b = some o → h'.get? b = some o) → Inv 0 [] h'
  mono : ∀ i ys (h h' : Heap), (∀ b o, b ≠ s₂.heap.objs.size → b ≠ s₂.heap.objs.size + 1 → b ∉ wr → h.get? b = some o → h'.get? b = some o) → Inv i ys h → Inv i ys h'
  turn : ∀ i v ys m s₁, i < n → P i v → Inv i ys s₁.heap → s₁.heap.Ns (s₂.heap.objs.size + 1) m → (∀ b o, s₂.heap.get? b = some o → b ∉ wr → s₁.heap.get? b = some o) → (∃ h tk, s₁ = { s₂ with heap := h, toks := tk }) → (St (i + 1) s₁.heap ∧ ∃ o, s₁.heap.get? s₂.heap.objs.size = some o) →
      let cenv := compEnvC scope cl (s₂.heap.objs.size + 1) env
      let fin : Option Value → Shared → Prop := fun y s₂' => (∃ h tk, s₂' = { s₁ with heap := h, toks := tk }) ∧ (∀ b o, b ≠ s₂.heap.objs.size + 1 → s₁.heap.get? b = some o → s₂'.heap.get? b = some o) ∧ (∃ m', s₂'.heap.Ns (s₂.heap.objs.size + 1) m') ∧ Inv (i + 1) (ys ++ y.toList) s₂'.heap
      wpC b (model prog w) A (assign target cenv v) (fun _ s₂ =>
          (match ifs with
            | [] => wpC b (model prog w) A (eval elt cenv) (fun x s₃ => fin (some x) s₃) (fun _ _ => False) s₂
            | c :: _ => wpC b (model prog w) A (isTrue c cenv (eval c cenv)) (fun ok s₂ => if ok = true then wpC b (model prog w) A (eval elt cenv) (fun x s₃ => fin (some x) s₃) (fun _ _ => False) s₂ else fin none s₂) (fun _ _ => False) s₂)) (fun _ _ => False) s₁

theorem X_comprehension {elt target iter : PySem.Expr} {ifs : List PySem.Expr} {scope : Scope} {cl : List (Str × Addr)} {pos ipos : Pos} {use : Option (Value → Sem Unit)} {Q : Value → Shared → Prop} (hif : ifs.length ≤ 1)
    (hclos : closureFor scope env = pure cl) (hcell : ∀ y ∈ scope.names, y.2 ≠ .cell) (hkind : scope.kind = .function) (hnames : ∀ y ∈ scope.names, y.2 = .local → scope.names.lookup y.1 = some .local)
    (h : wpC b (model prog w) A (eval iter env) (fun xv s₁ => wpAny (model prog w) A (pyIter xv) (fun it s₂ => ∃ I fp wr n P St Inv, it = .ref I ∧ CompOn b prog w A env scope cl target elt ifs I fp wr n P St Inv s₂ ∧
      (∀ h' tk ys nn, h'.get? s₂.heap.objs.size = some { cls := .type "list", data := .seq ys.toArray nn } → Inv n ys h' → (∀ b o, b ∉ wr → s₂.heap.get? b = some o → h'.get? b = some o) →
        (match use with
          | none => Q (.ref s₂.heap.objs.size) { s₂ with heap := h', toks := tk }
          | some u => ∀ m', h'.Ns (s₂.heap.objs.size + 1) m' → wpAny (model prog w) A (u (.ref s₂.heap.objs.size)) (fun _ s'' => (∃ m, s''.heap.Ns (s₂.heap.objs.size + 1) m) ∧ ∀ h'', Heap.SameBut (s₂.heap.objs.size + 1) s''.heap h'' → Q .none { s'' with heap := h'' }) E { s₂ with heap := h', toks := tk }))) E s₁) E s)
    (hs : ∀ x, foldedSetIterable iter env x = pure x := by intro _; rfl) :
    wpC b (model prog w) A (comprehension (.ListComp elt [⟨target, iter, ifs, 0⟩] scope pos) scope env ipos (newList []) false (eval iter env) use) Q E s := by
  unfold comprehension
  rw [hclos, show clausesOf (.ListComp elt [⟨target, iter, ifs, 0⟩] scope pos) = [⟨target, iter, ifs, 0⟩] from rfl]
  refine wpC_bind (wpC_mono h (fun x s₁ h₁ => wpC_bind (wpC_standAt (wpC_bind (wpC_eq (hs x) (wpC_pure (wpC_bindA (wpAny_holding (wpAny_mono h₁ (fun it s₂ h₂ => wpC_standIf ?_) fun _ _ e => e)))))))) fun _ _ e => e)
  obtain ⟨I, fp, wr, n, P, St, Inv, rfl, C, post⟩ := h₂
  refine wpC_bindA (wpAny_newObj_type ?_)
  refine wpC_bind (wpC_pure (wpC_bindA (wpAny_newFunctionEnv hcell (by intro y hy; simp at hy) (fun h₁ hns₁ hsb₁ => ?_) hkind)))
  dsimp only at hns₁ hsb₁ ⊢
  generalize hH2 : s₂.heap.push { cls := .type "list", dict := none, data := .seq ([] : List Value).toArray } = H2 at hns₁ hsb₁ ⊢
  have hCs : H2.objs.size = s₂.heap.objs.size + 1 := by rw [← hH2, Heap.size_push]
  have hDC : s₂.heap.objs.size ≠ s₂.heap.objs.size + 1 := by omega
  rw [hCs] at hns₁ hsb₁ ⊢
  have old : ∀ b o, s₂.heap.get? b = some o → h₁.get? b = some o := fun b o e => hsb₁.extBut b o (Nat.ne_of_lt (Nat.lt_succ_of_lt (Heap.lt_size e))) (Heap.get?_push_of_some _ (hH2 ▸ Heap.get?_push_of_some _ e))
  have hacc : h₁.get? s₂.heap.objs.size = some { cls := .type "list", data := .seq #[] 0 } := hsb₁.extBut _ _ hDC (Heap.get?_push_of_some _ (hH2 ▸ Heap.get?_push_size _ rfl))
  have fresh : ∀ a, s₂.heap.objs.size ≤ a → s₂.heap.get? a = none := fun a ha => by
    cases e : s₂.heap.get? a with
    | none => rfl
    | some o' => exact absurd (Heap.lt_size e) (Nat.not_lt.mpr ha)
  have nfp : ∀ a, s₂.heap.objs.size ≤ a → a ∉ fp := fun a ha hm => absurd (C.low a hm) (Nat.not_lt.mpr ha)
  have hst₁ : St 0 h₁ := C.walks.frame _ _ _ C.st fun b _ o e => old b o e
  have hv : ∀ x ∈ (scope.names.filter fun x => (x.2 == .local || x.2 == .cell) && x.1 != (".0" : Str)).reverse, x.2 = .local →
      Env.kindOf (compEnvC scope cl (s₂.heap.objs.size + 1) env) x.1 = some .local := fun x hx hl => lookup_relabel_local (hnames x (List.mem_filter.mp (List.mem_reverse.mp hx)).1 hl)
  refine wpC_holding (wpC_bind (wpC_attempt (wpC_holding (wpC_run ?_))))
  have key : codeC b (model prog w) A (.compLoop (.ListComp elt [⟨target, iter, ifs, 0⟩] scope pos) 0 (.ref I) (.ref s₂.heap.objs.size) (compEnvC scope cl (s₂.heap.objs.size + 1) env))
      (fun r s' => r = .ok .next ∧ ∃ h' tk ys nn m', s' = { s₂ with heap := h', toks := tk } ∧ h'.get? s₂.heap.objs.size = some { cls := .type "list", data := .seq ys.toArray nn } ∧ h'.Ns (s₂.heap.objs.size + 1) m' ∧ Inv n ys h' ∧ (∀ b o, b ∉ wr → s₂.heap.get? b = some o → h'.get? b = some o))
      { s₂ with heap := h₁, toks := s₂.toks + ([] : List (Str × Value)).length } := by
    refine X_compLoop (cenv := compEnvC scope cl (s₂.heap.objs.size + 1) env) hif C.walks C.size Inv hDC (nfp _ (Nat.le_refl _)) (nfp _ (Nat.le_succ _)) C.goes s₂.heap (fun b o e _ => old b o e) (fresh _ (Nat.le_refl _)) (fresh _ (Nat.le_succ _)) hst₁ hacc hns₁ (C.start _ old) C.mono ?_ ?_
    · rintro i v ys m s₁ hi hP hI hN hB ⟨h, tk, rfl⟩ hx
      exact C.turn i v ys m _ hi hP hI hN hB ⟨h, tk, rfl⟩ hx
    · intro h' tk ys nn m' hD hN hI hk
      exact ⟨rfl, h', tk, ys, nn, m', rfl, hD, hN, hI, fun b o q e => hk b o e q⟩
  refine codeC_mono (X_compStart (cenv := compEnvC scope cl (s₂.heap.objs.size + 1) env) key (C.walks.self 0 _ _ _ hst₁ key)) fun r s' hr => ?_
  obtain ⟨rfl, h', tk, ys, nn, m', rfl, hD, hN, hI, hk⟩ := hr
  cases use with
  | none =>
    dsimp only
    refine wpC_bindA (wpAny_holding (wpAny_comp_letGo (cenv := compEnvC scope cl (s₂.heap.objs.size + 1) env) hkind _ _ m' hv hN fun h'' m'' hn'' hs'' => wpC_pure ?_))
    have ext := hs''.extBut
    exact post h'' tk ys nn (ext _ _ hDC hD) (C.mono _ _ _ _ (fun b o _ q _ e => ext b o q e) hI) fun b o q e => ext b o (Nat.ne_of_lt (Nat.lt_succ_of_lt (Heap.lt_size e))) (hk b o q e)
  | some u =>
    dsimp only
    have post' := post h' tk ys nn hD hI hk m' hN
    refine wpC_bindA (wpAny_rule (wpC_bindA (wpAny_holding (wpAny_mono post' (fun _ s'' hr' => ?_) fun _ _ e => e))))
    obtain ⟨⟨m, hn⟩, hr'⟩ := hr'
    have hv' : ∀ x ∈ (scope.names.filter fun x => (x.2 == .local || x.2 == .cell) && x.1 != (".0" : Str)).reverse.drop 1 ++ (scope.names.filter fun x => (x.2 == .local || x.2 == .cell) && x.1 != (".0" : Str)).reverse.take 1,
        x.2 = .local → Env.kindOf (compEnvC scope cl (s₂.heap.objs.size + 1) env) x.1 = some .local := fun x hx hl => by
      rcases List.mem_append.mp hx with h1 | h1
      · exact hv x (List.mem_of_mem_drop h1) hl
      · exact hv x (List.mem_of_mem_take h1) hl
    exact wpC_bindA (wpAny_comp_letGo (cenv := compEnvC scope cl (s₂.heap.objs.size + 1) env) hkind _ s'' m hv' hn fun h'' m'' _ hs'' => wpC_pure (hr' h'' hs''))

theorem X_ListComp {elt target iter : PySem.Expr} {ifs : List PySem.Expr} {scope : Scope} {cl : List (Str × Addr)} {pos : Pos} {Q : Value → Shared → Prop} (hif : ifs.length ≤ 1)
    (hclos : closureFor scope env = pure cl) (hcell : ∀ y ∈ scope.names, y.2 ≠ .cell) (hkind : scope.kind = .function) (hnames : ∀ y ∈ scope.names, y.2 = .local → scope.names.lookup y.1 = some .local)
    (h : wpC b (model prog w) A (eval iter env) (fun xv s₁ => wpAny (model prog w) A (pyIter xv) (fun it s₂ => ∃ I fp wr n P St Inv, it = .ref I ∧ CompOn b prog w A env scope cl target elt ifs I fp wr n P St Inv s₂ ∧
      (∀ h' tk ys nn, h'.get? s₂.heap.objs.size = some { cls := .type "list", data := .seq ys.toArray nn } → Inv n ys h' → (∀ b o, b ∉ wr → s₂.heap.get? b = some o → h'.get? b = some o) →
        Q (.ref s₂.heap.objs.size) { s₂ with heap := h', toks := tk })) E s₁) E s)
    (hs : ∀ x, foldedSetIterable iter env x = pure x := by intro _; rfl) :
    wpC b (model prog w) A (eval (.ListComp elt [⟨target, iter, ifs, 0⟩] scope pos) env) Q E s := by
  rw [eval_ListComp]
  exact X_comprehension hif hclos hcell hkind hnames h hs
end
end Mine
end

/-! part Gd -/
section
open PySem PySem.W PyProof.Rows PySem.Calls
namespace Mine

/-- the written part of the heap -/
noncomputable abbrev KF (w : World) : Frag := KP w.params

structure Gd (w : World) (h : Heap) : Prop where
  K : (KF w).In h
  T : ∃ mg mb, h.Ns mainGlobals mg ∧ h.Ns builtinsNs mb ∧ ∀ x : Str, x ≠ "__name__" → mb x = bootBuiltins x
  lim : h.NoLimit

theorem Gd.keeps {w : World} {h h' : Heap} (G : Gd w h) (k : ∀ b o, h.get? b = some o → h'.get? b = some o) : Gd w h' :=
  ⟨G.K.keeps k, let ⟨mg, mb, a, b, c⟩ := G.T; ⟨mg, mb, a.keeps k, b.keeps k, c⟩, G.lim.keeps k⟩

section
variable {b : Bool} {w : World} {A : Around} {E : Value → Shared → Prop} {R : Result → Shared → Prop} {s : Shared} {env : Env} {x : Str} {pos : Pos} {v : Value} {Q : Value → Shared → Prop} {m : Str → Option Value}

theorem nm_own (G : Gd w s.heap) (e : nsIn (KF w) mainGlobals x = some (some v)) (h : Q v s) (hk : env.scope.kind = .function := by rfl) (hx : env.kindOf x = some .globalImplicit := by rfl) (hg : env.globals = mainGlobals := by rfl)
    (hd : (x == ("__debug__" : Str)) = false := by decide) : wpAny (model prog w) A (eval (.Name x pos) env) Q E s := by
  obtain ⟨mg, mb, a, _, _⟩ := G.T
  exact Name_function_global hk hx (loadGlobal_global (hg ▸ a) (mg_of G.K a e) h) hd
theorem nm_bi (G : Gd w s.heap) (e : nsIn (KF w) mainGlobals x = some none) (hv : bootBuiltins x = some v) (hn : x ≠ "__name__") (h : Q v s) (hk : env.scope.kind = .function := by rfl) (hx : env.kindOf x = some .globalImplicit := by rfl) (hg : env.globals = mainGlobals := by rfl)
    (hb : env.builtins = builtinsNs := by rfl) (hd : (x == ("__debug__" : Str)) = false := by decide) : wpAny (model prog w) A (eval (.Name x pos) env) Q E s := by
  obtain ⟨mg, mb, a, c, d⟩ := G.T
  exact Name_function_global hk hx (loadGlobal_builtin (hg ▸ a) (mg_none_of G.K a e) (hb ▸ c) ((d x hn).trans hv) h) hd
theorem nm_loc (hn : s.heap.Ns env.locals m) (hv : m x = some v) (h : Q v s) (hk : env.scope.kind = .function := by rfl) (hl : env.kindOf x = some .local := by rfl)
    (hd : (x == ("__debug__" : Str)) = false := by decide) : wpAny (model prog w) A (eval (.Name x pos) env) Q E s := wpAny_Name (wpAny_loadName_local hk hl hn hv h) hd
theorem nm_cell {c : Addr} {o : Obj} (hc : env.cells.lookup x = some c) (ho : s.heap.get? c = some o) (hdt : o.data = .cell (some v)) (h : Q v s) (hk : env.scope.kind = .function := by rfl) (hl : env.kindOf x = some .cell := by rfl)
    (hd : (x == ("__debug__" : Str)) = false := by decide) : wpAny (model prog w) A (eval (.Name x pos) env) Q E s := wpAny_Name (wpAny_loadName_cell hk hl hc ⟨o, ho, hdt⟩ h) hd

/-- entering a def without cells -/
theorem code_plain {f : Addr} {oc dV kV doc pm cdv ct : Value} {od an : Option Addr} {osl : Array (Option Value)} {name qual : Str} {params : Arguments} {body : List Stmt} {scope : Scope} {args : Args} {binds : List (Str × Value)}
    (G : Gd w s.heap) (hf : (KF w).lookup f = some ⟨oc, od, .func (fnOf name qual params body scope dV kV doc pm an cdv ct), osl⟩) (hcd : codeIn (KF w) cdv qual = true) (hroom : A.depth < recursionLimit)
    (hbind : BindsTo s (fnOf name qual params body scope dV kV doc pm an cdv ct) args binds) (hloc : ∀ x ∈ binds, scope.names.lookup x.1 = some .local)
    (h : ∀ h₁, h₁.Ns s.heap.objs.size (fun x => binds.reverse.lookup x) → (∀ b o, s.heap.get? b = some o → h₁.get? b = some o) →
      wpC b (model prog w) (A.deeper (envX qual scope s.heap.objs.size f cdv [])) (execs body (envX qual scope s.heap.objs.size f cdv []))
        (fun f s' => R (.ok (.ret (match f with | .ret v => v | _ => .none))) s') (fun _ _ => False) { s with heap := h₁, toks := s.toks + binds.length })
    (hco : scope.isCoroutine = false := by rfl) (hgen : scope.isGenerator = false := by rfl) (hk : scope.kind = .function := by rfl) (hcell : ∀ x ∈ scope.names, x.2 ≠ .cell := by decide) :
    codeC b (model prog w) A (.call (.ref f) args) R s := by
  refine codeC_call_function hroom (G.K _ _ hf) rfl hco hgen rfl (codeRec_of G.K hcd) (hbind _ _ _ _ ?_)
  refine wpAny_newFunctionEnv hcell hloc (fun h₁ hns hsb => ⟨G.lim.fresh _ hsb, ?_⟩) hk
  exact codeC_func (h h₁ hns fun b o e => hsb.extBut b o (Nat.ne_of_lt (Heap.lt_size e)) (Heap.get?_push_of_some _ e))

/-- entering a def with cells -/
theorem code_cells {f : Addr} {oc dV kV doc pm cdv ct : Value} {od an : Option Addr} {osl : Array (Option Value)} {name qual : Str} {params : Arguments} {body : List Stmt} {scope : Scope} {args : Args} {binds : List (Str × Value)}
    (G : Gd w s.heap) (hf : (KF w).lookup f = some ⟨oc, od, .func (fnOf name qual params body scope dV kV doc pm an cdv ct), osl⟩) (hcd : codeIn (KF w) cdv qual = true) (hroom : A.depth < recursionLimit)
    (hbind : BindsTo s (fnOf name qual params body scope dV kV doc pm an cdv ct) args binds)
    (hkind : ∀ x ∈ binds, scope.names.lookup x.1 = some .local ∨ (scope.names.lookup x.1 = some .cell ∧ ((cellsFrom (s.heap.objs.size + 1) scope.names []).lookup x.1).isSome = true))
    (h : ∀ h₁ tk, h₁.Ns s.heap.objs.size (bindL (fun n => scope.names.lookup n) binds fun _ => none) → (∀ n c, (cellsFrom (s.heap.objs.size + 1) scope.names []).lookup n = some c → h₁.IsCell c (bindC (fun n => scope.names.lookup n) binds (fun _ => none) n)) →
      (∀ n c, (n, c) ∈ cellsFrom (s.heap.objs.size + 1) scope.names [] → s.heap.objs.size < c) →
      (∀ b o, s.heap.get? b = some o → h₁.get? b = some o) →
      wpC b (model prog w) (A.deeper (envX qual scope s.heap.objs.size f cdv (cellsFrom (s.heap.objs.size + 1) scope.names []))) (execs body (envX qual scope s.heap.objs.size f cdv (cellsFrom (s.heap.objs.size + 1) scope.names [])))
        (fun f s' => R (.ok (.ret (match f with | .ret v => v | _ => .none))) s') (fun _ _ => False) { s with heap := h₁, toks := tk })
    (hco : scope.isCoroutine = false := by rfl) (hgen : scope.isGenerator = false := by rfl) (hk : scope.kind = .function := by rfl) :
    codeC b (model prog w) A (.call (.ref f) args) R s := by
  refine codeC_call_function hroom (G.K _ _ hf) rfl hco hgen rfl (codeRec_of G.K hcd) (hbind _ _ _ _ ?_)
  refine wpAny_newFunctionEnv_cells hk hkind ?_
  rintro env rfl s' I
  obtain ⟨⟨⟨h₁, tk, rfl⟩, hn, hkeep, _⟩, hc, hap, hab⟩ := I
  exact ⟨G.lim.keeps hkeep, codeC_func (h h₁ tk hn hc hab hkeep)⟩
end
end Mine
end

/-! part Eq -/
section
open PySem PySem.W PyProof.Rows PySem.Calls PySem.SeqAt
namespace Mine

/-- the built-in `id` declines on (a, b) and leaves all as it is -/
def Dec (A : Around) (s : Shared) (id : String) (a b : Value) : Prop := ∀ (prog : Program) (w : World) (E : Value → Shared → Prop) (Q : Value → Shared → Prop), Q .notImplemented s → wpAny (model prog w) A (call (.builtin id) [a, b]) Q E s

section
variable {A : Around} {s : Shared} {l : Addr} {items : Array Value} {v : Value} {T : String}

theorem dec_list (hl : s.heap.IsList l items) (hT : s.TypeIs v T) (hs : isSubtype (.type T) (.type "list") = pure false) : Dec A s "list.__eq__" (.ref l) v := fun prog w E Q h => by
  refine wpAny_call_entry F.slot_list_eq hl.typeIs F.entry_list_eq ?_ (F.args_list_eq_2 _ _)
  show wpAny _ _ (isInstance v (.type "list") >>= _) _ _ _
  refine wpAny_bind (wpAny_isInstance hT hs ?_)
  exact wpAny_pure ⟨_, rfl, h⟩
theorem dec_tuple (hl : s.heap.IsTuple l items) (hT : s.TypeIs v T) (hs : isSubtype (.type T) (.type "tuple") = pure false) : Dec A s "tuple.__eq__" (.ref l) v := fun prog w E Q h => by
  refine wpAny_call_entry F.slot_tuple_eq hl.typeIs F.entry_tuple_eq ?_ (F.args_tuple_eq_2 _ _)
  show wpAny _ _ (isInstance v (.type "tuple") >>= _) _ _ _
  refine wpAny_bind (wpAny_isInstance hT hs ?_)
  exact wpAny_pure ⟨_, rfl, h⟩
theorem dec_dict {o : Obj} (ho : s.heap.get? l = some o) (hc : o.cls = .type "dict") (hT : s.TypeIs v T) (hs : isSubtype (.type T) (.type "dict") = pure false) : Dec A s "dict.__eq__" (.ref l) v := fun prog w E Q h => by
  refine wpAny_call_entry F.slot_dict_eq ⟨o, ho, hc⟩ F.entry_dict_eq ?_ (F.args_dict_eq_2 _ _)
  show wpAny _ _ (isInstance v (.type "dict") >>= _) _ _ _
  refine wpAny_bind (wpAny_isInstance hT hs ?_)
  exact wpAny_bind (wpAny_rule (wpAny_pure ⟨_, rfl, h⟩))
theorem entry_set_eq : entryFor table "set.__eq__" = some Builtin.«frozenset.__eq__» :=
  entryFor_alias (id' := "frozenset.__eq__") (by rw [fastTable_eq_tree]; kernel_rfl) (by decide +kernel) (by decide +kernel) (by rw [fastTable_eq_tree]; kernel_rfl)
theorem dec_set {o : Obj} (ho : s.heap.get? l = some o) (hc : o.cls = .type "set") (hT : s.TypeIs v T) (hs : isSubtype (.type T) (.type "set") = pure false) (hf : isSubtype (.type T) (.type "frozenset") = pure false) : Dec A s "set.__eq__" (.ref l) v := fun prog w E Q h => by
  refine wpAny_call_entry F.slot_set_eq ⟨o, ho, hc⟩ entry_set_eq ?_ (F.args_set_eq_2 _ _)
  show wpAny _ _ (Builtin.Frozenset.isAnySet v >>= _) _ _ _
  unfold Builtin.Frozenset.isAnySet
  refine wpAny_bind (wpAny_bind (wpAny_isInstance hT hs (wpAny_isInstance hT hf ?_)))
  exact wpAny_bind (wpAny_rule (wpAny_pure ⟨_, rfl, h⟩))
theorem dec_object {o : Obj} (ho : s.heap.get? l = some o) (hc : o.cls = .type "object") (hk : ∀ (prog : Program) (w : World) (E : Value → Shared → Prop) (Q : Bool → Shared → Prop), Q false s → wpAny (model prog w) A.in1 (isSame (.ref l) v) Q E s) : Dec A s "object.__eq__" (.ref l) v := fun prog w E Q h => by
  refine wpAny_call_entry F.slot_object_eq ⟨o, ho, hc⟩ F.entry_object_eq ?_ (F.args_object_eq_2 _ _)
  show wpAny _ _ (isSame (.ref l) v >>= _) _ _ _
  exact wpAny_bind (hk _ _ _ _ (wpAny_pure ⟨_, rfl, h⟩))
end

/-- an object that is neither a number's nor a text's: `int.__eq__` and `str.__eq__` decline it -/
def Foreign (d : Data) : Prop := (∃ es n, d = .dict es n) ∨ (∃ es n t, d = .set es n t) ∨ d = .plain

theorem int_dec_dict (b : Int) (u : Tok) (l : Addr) (c : Value) (es : Array DictEntry) (n : Nat) (dd : Option Addr) (sl : Array (Option Value)) :
    Meets (Builtin.«int.__eq__» ⟨[.int b u, .ref l], []⟩) (fun _ R s => s.heap.get? l = some { cls := c, dict := dd, data := .dict es n, slots := sl } ∧ R (.ok (.ret .notImplemented)) s) :=
  .of_wp fun prog w A R s h => by obtain ⟨hp, g, d, tk, os⟩ := s; obtain ⟨hl, h⟩ := h; wp_walk using wpAny_loadPart' hl, wpAny_load hl; exact ⟨_, rfl, h⟩
theorem int_dec_set (b : Int) (u : Tok) (l : Addr) (c : Value) (es : Array (Int × Value)) (n : Nat) (t : SetTable) (dd : Option Addr) (sl : Array (Option Value)) :
    Meets (Builtin.«int.__eq__» ⟨[.int b u, .ref l], []⟩) (fun _ R s => s.heap.get? l = some { cls := c, dict := dd, data := .set es n t, slots := sl } ∧ R (.ok (.ret .notImplemented)) s) :=
  .of_wp fun prog w A R s h => by obtain ⟨hp, g, d, tk, os⟩ := s; obtain ⟨hl, h⟩ := h; wp_walk using wpAny_loadPart' hl, wpAny_load hl; exact ⟨_, rfl, h⟩
theorem int_dec_plain (b : Int) (u : Tok) (l : Addr) (c : Value) (dd : Option Addr) (sl : Array (Option Value)) :
    Meets (Builtin.«int.__eq__» ⟨[.int b u, .ref l], []⟩) (fun _ R s => s.heap.get? l = some { cls := c, dict := dd, data := .plain, slots := sl } ∧ R (.ok (.ret .notImplemented)) s) :=
  .of_wp fun prog w A R s h => by obtain ⟨hp, g, d, tk, os⟩ := s; obtain ⟨hl, h⟩ := h; wp_walk using wpAny_loadPart' hl, wpAny_load hl; exact ⟨_, rfl, h⟩
theorem bool_dec_dict (b : Bool) (l : Addr) (c : Value) (es : Array DictEntry) (n : Nat) (dd : Option Addr) (sl : Array (Option Value)) :
    Meets (Builtin.«int.__eq__» ⟨[.bool b, .ref l], []⟩) (fun _ R s => s.heap.get? l = some { cls := c, dict := dd, data := .dict es n, slots := sl } ∧ R (.ok (.ret .notImplemented)) s) :=
  .of_wp fun prog w A R s h => by obtain ⟨hp, g, d, tk, os⟩ := s; obtain ⟨hl, h⟩ := h; wp_walk using wpAny_loadPart' hl, wpAny_load hl; exact ⟨_, rfl, h⟩
theorem bool_dec_set (b : Bool) (l : Addr) (c : Value) (es : Array (Int × Value)) (n : Nat) (t : SetTable) (dd : Option Addr) (sl : Array (Option Value)) :
    Meets (Builtin.«int.__eq__» ⟨[.bool b, .ref l], []⟩) (fun _ R s => s.heap.get? l = some { cls := c, dict := dd, data := .set es n t, slots := sl } ∧ R (.ok (.ret .notImplemented)) s) :=
  .of_wp fun prog w A R s h => by obtain ⟨hp, g, d, tk, os⟩ := s; obtain ⟨hl, h⟩ := h; wp_walk using wpAny_loadPart' hl, wpAny_load hl; exact ⟨_, rfl, h⟩
theorem bool_dec_plain (b : Bool) (l : Addr) (c : Value) (dd : Option Addr) (sl : Array (Option Value)) :
    Meets (Builtin.«int.__eq__» ⟨[.bool b, .ref l], []⟩) (fun _ R s => s.heap.get? l = some { cls := c, dict := dd, data := .plain, slots := sl } ∧ R (.ok (.ret .notImplemented)) s) :=
  .of_wp fun prog w A R s h => by obtain ⟨hp, g, d, tk, os⟩ := s; obtain ⟨hl, h⟩ := h; wp_walk using wpAny_loadPart' hl, wpAny_load hl; exact ⟨_, rfl, h⟩
theorem str_dec_dict (b : Str) (u : Tok) (l : Addr) (c : Value) (es : Array DictEntry) (n : Nat) (dd : Option Addr) (sl : Array (Option Value)) :
    Meets (Builtin.«str.__eq__» ⟨[.str b u, .ref l], []⟩) (fun _ R s => s.heap.get? l = some { cls := c, dict := dd, data := .dict es n, slots := sl } ∧ R (.ok (.ret .notImplemented)) s) :=
  .of_wp fun prog w A R s h => by obtain ⟨hp, g, d, tk, os⟩ := s; obtain ⟨hl, h⟩ := h; wp_walk using wpAny_loadPart' hl, wpAny_load hl; exact ⟨_, rfl, h⟩
theorem str_dec_set (b : Str) (u : Tok) (l : Addr) (c : Value) (es : Array (Int × Value)) (n : Nat) (t : SetTable) (dd : Option Addr) (sl : Array (Option Value)) :
    Meets (Builtin.«str.__eq__» ⟨[.str b u, .ref l], []⟩) (fun _ R s => s.heap.get? l = some { cls := c, dict := dd, data := .set es n t, slots := sl } ∧ R (.ok (.ret .notImplemented)) s) :=
  .of_wp fun prog w A R s h => by obtain ⟨hp, g, d, tk, os⟩ := s; obtain ⟨hl, h⟩ := h; wp_walk using wpAny_loadPart' hl, wpAny_load hl; exact ⟨_, rfl, h⟩
theorem str_dec_plain (b : Str) (u : Tok) (l : Addr) (c : Value) (dd : Option Addr) (sl : Array (Option Value)) :
    Meets (Builtin.«str.__eq__» ⟨[.str b u, .ref l], []⟩) (fun _ R s => s.heap.get? l = some { cls := c, dict := dd, data := .plain, slots := sl } ∧ R (.ok (.ret .notImplemented)) s) :=
  .of_wp fun prog w A R s h => by obtain ⟨hp, g, d, tk, os⟩ := s; obtain ⟨hl, h⟩ := h; wp_walk using wpAny_loadPart' hl, wpAny_load hl; exact ⟨_, rfl, h⟩
section
variable {A : Around} {s : Shared} {l : Addr} {o : Obj}
theorem dec_int (b : Int) (u : Tok) (ho : s.heap.get? l = some o) (hf : Foreign o.data) : Dec A s "int.__eq__" (.int b u) (.ref l) := fun prog w E Q h => by
  obtain ⟨c, dd, dt, sl⟩ := o
  rcases hf with ⟨es, n, rfl⟩ | ⟨es, n, t, rfl⟩ | rfl
  · exact call_meets F.slot_int_eq (typeIs_int s b u) F.entry_int_eq (F.args_int_eq_2 _ _) (int_dec_dict b u l c es n dd sl) ⟨ho, h⟩
  · exact call_meets F.slot_int_eq (typeIs_int s b u) F.entry_int_eq (F.args_int_eq_2 _ _) (int_dec_set b u l c es n t dd sl) ⟨ho, h⟩
  · exact call_meets F.slot_int_eq (typeIs_int s b u) F.entry_int_eq (F.args_int_eq_2 _ _) (int_dec_plain b u l c dd sl) ⟨ho, h⟩
theorem dec_bool (b : Bool) (ho : s.heap.get? l = some o) (hf : Foreign o.data) : Dec A s "int.__eq__" (.bool b) (.ref l) := fun prog w E Q h => by
  obtain ⟨c, dd, dt, sl⟩ := o
  rcases hf with ⟨es, n, rfl⟩ | ⟨es, n, t, rfl⟩ | rfl
  · exact call_meets F.slot_bool_eq rfl F.entry_int_eq (F.args_int_eq_2 _ _) (bool_dec_dict b l c es n dd sl) ⟨ho, h⟩
  · exact call_meets F.slot_bool_eq rfl F.entry_int_eq (F.args_int_eq_2 _ _) (bool_dec_set b l c es n t dd sl) ⟨ho, h⟩
  · exact call_meets F.slot_bool_eq rfl F.entry_int_eq (F.args_int_eq_2 _ _) (bool_dec_plain b l c dd sl) ⟨ho, h⟩
theorem dec_str (b : Str) (u : Tok) (ho : s.heap.get? l = some o) (hf : Foreign o.data) : Dec A s "str.__eq__" (.str b u) (.ref l) := fun prog w E Q h => by
  obtain ⟨c, dd, dt, sl⟩ := o
  rcases hf with ⟨es, n, rfl⟩ | ⟨es, n, t, rfl⟩ | rfl
  · exact call_meets F.slot_str_eq (typeIs_str s b u) F.entry_str_eq (F.args_str_eq_2 _ _) (str_dec_dict b u l c es n dd sl) ⟨ho, h⟩
  · exact call_meets F.slot_str_eq (typeIs_str s b u) F.entry_str_eq (F.args_str_eq_2 _ _) (str_dec_set b u l c es n t dd sl) ⟨ho, h⟩
  · exact call_meets F.slot_str_eq (typeIs_str s b u) F.entry_str_eq (F.args_str_eq_2 _ _) (str_dec_plain b u l c dd sl) ⟨ho, h⟩
end
end Mine
end

/-! part Kd -/
section
open PySem PySem.W PyProof.Rows PySem.Calls PySem.SeqAt
namespace Mine

def bi (b : Bool) : Int := if b then 1 else 0

section
variable {A : Around} {E : Value → Shared → Prop} {s : Shared} {prog : Program} {w : World}
theorem pyHash_bool {b : Bool} {Q : Int → Shared → Prop} (h : Q (hashInt (bi b)) { s with toks := s.toks + 1 }) : wpAny (model prog w) A (pyHash (.bool b)) Q E s := by
  have hT : s.TypeIs (.bool b) "bool" := rfl
  unfold pyHash
  show wpAny _ _ (pyHashByItsType (.bool b)) Q E s
  unfold pyHashByItsType
  refine wpAny_bind (m := cRoomFor "hash" [.bool b]) (wpAny_cRoomFor_byValue rfl ?_)
  refine wpAny_bind (wpAny_specialOf hT F.slot_bool_hash.lookup ?_)
  show wpAny _ _ (if (some (Value.builtin "int.__hash__") == some Value.none) = true then _ else _) Q E s
  rw [if_neg (by rw [beq_builtin_none]; exact Bool.false_ne_true)]
  refine wpAny_bind (wpAny_specialOf hT F.slot_bool_hash.lookup ?_)
  show wpAny _ _ (callSpecialIfBoundUnlessNone? (.bool b) "__hash__" _ >>= _) Q E s
  refine wpAny_bind (wpAny_callSpecialIfBoundUnlessNone?_slot hT F.slot_bool_hash
    (wpAny_call_entry F.slot_bool_hash hT F.entry_int_hash
      (show wpAny _ _ (do ret (← mkInt (rawHash (bi b)))) _ _ s from wpAny_ret_mkInt ?_) (F.args_int_hash_1 _)))
  cases b <;> exact wpAny_pure h

theorem eqBool_num {u v : Value} {a b : Int} {Q : Bool → Shared → Prop} (hu : (match u with | .int i _ => i == a | .bool c => bi c == a | _ => false) = true) (hv : (match v with | .int i _ => i == b | .bool c => bi c == b | _ => false) = true)
    (h : Q (decide (a = b)) s) : wpAny (model prog w) A (eqBool u v) Q E s := by
  have e : ∀ {x y : Int} {k : Bool}, k = (x == y) → x = a → y = b → k = decide (a = b) := by
    rintro x y k rfl rfl rfl
    by_cases q : x = y <;> simp [q]
  cases u with
  | bool x =>
    cases v with
    | bool y =>
      refine EqAt.bool_bool (A := A) (s := s) x y prog w E Q ?_
      rw [e (k := x == y) (x := bi x) (y := bi y) (by cases x <;> cases y <;> rfl) (eq_of_beq hu) (eq_of_beq hv)]; exact h
    | int y t =>
      refine EqAt.bool_int (A := A) (s := s) x y t prog w E Q ?_
      rw [e (k := (if x = true then (1 : Int) else 0) == y) (x := bi x) (y := y) rfl (eq_of_beq hu) (eq_of_beq hv)]; exact h
    | _ => cases hv
  | int x t =>
    cases v with
    | bool y =>
      refine EqAt.int_bool (A := A) (s := s) x t y prog w E Q ?_
      rw [e (k := x == (if y = true then (1 : Int) else 0)) (x := x) (y := bi y) rfl (eq_of_beq hu) (eq_of_beq hv)]; exact h
    | int y t' =>
      refine EqAt.int_int (A := A) (s := s) x t y t' prog w E Q ?_
      rw [e (k := x == y) (x := x) (y := y) rfl (eq_of_beq hu) (eq_of_beq hv)]; exact h
    | _ => cases hv
  | _ => cases hu
end

/-- keys that are ints or bools, by their number -/
def numKind (prog : Program) (w : World) : KeyKind prog w Int where
  is := fun k v => match v with | .int i _ => i == k | .bool c => bi c == k | _ => false
  hash := hashInt
  inj := fun v a b ha hb => by
    cases v <;> simp only [Bool.false_eq_true] at ha hb
    · rw [← eq_of_beq ha, ← eq_of_beq hb]
    · rw [← eq_of_beq ha, ← eq_of_beq hb]
  byValue := fun k v h => by cases v <;> simp only [Bool.false_eq_true] at h <;> rfl
  pyHash := fun {A E s k v Q} hv h => by
    cases v <;> simp only [Bool.false_eq_true] at hv
    · exact pyHash_bool (by rw [eq_of_beq hv]; exact h)
    · rw [eq_of_beq hv] ; exact wpAny_pyHash_int h
  eqBool := fun hu hv h => eqBool_num hu hv h
  «strs» := fun k x t v h => by simp at h

/-- keys that are bools alone -/
def boolKind (prog : Program) (w : World) : KeyKind prog w Bool where
  is := fun k v => match v with | .bool c => c == k | _ => false
  hash := fun k => hashInt (bi k)
  inj := fun v a b ha hb => by
    cases v <;> simp only [Bool.false_eq_true] at ha hb
    rw [← eq_of_beq ha, ← eq_of_beq hb]
  byValue := fun k v h => by cases v <;> simp only [Bool.false_eq_true] at h <;> rfl
  pyHash := fun {A E s k v Q} hv h => by
    cases v <;> simp only [Bool.false_eq_true] at hv
    rw [eq_of_beq hv]; exact pyHash_bool h
  eqBool := fun {A E s a b u v Q} hu hv h => by
    cases u <;> simp only [Bool.false_eq_true] at hu <;> cases v <;> simp only [Bool.false_eq_true] at hv
    rename_i x y
    have hu := eq_of_beq hu; have hv := eq_of_beq hv
    subst hu hv
    refine EqAt.bool_bool x y _ _ _ _ ?_
    have : (x == y) = decide (x = y) := by by_cases q : x = y <;> simp [q]
    rw [this]; exact h
  «strs» := fun k x t v h => by simp at h

theorem isInt_num {k : Int} {v : Value} {prog : Program} {w : World} (h : (intKind prog w).is k v = true) : (numKind prog w).is k v = true := by
  obtain ⟨t, rfl⟩ := Value.isInt_shape h
  show (k == k) = true
  simp
theorem isBool_num {k : Bool} {v : Value} {prog : Program} {w : World} (h : (boolKind prog w).is k v = true) : (numKind prog w).is (bi k) v = true := by
  cases v <;> simp only [boolKind, Bool.false_eq_true] at h
  rw [eq_of_beq h]
  show (bi k == bi k) = true
  simp

theorem dictOf_int_num {prog : Program} {w : World} {h : Heap} {a : Addr} {kvs : List (Int × Value)} (d : h.DictOf (intKind prog w) a kvs) : h.DictOf (numKind prog w) a kvs := by
  obtain ⟨o, es, ep, ho, hx, hd, hk, hp, hn⟩ := d
  refine ⟨o, es, ep, ho, hx, hd, fun e he => let ⟨k, h1, h2⟩ := hk e he; ⟨k, isInt_num h1, h2⟩, ?_, hn⟩
  clear hn hd hk
  generalize es.toList = l at hp
  induction hp with
  | nil => exact .nil
  | cons a b _ ih => exact .cons (isInt_num a) b ih
theorem dictOf_bool_num {prog : Program} {w : World} {h : Heap} {a : Addr} {kvs : List (Bool × Value)} (d : h.DictOf (boolKind prog w) a kvs) : h.DictOf (numKind prog w) a (kvs.map fun p => (bi p.1, p.2)) := by
  obtain ⟨o, es, ep, ho, hx, hd, hk, hp, hn⟩ := d
  refine ⟨o, es, ep, ho, hx, hd, fun e he => let ⟨k, h1, h2⟩ := hk e he; ⟨bi k, isBool_num h1, h2⟩, ?_, ?_⟩
  · clear hn hd hk
    generalize es.toList = l at hp
    induction hp with
    | nil => exact .nil
    | cons a b _ ih => exact .cons (isBool_num a) b ih
  · rw [List.map_map]
    have : (kvs.map ((fun x => x.1) ∘ fun p => (bi p.1, p.2))) = (kvs.map (·.1)).map bi := by rw [List.map_map]; rfl
    rw [this]
    refine List.Pairwise.map bi ?_ hn
    intro a b hab e
    cases a <;> cases b <;> simp_all [bi]
end Mine
end

/-! part Es -/
section
open PySem PySem.W PyProof.Rows PySem.Calls PySem.SeqAt
namespace Mine
section
variable {A : Around} {E : Value → Shared → Prop} {s : Shared} {prog : Program} {w : World}

/-- one number in a set: the set's own entries -/
structure OneSet (h : Heap) (a : Addr) (v : Value) : Prop where
  ob : ∃ o ep t, h.get? a = some o ∧ o.ExactSet ∧ o.data = .set #[(1, v)] ep t ∧ t.fits 1 = true
  num : (∃ t, v = .int 1 t) ∨ v = .bool true

theorem OneSet.keeps {h h' : Heap} {a : Addr} {v : Value} (x : OneSet h a v) (k : ∀ b o, h.get? b = some o → h'.get? b = some o) : OneSet h' a v :=
  ⟨let ⟨o, ep, t, ho, r⟩ := x.ob; ⟨o, ep, t, k _ _ ho, r⟩, x.num⟩
theorem OneSet.is {h : Heap} {a : Addr} {v : Value} (x : OneSet h a v) : (numKind prog w).is 1 v = true := by
  rcases x.num with ⟨t, rfl⟩ | rfl <;> rfl
theorem OneSet.scan {h : Heap} {a : Addr} {v : Value} (x : OneSet h a v) : v.scannable = true := by
  rcases x.num with ⟨t, rfl⟩ | rfl <;> rfl
theorem hash_one : (1 : Int) = hashInt 1 := by decide +kernel
theorem OneSet.setOf {h : Heap} {a : Addr} {v : Value} (x : OneSet h a v) : h.SetOf (numKind prog w) a (fun k => decide (k = 1)) 1 := by
  obtain ⟨o, ep, t, ho, hx, hd, hf⟩ := x.ob
  refine ⟨o, #[(1, v)], ep, t, ho, hx, hd, fun e he => ?_, fun k => ?_, (by show (1 : Nat) < 4096; decide), hf, rfl⟩
  · simp only [List.mem_singleton] at he
    subst he
    exact ⟨⟨1, x.is, hash_one⟩, x.scan⟩
  · simp only [decide_eq_true_eq, List.mem_singleton, exists_eq_left]
    constructor
    · rintro rfl; exact x.is
    · intro e; exact (numKind prog w).inj v k 1 e x.is
theorem OneSet.typeIs {a : Addr} {v : Value} (x : OneSet s.heap a v) : s.TypeIs (.ref a) "set" := let ⟨o, _, _, ho, hx, _⟩ := x.ob; ⟨o, ho, hx.1⟩

theorem quiet_num {v : Value} {Q : Bool → Shared → Prop} (hv : (∃ t, v = .int 1 t) ∨ v = .bool true) (h : Q true s) : wpAny (model prog w) A (Builtin.Frozenset.quietEq v) Q E s := by
  rcases hv with ⟨t, rfl⟩ | rfl <;> exact wpAny_pure h

theorem sub_set_frozenset : isSubtype (.type "set") (.type "frozenset") = pure false := by rw [isSubtype_type]; kernel_rfl

theorem rc_sets {a b : Addr} {v u : Value} {Q : Value → Shared → Prop} (xa : OneSet s.heap a v) (xb : OneSet s.heap b u) (hu : A.units < cLine) (h : Q (.bool true) s) :
    wpAny (model prog w) A (richCompare .Eq (.ref a) (.ref b)) Q E s := by
  refine wpAny_richCompare_same_room (op := .Eq) xa.typeIs xb.typeIs F.slot_set_eq (wpAny_call_entry F.slot_set_eq xa.typeIs entry_set_eq ?_ (F.args_set_eq_2 _ _)) hu
  have hb : (1 : Int) = (numKind prog w).hash 1 := hash_one
  obtain ⟨oa, epa, ta, hoa, hxa, hda, hfa⟩ := xa.ob
  obtain ⟨ob, epb, tb, hob, hxb, hdb, hfb⟩ := xb.ob
  show wpAny _ _ (Builtin.Frozenset.isAnySet (.ref b) >>= _) _ _ _
  unfold Builtin.Frozenset.isAnySet
  refine wpAny_bind (wpAny_bind (wpAny_isInstance xb.typeIs F.sub_set_set (wpAny_pure ?_)))
  show wpAny _ _ (Builtin.Frozenset.sizeOf a >>= _) _ _ _
  unfold Builtin.Frozenset.sizeOf
  refine wpAny_bind (wpAny_bind (wpAny_setEntries_of hoa hda hfa (wpAny_pure ?_)))
  refine wpAny_bind (wpAny_bind (wpAny_setEntries_of hob hdb hfb (wpAny_pure ?_)))
  dsimp only
  refine wpAny_bind ?_
  rw [if_neg (show ¬ ((#[((1 : Int), v)].size != #[((1 : Int), u)].size) = true) by simp)]
  refine wpAny_bind (wpAny_bind (wpAny_isInstance xa.typeIs sub_set_frozenset (wpAny_pure ?_)))
  rw [if_neg Bool.false_ne_true]
  unfold Builtin.Frozenset.subsetOf Builtin.Frozenset.sizeOf
  refine wpAny_bind (wpAny_bind (wpAny_setEntries_of hoa hda hfa (wpAny_pure ?_)))
  refine wpAny_bind (wpAny_bind (wpAny_setEntries_of hob hdb hfb (wpAny_pure ?_)))
  rw [if_neg (show ¬ (#[((1 : Int), v)].size > #[((1 : Int), u)].size) by simp)]
  refine wpAny_bind (wpAny_setEpoch_of hoa hda hfa ?_)
  refine wpAny_bind ?_
  unfold Builtin.Frozenset.walkUnseen
  refine wpAny_bind (wpAny_setEntries_of hoa hda hfa ?_)
  refine wpAny_bind (wpAny_setEntries_of hob hdb hfb ?_)
  refine wpAny_bind ?_
  show wpAny _ _ (forIn [((1 : Int), v), ((1 : Int), u)] _ _) _ _ _
  rw [List.forIn_cons]
  refine wpAny_bind (wpAny_bind (quiet_num xa.num ?_))
  refine wpAny_pure ?_
  dsimp only
  rw [List.forIn_cons]
  refine wpAny_bind (wpAny_bind (quiet_num xb.num ?_))
  refine wpAny_pure ?_
  dsimp only
  rw [List.forIn_nil]
  refine wpAny_pure (wpAny_pure ?_)
  refine wpAny_bind ?_
  show wpAny _ _ (forIn [((1 : Int), v)] _ _) _ _ _
  rw [List.forIn_cons]
  refine wpAny_bind (wpAny_bind (wpAny_holding ?_))
  have key := fun Q' => wpAny_setFind_of (Q := Q') (A := A.in1) (E := E) (s := s) (prog := prog) (w := w) (knd := numKind prog w) (k := 1) xa.is xa.scan (xb.setOf (prog := prog) (w := w))
  rw [← hb] at key
  refine key _ (fun r hr => ?_)
  have hr' : r.isNone = false := by
    cases r with
    | none => simp at hr
    | some _ => rfl
  rw [hr', if_neg Bool.false_ne_true]
  refine wpAny_bind ?_
  unfold Builtin.Frozenset.unchanged
  refine wpAny_bind (wpAny_setEpoch_of hoa hda hfa ?_)
  rw [if_neg (show ¬ ((epa != epa) = true) by simp)]
  refine wpAny_pure (wpAny_pure ?_)
  dsimp only
  rw [List.forIn_nil]
  exact wpAny_pure (wpAny_pure (wpAny_pure ⟨_, rfl, (fun e => nomatch e), h⟩))
end
end Mine
end

/-! part Th -/
section
open PySem PySem.W PyProof.Rows PySem.Calls PySem.SeqAt
namespace Mine

def pdOf : Nat → Nat → Option PyData
  | 0, 0 => some (.int 0)
  | 0, 1 => some (.bool false)
  | 1, 0 => some (.int 1)
  | 1, 1 => some (.bool true)
  | 2, 0 => some (.tuple [.int 0, .int 1])
  | 2, 1 => some (.tuple [.bool false, .bool true])
  | 3, 0 => some (.str "0")
  | 3, 1 => some (.str "0")
  | 4, 0 => some (.list [.int 0])
  | 4, 1 => some (.list [.bool false])
  | 6, 0 => some (.list [.tuple [.int 0], .list []])
  | 6, 1 => some (.list [.tuple [.bool false], .list []])
  | _, _ => none

/-- in `h`, `v` is the thing of kind `k` with face `f` -/
inductive Thing (w : World) (h : Heap) : Nat → Nat → Value → Prop
  | pd {k f : Nat} {v : Value} {d : PyData} {as : List Addr} : pdOf k f = some d → Reads h v d as → Thing w h k f v
  | dict0 {a : Addr} {t u : Tok} : (a == sysModules) = false → h.DictOf (intKind prog w) a [(0, .str "a" t), (1, .str "b" u)] → Thing w h 5 0 (.ref a)
  | dict1 {a : Addr} {t u : Tok} : (a == sysModules) = false → h.DictOf (boolKind prog w) a [(true, .str "b" t), (false, .str "a" u)] → Thing w h 5 1 (.ref a)
  | set0 {a : Addr} {t : Tok} : OneSet h a (.int 1 t) → Thing w h 7 0 (.ref a)
  | set1 {a : Addr} : OneSet h a (.bool true) → Thing w h 7 1 (.ref a)

theorem Thing.keeps {w : World} {h h' : Heap} {k f : Nat} {v : Value} (x : Thing w h k f v) (hk : ∀ b o, h.get? b = some o → h'.get? b = some o) : Thing w h' k f v := by
  cases x with
  | pd a r => exact .pd a (Reads.keeps hk r)
  | dict0 a d => exact .dict0 a (d.keep hk)
  | dict1 a d => exact .dict1 a (d.keep hk)
  | set0 d => exact .set0 (d.keeps hk)
  | set1 d => exact .set1 (d.keeps hk)

theorem pdOf_kind {k f : Nat} {d : PyData} (h : pdOf k f = some d) : k ≠ 5 ∧ k ≠ 7 ∧ f < 2 ∧ k < 8 := by
  unfold pdOf at h
  split at h <;> simp_all

/-- what equality asks of a value: its type, its slot -/
structure Side (s : Shared) (v : Value) (T id : String) : Prop where
  ty : s.TypeIs v T
  s1 : Slot T (cmpInfo .Eq).2.1 id
  s2 : Slot T (cmpInfo .Eq).2.2 id

section
variable {A : Around} {E : Value → Shared → Prop} {s : Shared} {w : World}

theorem rc_apart {v u : Value} {T T' id id' : String} {Q : Value → Shared → Prop} (x : Side s v T id) (y : Side s u T' id') (hne : (Value.type T != Value.type T') = true) (hsub : isSubtype (.type T') (.type T) = pure false)
    (d1 : Dec A s id v u) (d2 : Dec A s id' u v) (hk : ∀ (Q' : Bool → Shared → Prop), Q' false s → wpAny (model prog w) A (isSame v u) Q' E s) (hu : A.units < cLine) (h : Q (.bool false) s) :
    wpAny (model prog w) A (richCompare .Eq v u) Q E s :=
  rc_eq_decline_or (k := false) x.ty y.ty hne hsub x.s1 y.s2 (fun Q' hq => d1 _ _ _ Q' hq) (fun Q' hq => d2 _ _ _ Q' hq) hk (.inr hu) h

/-- a value of plain data against a dict, a set or a bare object -/
structure PdSide (A : Around) (s : Shared) (v : Value) (T id : String) : Prop where
  side : Side s v T id
  dec : ∀ l o T', s.heap.get? l = some o → o.cls = .type T' → Foreign o.data → (T' = "dict" ∨ T' = "set" ∨ T' = "object") → Dec A s id v (.ref l)
  off : T ≠ "dict" ∧ T ≠ "set" ∧ T ≠ "object"
  sub : isSubtype (.type T) (.type "dict") = pure false ∧ isSubtype (.type T) (.type "set") = pure false ∧ isSubtype (.type T) (.type "frozenset") = pure false
  sub' : isSubtype (.type "dict") (.type T) = pure false ∧ isSubtype (.type "set") (.type T) = pure false ∧ isSubtype (.type "object") (.type T) = pure false
  same : ∀ l o, s.heap.get? l = some o → Foreign o.data → o.cls ≠ .type "tuple" → ∀ (p : Program) (w : World) (B : Around) (E : Value → Shared → Prop) (Q' : Bool → Shared → Prop), Q' false s → wpAny (model p w) B (isSame v (.ref l)) Q' E s ∧ wpAny (model p w) B (isSame (.ref l) v) Q' E s

theorem sub_false (a b : String) (h : isSubtype (.type a) (.type b) = pure false) : isSubtype (.type a) (.type b) = pure false := h
theorem sub_int_frozenset : isSubtype (.type "int") (.type "frozenset") = pure false := by rw [isSubtype_type]; kernel_rfl
theorem sub_bool_frozenset : isSubtype (.type "bool") (.type "frozenset") = pure false := by rw [isSubtype_type]; kernel_rfl
theorem sub_str_frozenset : isSubtype (.type "str") (.type "frozenset") = pure false := by rw [isSubtype_type]; kernel_rfl
theorem sub_list_frozenset : isSubtype (.type "list") (.type "frozenset") = pure false := by rw [isSubtype_type]; kernel_rfl
theorem sub_tuple_frozenset : isSubtype (.type "tuple") (.type "frozenset") = pure false := by rw [isSubtype_type]; kernel_rfl
theorem sub_dict_frozenset : isSubtype (.type "dict") (.type "frozenset") = pure false := by rw [isSubtype_type]; kernel_rfl
theorem sub_object_frozenset : isSubtype (.type "object") (.type "frozenset") = pure false := by rw [isSubtype_type]; kernel_rfl

theorem off_seq {l l' : Addr} {o o' : Obj} {xs n} (h : s.heap.get? l = some o) (hd : o.data = .seq xs n) (h' : s.heap.get? l' = some o') (hf : Foreign o'.data) : l ≠ l' := by
  rintro rfl
  rw [h] at h'; cases h'
  rw [hd] at hf
  rcases hf with ⟨_, _, e⟩ | ⟨_, _, _, e⟩ | e <;> cases e

theorem pd_int (i : Int) (t : Tok) : PdSide A s (.int i t) "int" "int.__eq__" where
  side := ⟨typeIs_int s i t, F.slot_int_eq, F.slot_int_eq_refl⟩
  dec := fun l o T' ho _ hf _ => dec_int i t ho hf
  off := by decide
  sub := ⟨F.sub_int_dict, F.sub_int_set, sub_int_frozenset⟩
  sub' := ⟨F.sub_dict_int, F.sub_set_int, F.sub_object_int⟩
  same := fun l o ho hf _ p w B E Q' h => ⟨wpAny_of_eq (rfl : isSame (.int i t) (.ref l) = pure false) h, wpAny_of_eq (rfl : isSame (.ref l) (.int i t) = pure false) h⟩
theorem pd_bool (b : Bool) : PdSide A s (.bool b) "bool" "int.__eq__" where
  side := ⟨rfl, F.slot_bool_eq, F.slot_bool_eq_refl⟩
  dec := fun l o T' ho _ hf _ => dec_bool b ho hf
  off := by decide
  sub := ⟨F.sub_bool_dict, F.sub_bool_set, sub_bool_frozenset⟩
  sub' := ⟨F.sub_dict_bool, F.sub_set_bool, F.sub_object_bool⟩
  same := fun l o ho hf _ p w B E Q' h => ⟨wpAny_of_eq (rfl : isSame (.bool b) (.ref l) = pure false) h, wpAny_of_eq (rfl : isSame (.ref l) (.bool b) = pure false) h⟩
theorem pd_str (x : Str) (t : Tok) : PdSide A s (.str x t) "str" "str.__eq__" where
  side := ⟨typeIs_str s x t, F.slot_str_eq, F.slot_str_eq_refl⟩
  dec := fun l o T' ho _ hf _ => dec_str x t ho hf
  off := by decide
  sub := ⟨F.sub_str_dict, F.sub_str_set, sub_str_frozenset⟩
  sub' := ⟨F.sub_dict_str, F.sub_set_str, F.sub_object_str⟩
  same := fun l o ho hf _ p w B E Q' h => ⟨wpAny_of_eq (rfl : isSame (.str x t) (.ref l) = pure false) h, wpAny_of_eq (rfl : isSame (.ref l) (.str x t) = pure false) h⟩
theorem pd_list {a : Addr} {items : Array Value} (ha : s.heap.IsList a items) : PdSide A s (.ref a) "list" "list.__eq__" where
  side := ⟨ha.typeIs, F.slot_list_eq, F.slot_list_eq_refl⟩
  dec := fun l o T' ho hc hf hT => dec_list ha ⟨o, ho, hc⟩ (by rcases hT with rfl | rfl | rfl <;> first | exact F.sub_dict_list | exact F.sub_set_list | exact F.sub_object_list)
  off := by decide
  sub := ⟨F.sub_list_dict, F.sub_list_set, sub_list_frozenset⟩
  sub' := ⟨F.sub_dict_list, F.sub_set_list, F.sub_object_list⟩
  same := fun l o ho hf hc p w B E Q' h => by
    obtain ⟨oa, hoa, hca, n, hda⟩ := ha
    have hne := off_seq hoa hda ho hf
    exact ⟨wpAny_isSame_ref_other' hne hoa ho hc h, wpAny_isSame_ref_other' hne.symm ho hoa (by rw [hca]; decide) h⟩
theorem pd_tuple {a : Addr} {items : Array Value} (ha : s.heap.IsTuple a items) : PdSide A s (.ref a) "tuple" "tuple.__eq__" where
  side := ⟨ha.typeIs, F.slot_tuple_eq, F.slot_tuple_eq_refl⟩
  dec := fun l o T' ho hc hf hT => dec_tuple ha ⟨o, ho, hc⟩ (by rcases hT with rfl | rfl | rfl <;> first | exact F.sub_dict_tuple | exact F.sub_set_tuple | exact F.sub_object_tuple)
  off := by decide
  sub := ⟨F.sub_tuple_dict, F.sub_tuple_set, sub_tuple_frozenset⟩
  sub' := ⟨F.sub_dict_tuple, F.sub_set_tuple, F.sub_object_tuple⟩
  same := fun l o ho hf hc p w B E Q' h => by
    obtain ⟨oa, hoa, hca, n, hda⟩ := ha
    have hne := off_seq hoa hda ho hf
    exact ⟨wpAny_isSame_ref_other' hne hoa ho hc h, wpAny_isSame_ref_other hne.symm ho hoa hc h⟩

theorem pdSide_of {k f : Nat} {v : Value} {d : PyData} {as : List Addr} (h : pdOf k f = some d) (r : Reads s.heap v d as) : ∃ T id, PdSide A s v T id := by
  unfold pdOf at h
  split at h <;> cases h
  all_goals
    cases r <;> first
      | exact ⟨_, _, pd_int _ _⟩
      | exact ⟨_, _, pd_bool _⟩
      | exact ⟨_, _, pd_str _ _⟩
      | (rename_i ho hc hd _; exact ⟨_, _, pd_list ⟨_, ho, hc, _, hd⟩⟩)
      | (rename_i ho hc hd _; exact ⟨_, _, pd_tuple ⟨_, ho, hc, _, hd⟩⟩)
      | skip
end
end Mine
end

/-! part Te -/
section
open PySem PySem.W PyProof.Rows PySem.Calls PySem.SeqAt
namespace Mine

def pdList : List (Nat × Nat × PyData) := [(0, 0, .int 0), (0, 1, .bool false), (1, 0, .int 1), (1, 1, .bool true), (2, 0, .tuple [.int 0, .int 1]), (2, 1, .tuple [.bool false, .bool true]), (3, 0, .str "0"), (3, 1, .str "0"),
  (4, 0, .list [.int 0]), (4, 1, .list [.bool false]), (6, 0, .list [.tuple [.int 0], .list []]), (6, 1, .list [.tuple [.bool false], .list []])]
theorem pdOf_mem {k f : Nat} {d : PyData} (h : pdOf k f = some d) : (k, f, d) ∈ pdList := by
  unfold pdOf at h
  split at h <;> cases h <;> simp [pdList]
theorem pd_eqv : ∀ x ∈ pdList, ∀ y ∈ pdList, PyData.eqv x.2.2 y.2.2 = (x.1 == y.1) := by decide +kernel
theorem pd_shaped : ∀ x ∈ pdList, shaped x.2.2 = true := by decide +kernel

section
variable {A : Around} {E : Value → Shared → Prop} {s : Shared} {w : World}

theorem dict_hits {B : Around} {t u t' u' : Tok} : KeqHits B s [((0 : Int), Value.str "a" t'), (1, .str "b" u')] [(0, .str "a" t), (1, .str "b" u)] true ∧ KeqHits B s [((1 : Int), Value.str "b" t'), (0, .str "a" u')] [(0, .str "a" t), (1, .str "b" u)] true ∧
    KeqHits B s [((0 : Int), Value.str "a" t'), (1, .str "b" u')] [(1, .str "b" t), (0, .str "a" u)] true ∧ KeqHits B s [((1 : Int), Value.str "b" t'), (0, .str "a" u')] [(1, .str "b" t), (0, .str "a" u)] true := by
  have ea : ∀ (t u : Tok), EqAt B s (.str "a" t) (.str "a" u) true := fun t u => by have := EqAt.str_str (A := B) (s := s) "a" t "a" u; simpa using this
  have eb : ∀ (t u : Tok), EqAt B s (.str "b" t) (.str "b" u) true := fun t u => by have := EqAt.str_str (A := B) (s := s) "b" t "b" u; simpa using this
  refine ⟨?_, ?_, ?_, ?_⟩
  · exact .hit (e := true) (b := true && true) rfl (ea _ _) (.hit rfl (eb _ _) .nil)
  · exact .hit (e := true) (b := true && true) rfl (ea _ _) (.hit rfl (eb _ _) .nil)
  · exact .hit (e := true) (b := true && true) rfl (eb _ _) (.hit rfl (ea _ _) .nil)
  · exact .hit (e := true) (b := true && true) rfl (eb _ _) (.hit rfl (ea _ _) .nil)

/-- a dict thing -/
structure DictSide (A : Around) (s : Shared) (v : Value) : Prop where
  lies : ∃ l o, v = .ref l ∧ s.heap.get? l = some o ∧ o.cls = .type "dict" ∧ Foreign o.data ∧ Side s v "dict" "dict.__eq__"
structure SetSide (A : Around) (s : Shared) (v : Value) : Prop where
  lies : ∃ l o, v = .ref l ∧ s.heap.get? l = some o ∧ o.cls = .type "set" ∧ Foreign o.data ∧ Side s v "set" "set.__eq__"

theorem dictSide {K : Type} [DecidableEq K] {knd : KeyKind prog w K} {a : Addr} {kvs : List (K × Value)} (d : s.heap.DictOf knd a kvs) : DictSide A s (.ref a) := by
  obtain ⟨o, es, ep, ho, hx, hd, _⟩ := id d
  exact ⟨a, o, rfl, ho, hx.1, .inl ⟨es, ep, hd⟩, ⟨⟨o, ho, hx.1⟩, F.slot_dict_eq, F.slot_dict_eq_refl⟩⟩
theorem setSide {a : Addr} {v : Value} (d : OneSet s.heap a v) : SetSide A s (.ref a) := by
  obtain ⟨o, ep, t, ho, hx, hd, _⟩ := d.ob
  exact ⟨a, o, rfl, ho, hx.1, .inr (.inl ⟨_, ep, t, hd⟩), ⟨⟨o, ho, hx.1⟩, F.slot_set_eq, F.slot_set_eq_refl⟩⟩

/-- a thing is of one of three sorts -/
theorem Thing.sort {k f : Nat} {v : Value} (x : Thing w s.heap k f v) : (∃ d as, (k, f, d) ∈ pdList ∧ Reads s.heap v d as ∧ (∃ T id, PdSide A s v T id) ∧ k ≠ 5 ∧ k ≠ 7) ∨
    (k = 5 ∧ DictSide A s v ∧ ∃ a t u, v = .ref a ∧ (a == sysModules) = false ∧ (s.heap.DictOf (numKind prog w) a [(0, .str "a" t), (1, .str "b" u)] ∨ s.heap.DictOf (numKind prog w) a [(1, .str "b" t), (0, .str "a" u)])) ∨
    (k = 7 ∧ SetSide A s v ∧ ∃ a u, v = .ref a ∧ OneSet s.heap a u) := by
  cases x with
  | pd a r => exact .inl ⟨_, _, pdOf_mem a, r, pdSide_of a r, (pdOf_kind a).1, (pdOf_kind a).2.1⟩
  | dict0 a d => exact .inr (.inl ⟨rfl, dictSide d, _, _, _, rfl, a, .inl (dictOf_int_num d)⟩)
  | dict1 a d => exact .inr (.inl ⟨rfl, dictSide d, _, _, _, rfl, a, .inr (dictOf_bool_num d)⟩)
  | set0 d => exact .inr (.inr ⟨rfl, setSide d, _, _, rfl, d⟩)
  | set1 d => exact .inr (.inr ⟨rfl, setSide d, _, _, rfl, d⟩)

theorem ty_ne {a b : String} (h : a ≠ b) : (Value.type a != Value.type b) = true := by
  simp [h]

theorem thing_eq {k f k' f' : Nat} {v v' : Value} {Q : Value → Shared → Prop} (x : Thing w s.heap k f v) (y : Thing w s.heap k' f' v') (hu : A.units + 70 < cLine) (h : Q (.bool (k == k')) s) :
    wpAny (model prog w) A (richCompare .Eq v v') Q E s := by
  have hu' : A.units < cLine := by omega
  rcases x.sort (A := A) with ⟨d, as, hm, r, ⟨T, id, P⟩, n5, n7⟩ | ⟨rfl, D, a, t, u, rfl, hs, hd⟩ | ⟨rfl, S, a, u, rfl, ho⟩
  · rcases y.sort (A := A) with ⟨d', as', hm', r', _⟩ | ⟨rfl, ⟨l, o, rfl, ho, hc, hf, sd⟩, _⟩ | ⟨rfl, ⟨l, o, rfl, ho, hc, hf, sd⟩, _⟩
    · have e := pd_eqv _ hm _ hm'
      dsimp only at e
      rw [← e] at h
      exact compareEq_shaped r r' (pd_shaped _ hm) (pd_shaped _ hm') (by omega) h
    · have e : (k == 5) = false := by simpa using n5
      rw [e] at h
      exact rc_apart (w := w) P.side sd (ty_ne P.off.1) P.sub'.1 (P.dec l o _ ho hc hf (.inl rfl)) (dec_dict ho hc P.side.ty P.sub.1) (fun Q' q => (P.same l o ho hf (by rw [hc]; decide) _ _ _ _ Q' q).1) hu' h
    · have e : (k == 7) = false := by simpa using n7
      rw [e] at h
      exact rc_apart (w := w) P.side sd (ty_ne P.off.2.1) P.sub'.2.1 (P.dec l o _ ho hc hf (.inr (.inl rfl))) (dec_set ho hc P.side.ty P.sub.2.1 P.sub.2.2) (fun Q' q => (P.same l o ho hf (by rw [hc]; decide) _ _ _ _ Q' q).1) hu' h
  · obtain ⟨l, o, e, ho, hc, hf, sd⟩ := D
    cases e
    rcases y.sort (A := A) with ⟨d', as', hm', r', ⟨T, id, P⟩, n5, n7⟩ | ⟨rfl, D', a', t', u', rfl, hs', hd'⟩ | ⟨rfl, ⟨l', o', rfl, ho', hc', hf', sd'⟩, _⟩
    · have e : (5 == k') = false := by simpa using Ne.symm n5
      rw [e] at h
      exact rc_apart (w := w) sd P.side (ty_ne P.off.1.symm) P.sub.1 (dec_dict ho hc P.side.ty P.sub.1) (P.dec a o _ ho hc hf (.inl rfl)) (fun Q' q => (P.same a o ho hf (by rw [hc]; decide) _ _ _ _ Q' q).2) hu' h
    · have H := dict_hits (s := s) (B := A.in1) (t := t) (u := u) (t' := t') (u' := u')
      rcases hd with hd | hd <;> rcases hd' with hd' | hd' <;> refine keq_eq hs hs' hd hd' hu' (r := true) (fun _ => ?_) h
      · exact H.1
      · exact H.2.1
      · exact H.2.2.1
      · exact H.2.2.2
    · have hne : a ≠ l' := by rintro rfl; rw [ho] at ho'; cases ho'; rw [hc] at hc'; simp at hc'
      exact rc_apart (w := w) sd sd' (by decide) F.sub_set_dict (dec_dict ho hc sd'.ty F.sub_set_dict) (dec_set ho' hc' sd.ty F.sub_dict_set sub_dict_frozenset) (fun Q' q => wpAny_isSame_ref_other' hne ho ho' (by rw [hc']; decide) q) hu' h
  · obtain ⟨l, o, e, ho', hc, hf, sd⟩ := S
    cases e
    rcases y.sort (A := A) with ⟨d', as', hm', r', ⟨T, id, P⟩, n5, n7⟩ | ⟨rfl, ⟨l', o', rfl, ho'', hc', hf', sd'⟩, _⟩ | ⟨rfl, _, a', u', rfl, hx'⟩
    · have e : (7 == k') = false := by simpa using Ne.symm n7
      rw [e] at h
      exact rc_apart (w := w) sd P.side (ty_ne P.off.2.1.symm) P.sub.2.1 (dec_set ho' hc P.side.ty P.sub.2.1 P.sub.2.2) (P.dec a o _ ho' hc hf (.inr (.inl rfl))) (fun Q' q => (P.same a o ho' hf (by rw [hc]; decide) _ _ _ _ Q' q).2) hu' h
    · have hne : a ≠ l' := by rintro rfl; rw [ho'] at ho''; cases ho''; rw [hc] at hc'; simp at hc'
      exact rc_apart (w := w) sd sd' (by decide) F.sub_dict_set (dec_set ho' hc sd'.ty F.sub_dict_set sub_dict_frozenset) (dec_dict ho'' hc' sd.ty F.sub_set_dict) (fun Q' q => wpAny_isSame_ref_other' hne ho' ho'' (by rw [hc']; decide) q) hu' h
    · exact rc_sets ho hx' hu' h
end
end Mine
end

/-! part Tn -/
section
open PySem PySem.W PyProof.Rows PySem.Calls PySem.SeqAt
namespace Mine
section
variable {A : Around} {E : Value → Shared → Prop} {s : Shared} {w : World}

/-- the bare object -/
abbrev nullObj : Obj := { cls := .type "object" }

theorem rc_sub {a b : Value} {Ta Tb ida idb : String} {Q : Value → Shared → Prop} (ha : s.TypeIs a Ta) (hb : s.TypeIs b Tb)
    (hne : (Value.type Ta != Value.type Tb) = true) (hsub : isSubtype (.type Tb) (.type Ta) = pure true) (h1 : Slot Ta (cmpInfo .Eq).2.1 ida) (h2 : Slot Tb (cmpInfo .Eq).2.2 idb)
    (hc1 : Dec A s ida a b) (hc2 : Dec A s idb b a) (hk : ∀ Q' : Bool → Shared → Prop, Q' false s → wpAny (model prog w) A (isSame a b) Q' E s) (hr : A.units < cLine) (h : Q (.bool false) s) :
    wpAny (model prog w) A (richCompare .Eq a b) Q E s := by
  rcases hi : cmpInfo CmpOp.Eq with ⟨sym, f, r⟩
  rw [hi] at h1 h2
  simp only [richCompare, hi, ha.oneThing_none]
  refine wpAny_holding ?_
  refine wpAny_bind (wpAny_cRoomFor_or (.inr hr) ?_)
  refine wpAny_bind (wpAny_typeOf ha (wpAny_bind (wpAny_typeOf hb ?_)))
  simp only [hne, if_true]
  refine wpAny_bind (wpAny_of_eq hsub ?_)
  simp only [Bool.false_eq_true, if_false, Bool.not_true, if_true]
  refine wpAny_bind (m := tryCompare b _ a) (wpAny_tryCompare_declines hb h2 (hc2 _ _ _ _ ⟨rfl, ?_⟩))
  refine wpAny_bind (m := tryCompare a _ b) (wpAny_tryCompare_declines ha h1 (hc1 _ _ _ _ ⟨rfl, ?_⟩))
  exact wpAny_bind (wpAny_rule (wpAny_bind (hk _ (wpAny_pure h))))

theorem sub_to_object : isSubtype (.type "int") (.type "object") = pure true ∧ isSubtype (.type "bool") (.type "object") = pure true ∧ isSubtype (.type "str") (.type "object") = pure true ∧ isSubtype (.type "list") (.type "object") = pure true ∧ isSubtype (.type "tuple") (.type "object") = pure true ∧
    isSubtype (.type "dict") (.type "object") = pure true ∧ isSubtype (.type "set") (.type "object") = pure true := by
  refine ⟨?_, ?_, ?_, ?_, ?_, ?_, ?_⟩ <;> rw [isSubtype_type] <;> kernel_rfl

theorem pdSub_of {k f : Nat} {v : Value} {d : PyData} {as : List Addr} (h : pdOf k f = some d) (r : Reads s.heap v d as) : ∃ T id, PdSide A s v T id ∧ isSubtype (.type T) (.type "object") = pure true := by
  unfold pdOf at h
  split at h <;> cases h
  all_goals
    cases r <;> first
      | exact ⟨_, _, pd_int _ _, sub_to_object.1⟩
      | exact ⟨_, _, pd_bool _, sub_to_object.2.1⟩
      | exact ⟨_, _, pd_str _ _, sub_to_object.2.2.1⟩
      | (rename_i ho hc hd _; exact ⟨_, _, pd_list ⟨_, ho, hc, _, hd⟩, sub_to_object.2.2.2.1⟩)
      | (rename_i ho hc hd _; exact ⟨_, _, pd_tuple ⟨_, ho, hc, _, hd⟩, sub_to_object.2.2.2.2.1⟩)

/-- the bare object equals no thing -/
theorem null_eq {l : Addr} {k f : Nat} {v : Value} {Q : Value → Shared → Prop} (hl : s.heap.get? l = some nullObj) (x : Thing w s.heap k f v) (hu : A.units + 70 < cLine) (h : Q (.bool false) s) :
    wpAny (model prog w) A (richCompare .Eq (.ref l) v) Q E s := by
  have hu' : A.units < cLine := by omega
  have tl : s.TypeIs (.ref l) "object" := ⟨_, hl, rfl⟩
  have main : ∀ {u : Value} {T id : String}, Side s u T id → "object" ≠ T → isSubtype (.type T) (.type "object") = pure true → Dec A s id u (.ref l) →
      (∀ (prog : Program) (w : World) (B : Around) (E : Value → Shared → Prop) (Q' : Bool → Shared → Prop), Q' false s → wpAny (model prog w) B (isSame (.ref l) u) Q' E s) → wpAny (model prog w) A (richCompare .Eq (.ref l) u) Q E s :=
    fun sd hne hsub hdec hsame => rc_sub tl sd.ty (ty_ne hne) hsub F.slot_object_eq sd.s2 (dec_object hl rfl fun p w E Q q => hsame p w _ E Q q) hdec (fun Q' q => hsame _ _ _ _ Q' q) hu' h
  cases x with
  | pd a r =>
    obtain ⟨T, id, P, hsub⟩ := pdSub_of (A := A) a r
    exact main P.side P.off.2.2.symm hsub (P.dec l _ _ hl rfl (.inr (.inr rfl)) (.inr (.inr rfl))) fun p' w' B E Q' q => (P.same l _ hl (.inr (.inr rfl)) (by decide) p' w' B E Q' q).2
  | dict0 a d =>
    obtain ⟨l', o, e, ho, hc, hf, sd⟩ := (dictSide (A := A) d).lies
    cases e
    have hne : l ≠ _ := fun e => by rw [e, ho] at hl; cases hl; simp at hc
    exact main sd (by decide) sub_to_object.2.2.2.2.2.1 (dec_dict ho hc tl F.sub_object_dict) fun p' w' B E Q' q => wpAny_isSame_ref_other' hne hl ho (by rw [hc]; decide) q
  | dict1 a d =>
    obtain ⟨l', o, e, ho, hc, hf, sd⟩ := (dictSide (A := A) d).lies
    cases e
    have hne : l ≠ _ := fun e => by rw [e, ho] at hl; cases hl; simp at hc
    exact main sd (by decide) sub_to_object.2.2.2.2.2.1 (dec_dict ho hc tl F.sub_object_dict) fun p' w' B E Q' q => wpAny_isSame_ref_other' hne hl ho (by rw [hc]; decide) q
  | set0 d =>
    obtain ⟨l', o, e, ho, hc, hf, sd⟩ := (setSide (A := A) d).lies
    cases e
    have hne : l ≠ _ := fun e => by rw [e, ho] at hl; cases hl; simp at hc
    exact main sd (by decide) sub_to_object.2.2.2.2.2.2 (dec_set ho hc tl F.sub_object_set sub_object_frozenset) fun p' w' B E Q' q => wpAny_isSame_ref_other' hne hl ho (by rw [hc]; decide) q
  | set1 d =>
    obtain ⟨l', o, e, ho, hc, hf, sd⟩ := (setSide (A := A) d).lies
    cases e
    have hne : l ≠ _ := fun e => by rw [e, ho] at hl; cases hl; simp at hc
    exact main sd (by decide) sub_to_object.2.2.2.2.2.2 (dec_set ho hc tl F.sub_object_set sub_object_frozenset) fun p' w' B E Q' q => wpAny_isSame_ref_other' hne hl ho (by rw [hc]; decide) q

theorem typeIs_ref {l : Addr} {T : String} {o : Obj} (h : s.TypeIs (.ref l) T) (ho : s.heap.get? l = some o) : o.cls = .type T := by
  obtain ⟨o', ho', hc⟩ := h
  rw [ho] at ho'; cases ho'; exact hc

/-- one value is of one kind -/
theorem thing_kind {k f k' f' : Nat} {v : Value} (x : Thing w s.heap k f v) (y : Thing w s.heap k' f' v) : k = k' := by
  rcases x.sort (A := callerA) with ⟨d, as, hm, r, ⟨T, id, P⟩, n5, n7⟩ | ⟨rfl, ⟨l, o, rfl, ho, hc, hf, sd⟩, _⟩ | ⟨rfl, ⟨l, o, rfl, ho, hc, hf, sd⟩, _⟩
  · rcases y.sort (A := callerA) with ⟨d', as', hm', r', _⟩ | ⟨rfl, ⟨l, o, rfl, ho, hc, hf, sd⟩, _⟩ | ⟨rfl, ⟨l, o, rfl, ho, hc, hf, sd⟩, _⟩
    · obtain ⟨rfl, rfl⟩ := r.unique _ _ r'
      have e1 := pd_eqv _ hm _ hm
      have e2 := pd_eqv _ hm _ hm'
      dsimp only at e1 e2
      rw [e1] at e2
      simpa using e2.symm
    · have := typeIs_ref P.side.ty ho
      rw [hc] at this; injection this with this; exact absurd this.symm P.off.1
    · have := typeIs_ref P.side.ty ho
      rw [hc] at this; injection this with this; exact absurd this.symm P.off.2.1
  · rcases y.sort (A := callerA) with ⟨d', as', hm', r', ⟨T, id, P⟩, _⟩ | ⟨rfl, _⟩ | ⟨rfl, ⟨l', o', e, ho', hc', _⟩, _⟩
    · have := typeIs_ref P.side.ty ho
      rw [hc] at this; injection this with this; exact absurd this.symm P.off.1
    · rfl
    · cases e; rw [ho] at ho'; cases ho'; rw [hc] at hc'; simp at hc'
  · rcases y.sort (A := callerA) with ⟨d', as', hm', r', ⟨T, id, P⟩, _⟩ | ⟨rfl, ⟨l', o', e, ho', hc', _⟩, _⟩ | ⟨rfl, _⟩
    · have := typeIs_ref P.side.ty ho
      rw [hc] at this; injection this with this; exact absurd this.symm P.off.2.1
    · cases e; rw [ho] at ho'; cases ho'; rw [hc] at hc'; simp at hc'
    · rfl

theorem thing_eqBool {k f k' f' : Nat} {v v' : Value} {Q : Bool → Shared → Prop} (x : Thing w s.heap k f v) (y : Thing w s.heap k' f' v') (hu : A.units + 70 < cLine) (h : Q (k == k') s) :
    wpAny (model prog w) A (eqBool v v') Q E s := by
  unfold eqBool
  refine wpAny_holding ?_
  refine wpAny_ite_split (fun hab => ?_) (fun _ => ?_)
  · obtain rfl := eq_of_beq hab
    obtain rfl := thing_kind x y
    rw [beq_self_eq_true] at h
    exact wpAny_bind (wpAny_rule (wpAny_pure h))
  · have nf : ∀ {u : Value}, Thing w s.heap k f u → ∀ bits t, u ≠ .float bits t := by
      rintro u hx bits t rfl
      cases hx with
      | pd _ r => cases r
    have key : wpAny (model prog w) A (richCompare .Eq v v' >>= fun r => truthOfDropped r) Q E s := wpAny_bind (thing_eq x y hu (wpAny_truthy_bool h))
    cases v <;> first | exact key | exact absurd rfl (nf x _ _)
end
end Mine
end

/-! part Rp -/
section
open PySem PySem.W PyProof.Rows PySem.Calls PySem.SeqAt
namespace Mine

def nameOf : Nat → Nat → Str
  | 0, 0 => "0" | 0, _ => "False"
  | 1, 0 => "1" | 1, _ => "True"
  | 2, 0 => "(0, 1)" | 2, _ => "(False, True)"
  | 3, _ => "'0'"
  | 4, 0 => "[0]" | 4, _ => "[False]"
  | 5, 0 => "{0: 'a', 1: 'b'}" | 5, _ => "{True: 'b', False: 'a'}"
  | 6, 0 => "[(0,), []]" | 6, _ => "[(False,), []]"
  | _, 0 => "{1}" | _, _ => "{True}"

theorem pd_shown : ∀ x ∈ pdList, x.2.2.shown = nameOf x.1 x.2.1 ∧ x.2.2.showable = true ∧ x.2.2.hasDict = false ∧ x.2.2.depth ≤ 3 ∧ x.2.2.shown.length ≤ 100 := by decide +kernel

section
variable {b : Bool} {prog : Program} {w : World} {A : Around} {E : Value → Shared → Prop} {s : Shared}

/-- a call of a built-in, its body in the refined logic -/
theorem X_call_builtin {id : String} {args : List Value} {bt : Builtin} {Q : Value → Shared → Prop} (hp : plainId id = true) (hok : b = true → codeOk (.builtin id ⟨args, []⟩) = true) (hb : entryFor table id = some bt)
    (hchk : ∀ (Q' : Unit → Shared → Prop), Q' () s → wpAny (model prog w) A.in1 (checkBuiltinCall id ⟨args, []⟩) Q' E s)
    (h : wpC b (model prog w) A.in1 (bt ⟨args, []⟩) (fun fin s' => ∃ v, fin = .done (.ret v) ∧ Q v s') E s) : wpC b (model prog w) A (call (.builtin id) args) Q E s := by
  refine wpC_call (codeC_of_tree (fun _ => rfl) (wpC_of ?_))
  show wpAny _ A.in1 (do checkBuiltinCall id ⟨args, []⟩; again (.builtin id ⟨args, []⟩)) _ _ s
  refine wpAny_bind (hchk _ (wpAny_pure (And.intro (plainId_quiet hp _) (codeC_of_tree hok ?_))))
  rw [Around.under_plainId hp]
  show wpC b _ _ (match entryFor table id with | some b => b ⟨args, []⟩ | none => unsupported ((withoutEnding? id "#data").getD id)) _ _ s
  rw [hb]
  exact wpC_mono h (fun fin s' ⟨v, e, q⟩ => by subst e; exact q) fun _ _ e => e

theorem checkFn {id : String} {args : List Value} (hk : builtinKind id = none) (ha : argsOk id ⟨args, []⟩) (Q' : Unit → Shared → Prop) (h : Q' () s) : wpAny (model prog w) A (checkBuiltinCall id ⟨args, []⟩) Q' E s := by
  simp only [checkBuiltinCall, hk]
  cases hsig : Manifest.signature? id with
  | none => exact wpAny_pure h
  | some sig =>
    simp only [argsOk, hsig] at ha
    have h2 : Bind.checkArgs id sig ⟨args, []⟩ = pure () := ha
    show wpAny _ A (Bind.checkArgs id sig ⟨args, []⟩) _ _ s
    rw [h2]; exact wpAny_pure h

theorem X_specialIfBound {self : Value} {T : String} {name : Str} {id : String} {args : List Value} {Q : Option Value → Shared → Prop} (hT : s.TypeIs self T) (h : Slot T name id)
    (hc : wpC b (model prog w) A (call (.builtin id) (self :: args)) (fun v => Q (some v)) E s) : wpC b (model prog w) A (callSpecialIfBound? self name args) Q E s := by
  simp only [callSpecialIfBound?, bindSpecialIfBound?]
  refine wpC_holding (wpC_bind (wpC_bindA (wpAny_specialOf hT h.lookup ?_)))
  simp only [h.bind]
  refine wpC_bindA (wpAny_askSetting ?_)
  have fin : wpC b (model prog w) A (call (.builtin id) ([self] ++ args) >>= fun v => pure (some v)) Q E s :=
    wpC_bind (wpC_mono hc (fun v s' h' => wpC_pure h') fun _ _ h' => h')
  split
  · exact wpC_bind (wpC_pure (wpC_pure fin))
  · exact wpC_tryCatch (wpC_bind (wpC_pure (wpC_pure fin)))

theorem ok_repr' : (!"repr".endsWith ".__repr__") = true := by decide +kernel
theorem ok_repr {args : Args} : codeOk (.builtin "repr" args) = true := ok_repr'
theorem X_repr_slot {T idr : String} {v : Value} {Q : Value → Shared → Prop} (hu : A.units + 1 < cLine) (hT : s.TypeIs v T) (sl : Slot T "__repr__" idr)
    (hc : wpC b (model prog w) A.in1 (call (.builtin idr) [v]) (fun r s₁ => ∃ x t, r = .str x t ∧ Q r s₁) E s) : wpC b (model prog w) A (call (.builtin "repr") [v]) Q E s := by
  refine X_call_builtin F.plain_repr (fun _ => ok_repr) F.entry_repr (fun Q' q => checkFn F.kind_repr (F.args_repr1 _) Q' q) ?_
  unfold Builtin.«repr»
  refine wpC_bind (m := oneArg "repr" _) (wpC_pure ?_)
  refine wpC_bindA (wpAny_cRoomFor (by show A.units + 1 < cLine; exact hu) ?_)
  refine wpC_bindA (wpAny_specialOf (name := Str.ofString "__repr__") hT sl.lookup ?_)
  refine wpC_bind (m := callSpecialIfBound? v (Str.ofString "__repr__")) (X_specialIfBound hT sl (wpC_mono hc (fun r s₁ h₁ => ?_) fun _ _ e => e))
  obtain ⟨x, t, rfl, hq⟩ := h₁
  refine wpC_bindA (wpAny_isInstance (T := "str") (b := true) rfl isSubtype_str_str ?_)
  exact wpC_pure ⟨_, rfl, hq⟩

theorem entry_set_repr : entryFor table "set.__repr__" = some Builtin.«frozenset.__repr__» :=
  entryFor_alias (id' := "frozenset.__repr__") (by rw [fastTable_eq_tree]; kernel_rfl) (by decide +kernel) (by decide +kernel) (by rw [fastTable_eq_tree]; kernel_rfl)

theorem setItems_one {a : Addr} {v : Value} {Q : List Value → Shared → Prop} (x : OneSet s.heap a v) (h : Q [v] s) : wpAny (model prog w) A (setItems a) Q E s := by
  obtain ⟨o, ep, t, ho, hx, hd, hf⟩ := x.ob
  unfold setItems setWalk
  refine wpAny_bind (wpAny_bind (wpAny_setState_of ho hd hf ?_))
  dsimp only
  unfold setsByText
  refine wpAny_bind (wpAny_bind (wpAny_askSetting (wpAny_pure ?_)))
  split
  · refine wpAny_bind (wpAny_askSetting (wpAny_pure (wpAny_pure ?_)))
    have : ∀ g : Nat → Nat, (pickOrder g #[((1 : Int), v)]).toList = [((1 : Int), v)] := by
      intro g
      show (pickOrder.go g 1 0 [((1 : Int), v)] #[]).toList = _
      unfold pickOrder.go
      have e : g 0 % [((1 : Int), v)].length = 0 := Nat.mod_one _
      rw [e]
      show (pickOrder.go g 0 1 [] (#[].push ((1 : Int), v))).toList = _
      unfold pickOrder.go
      rfl
    rw [this]; exact h
  · have e1 : ∀ c : Bool, (!c && decide ((#[((1 : Int), v)]).size > 1)) = false := by intro c; cases c <;> rfl
    refine wpAny_ite_split (fun hq => ?_) (fun _ => ?_)
    · have hq' : (!t.plain && decide ((#[((1 : Int), v)]).size > 1)) = true := hq
      rw [e1] at hq'
      cases hq'
    refine wpAny_bind ?_
    show wpAny _ _ (if (!t.led && decide ((#[((1 : Int), v)]).size > 1)) = true then unsupported "set:maker-not-led" else pure ()) _ _ _
    rw [if_neg (by rw [e1]; exact Bool.false_ne_true)]
    exact wpAny_pure (wpAny_pure (wpAny_pure h))

/-- the body of a built-in that asks the stack below it, which is clean -/
def wpO {α : Type} (M : Model) (A : Around) (c : Code) (t : Sem α) (Q : α → Shared → Prop) (E : Value → Shared → Prop) (s : Shared) : Prop :=
  ∀ Γ p, Γ.code = c → Γ.Below A → (∀ x ∈ Γ.below, codeOk x.1 = true) → Sem.wp M Γ t (fun a _ s' => Q a s') (fun e _ s' => E e s') p s
theorem wpO_bind {α β : Type} {M : Model} {c : Code} {m : Sem α} {f : α → Sem β} {Q : β → Shared → Prop} (h : wpO M A c m (fun a s' => wpO M A c (f a) Q E s') E s) : wpO M A c (m >>= f) Q E s := fun Γ p hc hΓ hb => by
  rw [Sem.wp_bind']
  exact Sem.wp_mono M Γ m (fun a p' s' h' => h' Γ p' hc hΓ hb) (fun _ _ _ h' => h') p s (h Γ p hc hΓ hb)
theorem wpO_of {α : Type} {M : Model} {c : Code} {t : Sem α} {Q : α → Shared → Prop} (h : wpAny M (A.under c) t Q E s) : wpO M A c t Q E s := fun Γ p hc hΓ _ => h Γ p (hc ▸ hΓ.in)
theorem codeC_own {id : String} {args : Args} {bt : Builtin} {R : Result → Shared → Prop} (hb : entryFor table id = some bt)
    (h : wpO (model prog w) A (.builtin id args) (bt args) (fun fin s' => match fin with | .done f => R (.ok f) s' | .again c' => c'.quiet = true ∧ codeC true (model prog w) A c' R s') (fun e s' => R (.error e) s') s) :
    codeC true (model prog w) A (.builtin id args) R s := fun Γ p hc hΓ hcl => by
  rw [wpCode_iff_wp, hc]
  show Sem.wp _ _ (match entryFor table id with | some b => b args | none => unsupported ((withoutEnding? id "#data").getD id)) _ _ _ _
  rw [hb]
  refine Sem.wp_mono _ Γ _ (fun fin p' s' h' => ?_) (fun _ _ _ h' => h') p s (h Γ p hc hΓ (hcl rfl))
  cases fin with
  | done f => exact h'
  | again c' => exact ⟨h'.1, h'.2 (Γ.goto c') p' rfl (hΓ.goto c') hcl⟩
theorem X_call_own_builtin {id : String} {args : List Value} {bt : Builtin} {Q : Value → Shared → Prop} (hp : plainId id = true) (hb : entryFor table id = some bt)
    (hchk : ∀ (Q' : Unit → Shared → Prop), Q' () s → wpAny (model prog w) A.in1 (checkBuiltinCall id ⟨args, []⟩) Q' E s)
    (h : wpO (model prog w) A (.builtin id ⟨args, []⟩) (bt ⟨args, []⟩) (fun fin s' => ∃ v, fin = .done (.ret v) ∧ Q v s') E s) : wpC true (model prog w) A (call (.builtin id) args) Q E s := by
  refine wpC_call (codeC_of_tree (fun _ => rfl) (wpC_of ?_))
  show wpAny _ A.in1 (do checkBuiltinCall id ⟨args, []⟩; again (.builtin id ⟨args, []⟩)) _ _ s
  refine wpAny_bind (hchk _ (wpAny_pure (And.intro (plainId_quiet hp _) (codeC_own hb ?_))))
  exact fun Γ p hc hΓ hcl => Sem.wp_mono _ Γ _ (fun fin p' s' ⟨v, e, q⟩ => by subst e; exact q) (fun _ _ _ h' => h') p s (h Γ p hc hΓ hcl)

theorem running_false {self : Value} {c : Code} {Q : Bool → Shared → Prop} (h : Q false s) : wpO (model prog w) A c (Builtin.Frozenset.reprRunning self) Q E s := fun Γ p hc hΓ hb => by
  show Q (Γ.below.any fun
    | (.builtin id ⟨v :: _, _⟩, _) => v == self && id.endsWith ".__repr__"
    | _ => false) s
  have e : (Γ.below.any fun (x : Code × Pos) => match x with
    | (.builtin id ⟨v :: _, _⟩, _) => v == self && id.endsWith ".__repr__"
    | _ => false) = false := by
    refine List.any_eq_false.mpr fun x hx => ?_
    have := hb x hx
    obtain ⟨c, p⟩ := x
    split
    · rename_i q
      cases q
      simp only [codeOk, Bool.not_eq_true'] at this
      rw [this, Bool.and_false]; exact Bool.false_ne_true
    · exact Bool.false_ne_true
  rw [e]; exact h

/-- the set's own repr, on a clean stack below -/
theorem set_repr {a : Addr} {v : Value} {d : PyData} {x : Str} {Q : Value → Shared → Prop} (o : OneSet s.heap a v) (hv : ∀ h, Reads h v d []) (hd : (PyData.list [d]).showable = true ∧ (PyData.list [d]).hasDict = false ∧ (PyData.list [d]).depth ≤ 3 ∧ (PyData.list [d]).shown.length ≤ 100)
    (hx : ("{" : Str) ++ ⟨(PyData.list [d]).shown.cps.extract 1 ((PyData.list [d]).shown.cps.size - 1)⟩ ++ "}" = x) (hxl : x.length ≤ 100)
    (hg : A.guards = some []) (hu : A.units + 50 < cLine) (hQ : ∀ h' u tk, (∀ b o, s.heap.get? b = some o → h'.get? b = some o) → Q (.str x u) { s with heap := h', toks := tk }) :
    wpC true (model prog w) A (call (.builtin "set.__repr__") [.ref a]) Q E s := by
  refine X_call_own_builtin F.slot_set_repr.plain entry_set_repr (fun Q' q => F.slot_set_repr.check _ _ _ _ _ _ _ _ o.typeIs (F.args_set_repr_1 _) q) ?_
  obtain ⟨ob, ep, t, ho, hxs, hdt, hf⟩ := o.ob
  unfold Builtin.«frozenset.__repr__»
  refine wpO_bind (m := Builtin.Frozenset.slot0 "__repr__" _) (wpO_of (wpAny_pure ?_))
  refine wpO_bind (wpO_of ?_)
  have und : A.under (.builtin "set.__repr__" ⟨[.ref a], []⟩) = A.in1 := Around.under_plainId F.slot_set_repr.plain _
  rw [und]
  unfold typeNameOfWhole shownTypeOf
  refine wpAny_bind (wpAny_bind (wpAny_typeOf o.typeIs ?_))
  simp only [show (Value.type "set" == Value.type "builtin_function_or_method") = false by decide, Bool.false_eq_true, if_false]
  refine wpAny_pure (wpAny_pure ?_)
  refine wpO_bind (running_false ?_)
  rw [if_neg Bool.false_ne_true]
  refine wpO_of ?_
  rw [und]
  unfold Builtin.Frozenset.sizeOf
  refine wpAny_bind (wpAny_bind (wpAny_setEntries_of ho hdt hf (wpAny_pure ?_)))
  rw [if_neg (show ¬ ((#[((1 : Int), v)].size == 0) = true) by simp)]
  refine wpAny_bind (setItems_one o (wpAny_bind (wpAny_newList ?_ (by show (1 : Nat) ≤ sizeLine; rw [sizeLine_eq]; omega))))
  have rl : Reads (s.heap.push { cls := .type "list", data := .seq [v].toArray }) (.ref s.heap.objs.size) (.list [d]) (s.heap.objs.size :: ([] ++ [])) :=
    .list (Heap.get?_push_size _ rfl) rfl rfl (.cons (hv _) .nil)
  refine wpAny_bind (wpAny_holding (pyRepr_of_reads_sz rl hd.1 (fun q => by rw [hd.2.1] at q; cases q) hg (by show A.units + 1 + _ < cLine; have := hd.2.2.1; omega) (fun _ _ e => e) (fun h' tk hk => ?_) (by rw [sizeLine_eq]; have := hd.2.2.2; omega)))
  have o' : OneSet h' a v := o.keeps fun b o e => hk _ _ (Heap.get?_push_of_some _ e)
  dsimp only
  rw [hx]
  refine wpAny_bind (wpAny_typeOf o'.typeIs ?_)
  rw [if_pos (show ((Value.type "set" == Value.type "set") = true) by decide)]
  unfold retStr
  exact wpAny_bind (wpAny_mkStr (wpAny_pure ⟨_, rfl, hQ h' _ _ fun b o e => hk _ _ (Heap.get?_push_of_some _ e)⟩) (by rw [sizeLine_eq]; omega))
end
end Mine
end

/-! part Rt -/
section
open PySem PySem.W PyProof.Rows PySem.Calls PySem.SeqAt
namespace Mine
section
variable {A : Around} {E : Value → Shared → Prop} {s : Shared} {w : World}

theorem dict_reads0 {h : Heap} {a : Addr} {t u : Tok} (d : h.DictOf (intKind prog w) a [(0, .str "a" t), (1, .str "b" u)]) : Reads h (.ref a) (.dict [(.int 0, .str "a"), (.int 1, .str "b")]) (a :: ([] ++ ([] ++ [])) ++ ([] ++ ([] ++ []))) := by
  obtain ⟨o, es, ep, ho, hx, hd, hk, hp, hn⟩ := d
  have e : ∃ t1 t2, es.toList.map (·.key) = [.int 0 t1, .int 1 t2] ∧ es.toList.map (·.val) = [.str "a" t, .str "b" u] := by
    generalize es.toList = l at hp
    cases hp with
    | cons a1 b1 r =>
      cases r with
      | cons a2 b2 r2 =>
        cases r2
        obtain ⟨t1, e1⟩ := Value.isInt_shape a1
        obtain ⟨t2, e2⟩ := Value.isInt_shape a2
        exact ⟨t1, t2, by simp [e1, e2], by simp [b1, b2]⟩
  obtain ⟨t1, t2, e1, e2⟩ := e
  refine .dict ho hx.1 hd ?_ ?_
  · rw [e1]; exact .cons (.int 0 t1) (.cons (.int 1 t2) .nil)
  · rw [e2]; exact .cons (.str "a" t) (.cons (.str "b" u) .nil)
theorem dict_reads1 {h : Heap} {a : Addr} {t u : Tok} (d : h.DictOf (boolKind prog w) a [(true, .str "b" t), (false, .str "a" u)]) : Reads h (.ref a) (.dict [(.bool true, .str "b"), (.bool false, .str "a")]) (a :: ([] ++ ([] ++ [])) ++ ([] ++ ([] ++ []))) := by
  obtain ⟨o, es, ep, ho, hx, hd, hk, hp, hn⟩ := d
  have shape : ∀ {k : Bool} {v : Value}, (boolKind prog w).is k v = true → v = .bool k := by
    intro k v h
    cases v <;> simp only [boolKind, Bool.false_eq_true] at h
    rw [eq_of_beq h]
  have e : es.toList.map (·.key) = [.bool true, .bool false] ∧ es.toList.map (·.val) = [.str "b" t, .str "a" u] := by
    generalize es.toList = l at hp
    cases hp with
    | cons a1 b1 r =>
      cases r with
      | cons a2 b2 r2 =>
        cases r2
        exact ⟨by simp [shape a1, shape a2], by simp [b1, b2]⟩
  obtain ⟨e1, e2⟩ := e
  refine .dict ho hx.1 hd ?_ ?_
  · rw [e1]; exact .cons (.bool _) (.cons (.bool _) .nil)
  · rw [e2]; exact .cons (.str "b" t) (.cons (.str "a" u) .nil)

theorem dict_shown0 : (PyData.dict [(.int 0, .str "a"), (.int 1, .str "b")]).shown = "{0: 'a', 1: 'b'}" ∧ (PyData.dict [(.int 0, .str "a"), (.int 1, .str "b")]).showable = true ∧ (PyData.dict [(.int 0, .str "a"), (.int 1, .str "b")]).depth ≤ 3 ∧ (PyData.dict [(.int 0, .str "a"), (.int 1, .str "b")]).shown.length ≤ 100 := by decide +kernel
theorem dict_shown1 : (PyData.dict [(.bool true, .str "b"), (.bool false, .str "a")]).shown = "{True: 'b', False: 'a'}" ∧ (PyData.dict [(.bool true, .str "b"), (.bool false, .str "a")]).showable = true ∧ (PyData.dict [(.bool true, .str "b"), (.bool false, .str "a")]).depth ≤ 3 ∧ (PyData.dict [(.bool true, .str "b"), (.bool false, .str "a")]).shown.length ≤ 100 := by decide +kernel

theorem int_names : (Str.ofString (toString (0 : Int)) = "0" ∧ Str.ofString (toString (1 : Int)) = "1") ∧ reprText "0" = "'0'" ∧ (reprText "0").length ≤ 100 := by decide +kernel
theorem set_names : (("{" : Str) ++ ⟨(PyData.list [.int 1]).shown.cps.extract 1 ((PyData.list [.int 1]).shown.cps.size - 1)⟩ ++ "}" = "{1}" ∧ ("{" : Str) ++ ⟨(PyData.list [.bool true]).shown.cps.extract 1 ((PyData.list [.bool true]).shown.cps.size - 1)⟩ ++ "}" = "{True}") ∧
    ((PyData.list [.int 1]).showable = true ∧ (PyData.list [.int 1]).hasDict = false ∧ (PyData.list [.int 1]).depth ≤ 3 ∧ (PyData.list [.int 1]).shown.length ≤ 100) ∧
    ((PyData.list [.bool true]).showable = true ∧ (PyData.list [.bool true]).hasDict = false ∧ (PyData.list [.bool true]).depth ≤ 3 ∧ (PyData.list [.bool true]).shown.length ≤ 100) ∧ ("{1}" : Str).length ≤ 100 ∧ ("{True}" : Str).length ≤ 100 := by decide +kernel

/-- a thing's writing -/
theorem thing_repr {k f : Nat} {v : Value} {Q : Value → Shared → Prop} (x : Thing w s.heap k f v) (hg : A.guards = some []) (hu : A.units + 100 < cLine)
    (hQ : ∀ h' u tk, (∀ b o, s.heap.get? b = some o → h'.get? b = some o) → Q (.str (nameOf k f) u) { s with heap := h', toks := tk }) : wpC true (model prog w) A (call (.builtin "repr") [v]) Q E s := by
  cases x with
  | pd a r =>
    rename_i d as
    obtain ⟨e1, e2, e3, e4, e5⟩ := pd_shown _ (pdOf_mem a)
    dsimp only at e1 e2 e3 e4 e5
    refine wpC_of ?_
    cases r with
    | none => simp [pdOf] at a; split at a <;> cases a
    | bool b =>
      refine P.repr_of_bool ?_
      have e : (if b = true then Str.ofString "True" else Str.ofString "False") = nameOf k f := by
        unfold pdOf at a; split at a <;> cases a <;> rfl
      have := hQ s.heap s.toks (s.toks + 1) fun _ _ e => e
      rw [← e] at this; exact this
    | int i t =>
      refine P.repr_of_int ?_ ?_
      · unfold pdOf at a; split at a <;> cases a <;> decide
      · have e : (Str.ofString (toString i)) = nameOf k f := by
          unfold pdOf at a; split at a <;> cases a
          · exact int_names.1.1
          · exact int_names.1.2
        have := hQ s.heap s.toks (s.toks + 1) fun _ _ e => e
        rw [← e] at this; exact this
    | str z t =>
      have hz : z = "0" ∧ nameOf k f = "'0'" := by unfold pdOf at a; split at a <;> cases a <;> exact ⟨rfl, rfl⟩
      obtain ⟨rfl, hn⟩ := hz
      refine P.repr_of_str ?_ (by rw [sizeLine_eq]; have := int_names.2.2; omega)
      have := hQ s.heap s.toks (s.toks + 1) fun _ _ e => e
      rw [hn, ← int_names.2.1] at this; exact this
    | list h1 h2 h3 h4 =>
      rw [← e1] at hQ
      exact repr_of_reads' (.list h1 h2 h3 h4) e2 (fun q => by rw [e3] at q; cases q) hg (by omega) (fun _ _ e => e) hQ (by rw [sizeLine_eq]; omega)
    | tuple h1 h2 h3 h4 =>
      rw [← e1] at hQ
      exact repr_of_reads' (.tuple h1 h2 h3 h4) e2 (fun q => by rw [e3] at q; cases q) hg (by omega) (fun _ _ e => e) hQ (by rw [sizeLine_eq]; omega)
    | dict h1 h2 h3 h4 h5 => unfold pdOf at a; split at a <;> cases a
  | dict0 hs d =>
    obtain ⟨e1, e2, e4, e5⟩ := dict_shown0
    refine wpC_of ?_
    have hn : nameOf 5 0 = "{0: 'a', 1: 'b'}" := rfl
    rw [hn, ← e1] at hQ
    exact repr_of_reads' (dict_reads0 d) e2 (fun _ => by intro hm; simp only [List.append_nil, List.mem_singleton] at hm; rw [← hm] at hs; simp at hs) hg (by omega) (fun _ _ e => e) hQ (by rw [sizeLine_eq]; omega)
  | dict1 hs d =>
    obtain ⟨e1, e2, e4, e5⟩ := dict_shown1
    refine wpC_of ?_
    have hn : nameOf 5 1 = "{True: 'b', False: 'a'}" := rfl
    rw [hn, ← e1] at hQ
    exact repr_of_reads' (dict_reads1 d) e2 (fun _ => by intro hm; simp only [List.append_nil, List.mem_singleton] at hm; rw [← hm] at hs; simp at hs) hg (by omega) (fun _ _ e => e) hQ (by rw [sizeLine_eq]; omega)
  | set0 d =>
    have hn : nameOf 7 0 = "{1}" := rfl
    rw [hn] at hQ
    refine X_repr_slot (by omega) d.typeIs F.slot_set_repr ?_
    exact set_repr (d := .int 1) d (fun h => .int 1 _) set_names.2.1 set_names.1.1 set_names.2.2.2.1 hg (by show A.units + 1 + 50 < cLine; omega) fun h' u tk hk => ⟨_, _, rfl, hQ h' u tk hk⟩
  | set1 d =>
    have hn : nameOf 7 1 = "{True}" := rfl
    rw [hn] at hQ
    refine X_repr_slot (by omega) d.typeIs F.slot_set_repr ?_
    exact set_repr (d := .bool true) d (fun h => .bool true) set_names.2.2.1 set_names.1.2 set_names.2.2.2.2 hg (by show A.units + 1 + 50 < cLine; omega) fun h' u tk hk => ⟨_, _, rfl, hQ h' u tk hk⟩
end
end Mine
end

/-! part Fn -/
section
open PySem PySem.W PyProof.Rows PySem.Calls
set_option maxRecDepth 100000
namespace Mine
def noCell (i : Nat) : Bool := (scopeOf (stmtAt i)).names.all fun x => match x.2 with | .cell => false | _ => true
def IsFn (w : World) (f : Addr) (name : Str) (i : Nat) (c : Addr) (dV : Value) : Prop :=
  codeIn (KF w) (.ref c) name = true ∧ ((scopeOf (stmtAt i)).isCoroutine = false ∧ (scopeOf (stmtAt i)).isGenerator = false ∧ (scopeOf (stmtAt i)).kind = .function) ∧ ∃ doc pm, (KF w).lookup f = some ⟨.type "function", none, .func (fnOf name name (paramsOf (stmtAt i)) (bodyOf (stmtAt i)) (scopeOf (stmtAt i)) dV .none doc pm none (.ref c) .none), #[]⟩
variable (w : World)
theorem fn_repr : IsFn w 72 "safe_repr" 4 71 (.ref 65) := ⟨rfl, ⟨rfl, rfl, rfl⟩, _, _, rfl⟩
theorem fn_uld : IsFn w 79 "unorderable_list_difference" 5 78 .none := ⟨rfl, ⟨rfl, rfl, rfl⟩, _, _, rfl⟩
theorem fn_cda : IsFn w 160 "_count_diff_all_purpose" 8 159 .none := ⟨rfl, ⟨rfl, rfl, rfl⟩, _, _, rfl⟩
theorem fn_faces : IsFn w 167 "_law_faces" 10 166 .none := ⟨rfl, ⟨rfl, rfl, rfl⟩, _, _, rfl⟩
theorem fn_names : IsFn w 174 "_law_names" 11 173 .none := ⟨rfl, ⟨rfl, rfl, rfl⟩, _, _, rfl⟩
theorem fn_things : IsFn w 179 "_law_things" 12 178 .none := ⟨rfl, ⟨rfl, rfl, rfl⟩, _, _, rfl⟩
theorem fn_written : IsFn w 184 "_law_written" 13 183 .none := ⟨rfl, ⟨rfl, rfl, rfl⟩, _, _, rfl⟩
theorem fn_equals : IsFn w 189 "_law_equals" 14 188 .none := ⟨rfl, ⟨rfl, rfl, rfl⟩, _, _, rfl⟩
theorem fn_rows : IsFn w 196 "_law_rows" 15 195 .none := ⟨rfl, ⟨rfl, rfl, rfl⟩, _, _, rfl⟩
theorem fn_counts : IsFn w 201 "_law_counts_hold" 16 200 .none := ⟨rfl, ⟨rfl, rfl, rfl⟩, _, _, rfl⟩
theorem fn_copies : IsFn w 208 "_law_copies_hold" 17 207 .none := ⟨rfl, ⟨rfl, rfl, rfl⟩, _, _, rfl⟩
theorem fn_one : IsFn w 215 "_law_one_list_holds" 18 214 .none := ⟨rfl, ⟨rfl, rfl, rfl⟩, _, _, rfl⟩
theorem fn_law : IsFn w 220 "law" 19 219 .none := ⟨rfl, ⟨rfl, rfl, rfl⟩, _, _, rfl⟩

section
variable {b : Bool} {w : World} {A : Around} {R : Result → Shared → Prop} {s : Shared}
abbrev envF (i : Nat) (name : Str) (f c : Addr) (L : Addr) : Env := envX name (scopeOf (stmtAt i)) L f (.ref c) []
/-- entering a def of the text -/
theorem code_fn {f c : Addr} {name : Str} {i : Nat} {dV : Value} {args : Args} {binds : List (Str × Value)} (G : Gd w s.heap) (hf : IsFn w f name i c dV) (hcell : noCell i = true) (hroom : A.depth < recursionLimit)
    (hbind : ∀ doc pm, BindsTo s (fnOf name name (paramsOf (stmtAt i)) (bodyOf (stmtAt i)) (scopeOf (stmtAt i)) dV .none doc pm none (.ref c) .none) args binds) (hloc : ∀ x ∈ binds, (scopeOf (stmtAt i)).names.lookup x.1 = some .local)
    (h : ∀ h₁, h₁.Ns s.heap.objs.size (fun x => binds.reverse.lookup x) → (∀ b o, s.heap.get? b = some o → h₁.get? b = some o) →
      wpC b (model prog w) (A.deeper (envF i name f c s.heap.objs.size)) (execs (bodyOf (stmtAt i)) (envF i name f c s.heap.objs.size))
        (fun f s' => R (.ok (.ret (match f with | .ret v => v | _ => .none))) s') (fun _ _ => False) { s with heap := h₁, toks := s.toks + binds.length }) :
    codeC b (model prog w) A (.call (.ref f) args) R s := by
  obtain ⟨hcd, ⟨hco, hgen, hk⟩, doc, pm, hf⟩ := hf
  exact code_plain G hf hcd hroom (hbind doc pm) hloc h hco hgen hk (fun x hx e => by have := List.all_eq_true.mp hcell x hx; rw [e] at this; cases this)
theorem code_fnc {f c : Addr} {name : Str} {i : Nat} {dV : Value} {args : Args} {binds : List (Str × Value)} (G : Gd w s.heap) (hf : IsFn w f name i c dV) (hroom : A.depth < recursionLimit)
    (hbind : ∀ doc pm, BindsTo s (fnOf name name (paramsOf (stmtAt i)) (bodyOf (stmtAt i)) (scopeOf (stmtAt i)) dV .none doc pm none (.ref c) .none) args binds)
    (hkind : ∀ x ∈ binds, (scopeOf (stmtAt i)).names.lookup x.1 = some .local ∨ ((scopeOf (stmtAt i)).names.lookup x.1 = some .cell ∧ ((cellsFrom (s.heap.objs.size + 1) (scopeOf (stmtAt i)).names []).lookup x.1).isSome = true))
    (h : ∀ h₁ tk, h₁.Ns s.heap.objs.size (bindL (fun n => (scopeOf (stmtAt i)).names.lookup n) binds fun _ => none) → (∀ n c, (cellsFrom (s.heap.objs.size + 1) (scopeOf (stmtAt i)).names []).lookup n = some c → h₁.IsCell c (bindC (fun n => (scopeOf (stmtAt i)).names.lookup n) binds (fun _ => none) n)) →
      (∀ n c, (n, c) ∈ cellsFrom (s.heap.objs.size + 1) (scopeOf (stmtAt i)).names [] → s.heap.objs.size < c) →
      (∀ b o, s.heap.get? b = some o → h₁.get? b = some o) →
      wpC b (model prog w) (A.deeper (envX name (scopeOf (stmtAt i)) s.heap.objs.size f (.ref c) (cellsFrom (s.heap.objs.size + 1) (scopeOf (stmtAt i)).names []))) (execs (bodyOf (stmtAt i)) (envX name (scopeOf (stmtAt i)) s.heap.objs.size f (.ref c) (cellsFrom (s.heap.objs.size + 1) (scopeOf (stmtAt i)).names [])))
        (fun f s' => R (.ok (.ret (match f with | .ret v => v | _ => .none))) s') (fun _ _ => False) { s with heap := h₁, toks := tk }) :
    codeC b (model prog w) A (.call (.ref f) args) R s := by
  obtain ⟨hcd, ⟨hco, hgen, hk⟩, doc, pm, hf⟩ := hf
  exact code_cells G hf hcd hroom (hbind doc pm) hkind h hco hgen hk
end
end Mine
end

/-! part Fc -/
section
open PySem PySem.W PyProof.Rows PySem.Calls
set_option maxRecDepth 100000
namespace Mine

abbrev HP := Heap → Value → Prop
abbrev Keeps (h h' : Heap) : Prop := ∀ b o, h.get? b = some o → h'.get? b = some o
/-- `h'` without what `s` holds beyond `B` -/
def ext (B s h' : Heap) : Heap := hideAll h' ((List.range s.objs.size).filter fun a => (s.get? a).isSome && (B.get? a).isNone)
theorem ext_mem {B s : Heap} {a : Addr} : a ∈ ((List.range s.objs.size).filter fun a => (s.get? a).isSome && (B.get? a).isNone) ↔ (s.get? a ≠ none ∧ B.get? a = none) := by
  simp only [List.mem_filter, List.mem_range, Bool.and_eq_true, Option.isNone_iff_eq_none, Option.isSome_iff_ne_none]
  constructor
  · exact fun h => h.2
  · intro h
    refine ⟨?_, h⟩
    obtain ⟨o, ho⟩ := Option.ne_none_iff_exists'.mp h.1
    exact Heap.lt_size ho
theorem of_ext {B s h' : Heap} {a : Addr} {o : Obj} (e : (ext B s h').get? a = some o) : h'.get? a = some o := of_hideAll _ e
theorem ext_none {B s h' : Heap} {a : Addr} (h1 : s.get? a ≠ none) (h2 : B.get? a = none) : (ext B s h').get? a = none := hideAll_none _ (ext_mem.mpr ⟨h1, h2⟩)
theorem ext_get {B s h' : Heap} {a : Addr} {o : Obj} (e : h'.get? a = some o) (h : s.get? a = none ∨ B.get? a ≠ none) : (ext B s h').get? a = some o := hideAll_get _ e fun hm => by
  have := ext_mem.mp hm
  rcases h with h | h
  · exact this.1 h
  · exact h this.2
theorem ext_old {B s h' : Heap} (k : Keeps B s) (k' : Keeps s h') : Keeps B (ext B s h') := fun b o e => ext_get (k' _ _ (k _ _ e)) (.inr (by rw [e]; simp))
theorem ext_le {B s s' h' h'' : Heap} (ks : Keeps s s') (k : Keeps h' h'') : Keeps (ext B s' h') (ext B s h'') := fun b o e => by
  refine ext_get (k _ _ (of_ext e)) ?_
  by_cases h1 : s.get? b = none
  · exact .inl h1
  · refine .inr fun h2 => ?_
    obtain ⟨o', ho⟩ := Option.ne_none_iff_exists'.mp h1
    rw [ext_none (by rw [ks _ _ ho]; simp) h2] at e; cases e
theorem none_size {s h : Heap} (k : Keeps s h) : s.get? h.objs.size = none := by
  cases e : s.get? h.objs.size with
  | none => rfl
  | some o => exact absurd (Heap.lt_size (k _ _ e)) (Nat.lt_irrefl _)
def Mono (P : HP) : Prop := ∀ h h' v, (∀ b o, h.get? b = some o → h'.get? b = some o) → P h v → P h' v
/-- an expression that only makes -/
structure Ev (w : World) (A : Around) (env : Env) (e : PySem.Expr) (P : HP) : Prop where
  mono : Mono P
  run : ∀ (s : Shared) (Q : Value → Shared → Prop) (E : Value → Shared → Prop) (B : Heap), Gd w s.heap → (∀ v h' tk, Keeps s.heap h' → P (ext B s.heap h') v → Q v { s with heap := h', toks := tk }) → wpAny (model prog w) A (eval e env) Q E s
inductive All2 (h : Heap) : List HP → List Value → Prop
  | nil : All2 h [] []
  | cons {P : HP} {Ps : List HP} {v : Value} {vs : List Value} : P h v → All2 h Ps vs → All2 h (P :: Ps) (v :: vs)
structure EvL (w : World) (A : Around) (env : Env) (pos : Pos) (es : List PySem.Expr) (Ps : List HP) : Prop where
  mono : ∀ P ∈ Ps, Mono P
  len : Ps.length ≤ 30
  run : ∀ (s : Shared) (Q : List Value → Shared → Prop) (E : Value → Shared → Prop) (B : Heap), Gd w s.heap → (∀ vs h' tk, Keeps s.heap h' → All2 (ext B s.heap h') Ps vs → Q vs { s with heap := h', toks := tk }) →
    wpAny (model prog w) A (spliced (backTo pos (starEach es env))) Q E s

theorem use_ev {w : World} {A : Around} {env : Env} {e : PySem.Expr} {P : HP} {s : Shared} {Q : Value → Shared → Prop} {E : Value → Shared → Prop} (x : Ev w A env e P) (G : Gd w s.heap)
    (B : Heap) (h : ∀ v h' tk, Keeps s.heap h' → P (ext B s.heap h') v → Q v { s with heap := h', toks := tk }) : wpAny (model prog w) A (eval e env) Q E s := x.run s Q E B G h
def RdP (d : PyData) : HP := fun h v => ∃ as, Reads h v d as
def TupP (Ps : List HP) : HP := fun h v => ∃ a items, v = .ref a ∧ h.IsTuple a items ∧ All2 h Ps items.toList
def LstP (Ps : List HP) : HP := fun h v => ∃ a items, v = .ref a ∧ h.IsList a items ∧ All2 h Ps items.toList

theorem all2_keeps {h h' : Heap} {Ps : List HP} {vs : List Value} (hm : ∀ P ∈ Ps, Mono P) (k : ∀ b o, h.get? b = some o → h'.get? b = some o) (x : All2 h Ps vs) : All2 h' Ps vs := by
  induction x with
  | nil => exact .nil
  | cons p _ ih => exact .cons (hm _ (List.mem_cons_self ..) _ _ _ k p) (ih fun P hP => hm P (List.mem_cons_of_mem _ hP))
theorem mono_Rd (d : PyData) : Mono (RdP d) := fun _ _ _ k ⟨as, r⟩ => ⟨as, Reads.keeps k r⟩
theorem isT_keeps {h h' : Heap} {a : Addr} {items : Array Value} (x : h.IsTuple a items) (k : ∀ b o, h.get? b = some o → h'.get? b = some o) : h'.IsTuple a items := let ⟨o, ho, r⟩ := x; ⟨o, k _ _ ho, r⟩
theorem isL_keeps {h h' : Heap} {a : Addr} {items : Array Value} (x : h.IsList a items) (k : ∀ b o, h.get? b = some o → h'.get? b = some o) : h'.IsList a items := let ⟨o, ho, r⟩ := x; ⟨o, k _ _ ho, r⟩
theorem mono_Tup {Ps : List HP} (hm : ∀ P ∈ Ps, Mono P) : Mono (TupP Ps) := fun _ _ _ k ⟨a, items, e, ha, hs⟩ => ⟨a, items, e, isT_keeps ha k, all2_keeps hm k hs⟩
theorem mono_Lst {Ps : List HP} (hm : ∀ P ∈ Ps, Mono P) : Mono (LstP Ps) := fun _ _ _ k ⟨a, items, e, ha, hs⟩ => ⟨a, items, e, isL_keeps ha k, all2_keeps hm k hs⟩
theorem mono_Thing (w : World) (k f : Nat) : Mono fun h v => Thing w h k f v := fun _ _ _ k x => x.keeps k

section
variable {w : World} {A : Around} {env : Env} {pos : Pos}

theorem EvL.nil : EvL w A env pos [] [] := ⟨by simp, by simp, fun s Q E B _ h => wpAny_items_nil (h [] s.heap s.toks (fun _ _ e => e) .nil)⟩
theorem EvL.cons {e : PySem.Expr} {es : List PySem.Expr} {P : HP} {Ps : List HP} (x : Ev w A env e P) (xs : EvL w A env pos es Ps) (hl : (P :: Ps).length ≤ 30 := by simp) (he : starEach (e :: es) env = (false, eval e env) :: starEach es env := by rfl) :
    EvL w A env pos (e :: es) (P :: Ps) := by
  refine ⟨fun P' hP => ?_, hl, fun s Q E B K h => ?_⟩
  · rcases List.mem_cons.mp hP with rfl | hP
    · exact x.mono
    · exact xs.mono _ hP
  · refine wpAny_items_cons (x.run s _ E B K fun v h₁ t₁ k₁ p => ?_) he
    refine xs.run _ _ E B (K.keeps k₁) fun vs h₂ t₂ k₂ ps => ?_
    exact h (v :: vs) h₂ t₂ (fun b o e => k₂ _ _ (k₁ _ _ e)) (.cons (x.mono _ _ _ (ext_le (fun _ _ e => e) k₂) p) (all2_keeps xs.mono (ext_le k₁ fun _ _ e => e) ps))

theorem all2_len {h : Heap} {Ps : List HP} {vs : List Value} (x : All2 h Ps vs) : Ps.length = vs.length := by
  induction x with
  | nil => rfl
  | cons _ _ ih => simp [ih]

theorem Ev.tup {k : Nat} {es : List PySem.Expr} {Ps : List HP} (x : EvL w A env pos es Ps) : Ev w A env (.Tuple es k pos) (TupP Ps) := by
  refine ⟨mono_Tup x.mono, fun s Q E B K h => wpAny_Tuple (x.run s _ E B K fun vs h₁ t₁ k₁ p => ⟨?_, ?_⟩)⟩
  · have := all2_len p; have := x.len; rw [sizeLine_eq]; omega
  · have kp : ∀ b o, h₁.get? b = some o → (h₁.push { cls := .type "tuple", data := .seq vs.toArray }).get? b = some o := fun b o e => Heap.get?_push_of_some _ e
    refine h _ (h₁.push _) t₁ (fun b o e => kp _ _ (k₁ _ _ e)) ⟨_, vs.toArray, rfl, ⟨_, ext_get (Heap.get?_push_size _ rfl) (.inl (none_size k₁)), rfl, _, rfl⟩, ?_⟩
    exact all2_keeps x.mono (ext_le (fun _ _ e => e) kp) (by simpa using p)
theorem Ev.lst {es : List PySem.Expr} {Ps : List HP} (x : EvL w A env pos es Ps) : Ev w A env (.List es pos) (LstP Ps) := by
  refine ⟨mono_Lst x.mono, fun s Q E B K h => wpAny_List (x.run s _ E B K fun vs h₁ t₁ k₁ p => ⟨?_, ?_⟩)⟩
  · have := all2_len p; have := x.len; rw [sizeLine_eq]; omega
  · have kp : ∀ b o, h₁.get? b = some o → (h₁.push { cls := .type "list", data := .seq vs.toArray }).get? b = some o := fun b o e => Heap.get?_push_of_some _ e
    refine h _ (h₁.push _) t₁ (fun b o e => kp _ _ (k₁ _ _ e)) ⟨_, vs.toArray, rfl, ⟨_, ext_get (Heap.get?_push_size _ rfl) (.inl (none_size k₁)), rfl, _, rfl⟩, ?_⟩
    exact all2_keeps x.mono (ext_le (fun _ _ e => e) kp) (by simpa using p)

theorem Ev.int {i : Int} {k : Nat} : Ev w A env (.Constant (.int i) k pos) (RdP (.int i)) :=
  ⟨mono_Rd _, fun s Q E B _ h => wpAny_Constant_int (h _ s.heap (s.toks + 1) (fun _ _ e => e) ⟨_, .int i _⟩)⟩
theorem Ev.bool {c : Bool} {k : Nat} : Ev w A env (.Constant (.bool c) k pos) (RdP (.bool c)) :=
  ⟨mono_Rd _, fun s Q E B _ h => wpAny_Constant_bool (h _ s.heap s.toks (fun _ _ e => e) ⟨_, .bool c⟩)⟩
theorem Ev.str {x : Str} {k : Nat} : Ev w A env (.Constant (.str x) k pos) (RdP (.str x)) :=
  ⟨mono_Rd _, fun s Q E B _ h => wpAny_Constant_str (h _ s.heap (s.toks + 1) (fun _ _ e => e) ⟨_, .str x _⟩)⟩

theorem fresh_sys {h : Heap} (X : (KF w).In h) : (h.objs.size == sysModules) = false := by
  obtain ⟨o, ho⟩ : ∃ o, (KF w).lookup 79 = some o := ⟨_, rfl⟩
  have := Heap.lt_size (X _ _ ho)
  have h2 : h.objs.size ≠ sysModules := by
    intro e
    rw [e] at this
    exact absurd this (by decide)
  simpa using h2
theorem reads_all {h : Heap} : ∀ (ds : List PyData) (vs : List Value), All2 h (ds.map RdP) vs → ∃ as, ReadsAll h vs ds as
  | [], _, x => by cases x; exact ⟨_, .nil⟩
  | d :: ds, _, x => by
    cases x with
    | cons p q =>
      obtain ⟨as, r⟩ := p
      obtain ⟨bs, r'⟩ := reads_all ds _ q
      exact ⟨_, .cons r r'⟩
theorem Ev.tupR {k : Nat} {es : List PySem.Expr} {ds : List PyData} (x : EvL w A env pos es (ds.map RdP)) : Ev w A env (.Tuple es k pos) (RdP (.tuple ds)) := by
  refine ⟨mono_Rd _, fun s Q E B K h => (Ev.tup x).run s Q E B K fun v h₁ t₁ k₁ p => h v h₁ t₁ k₁ ?_⟩
  obtain ⟨a, items, rfl, ⟨o, ho, hc, n, hd⟩, hs⟩ := p
  obtain ⟨as, r⟩ := reads_all _ _ hs
  exact ⟨_, .tuple ho hc hd r⟩
theorem Ev.lstR {es : List PySem.Expr} {ds : List PyData} (x : EvL w A env pos es (ds.map RdP)) : Ev w A env (.List es pos) (RdP (.list ds)) := by
  refine ⟨mono_Rd _, fun s Q E B K h => (Ev.lst x).run s Q E B K fun v h₁ t₁ k₁ p => h v h₁ t₁ k₁ ?_⟩
  obtain ⟨a, items, rfl, ⟨o, ho, hc, n, hd⟩, hs⟩ := p
  obtain ⟨as, r⟩ := reads_all _ _ hs
  exact ⟨_, .list ho hc hd r⟩
theorem Ev.thing {e : PySem.Expr} {d : PyData} (x : Ev w A env e (RdP d)) (k f : Nat) (hd : pdOf k f = some d := by rfl) : Ev w A env e (fun h v => Thing w h k f v) :=
  ⟨mono_Thing w k f, fun s Q E B K h => x.run s Q E B K fun v h₁ t₁ k₁ ⟨_, r⟩ => h v h₁ t₁ k₁ (.pd hd r)⟩
theorem Ev.conv {e : PySem.Expr} {P P' : HP} (x : Ev w A env e P) (hm : Mono P') (hc : ∀ h v, P h v → P' h v) : Ev w A env e P' :=
  ⟨hm, fun s Q E B G h => x.run s Q E B G fun v h' tk k p => h v h' tk k (hc _ _ p)⟩
theorem Ev.lstR0 : Ev w A env (.List [] pos) (RdP (.list [])) := Ev.lstR (ds := []) EvL.nil
theorem Ev.lstR1 {e : PySem.Expr} {d : PyData} (x : Ev w A env e (RdP d)) (he : starEach [e] env = (false, eval e env) :: starEach [] env := by rfl) : Ev w A env (.List [e] pos) (RdP (.list [d])) := Ev.lstR (ds := [d]) (.cons x .nil (by simp) he)
theorem Ev.lstR2 {e e' : PySem.Expr} {d d' : PyData} (x : Ev w A env e (RdP d)) (x' : Ev w A env e' (RdP d')) (he : starEach [e, e'] env = (false, eval e env) :: starEach [e'] env := by rfl) (he' : starEach [e'] env = (false, eval e' env) :: starEach [] env := by rfl) :
    Ev w A env (.List [e, e'] pos) (RdP (.list [d, d'])) := Ev.lstR (ds := [d, d']) (.cons x (.cons x' .nil (by simp) he') (by simp) he)
theorem Ev.tupR1 {k : Nat} {e : PySem.Expr} {d : PyData} (x : Ev w A env e (RdP d)) (he : starEach [e] env = (false, eval e env) :: starEach [] env := by rfl) : Ev w A env (.Tuple [e] k pos) (RdP (.tuple [d])) := Ev.tupR (ds := [d]) (.cons x .nil (by simp) he)
theorem Ev.tupR2 {k : Nat} {e e' : PySem.Expr} {d d' : PyData} (x : Ev w A env e (RdP d)) (x' : Ev w A env e' (RdP d')) (he : starEach [e, e'] env = (false, eval e env) :: starEach [e'] env := by rfl) (he' : starEach [e'] env = (false, eval e' env) :: starEach [] env := by rfl) :
    Ev w A env (.Tuple [e, e'] k pos) (RdP (.tuple [d, d'])) := Ev.tupR (ds := [d, d']) (.cons x (.cons x' .nil (by simp) he') (by simp) he)

theorem Ev.set1 {e : PySem.Expr} {k : Nat} {P : HP} {K : Type} [DecidableEq K] {knd : KeyKind prog w K} (x : Ev w A env e P) {key : K} (hv : ∀ h v, P h v → knd.is key v = true ∧ v.scannable = true)
    (hc : kdsCode (KF w) env.code = true) (hr : (displayRoad k [e] == .constants) = false := by rfl) (hr' : (displayRoad k [e] == .unsure) = false := by rfl) (hp : kdsPlain e = true := by rfl) :
    Ev w A env (.Set [e] k pos) (fun h v => ∃ a o ep t u, v = .ref a ∧ h.get? a = some o ∧ o.ExactSet ∧ o.data = .set #[(knd.hash key, u)] ep t ∧ t.fits 1 = true ∧ knd.is key u = true) := by
  refine ⟨fun h h' v kp ⟨a, o, ep, t, u, e, ho, r⟩ => ⟨a, o, ep, t, u, e, kp _ _ ho, r⟩, fun s Q E B X h => ?_⟩
  rw [arm_eval_Set]
  refine wpAny_bind (wpAny_standAt ?_)
  refine wpAny_bind (kds_main X.K hc fun b => ?_)
  rw [kds_star [e] (by simp [hp]), List.map_map]
  refine kds_core (ts := (evalEach [e] env).map fun t => do let v ← t; standAt pos; pure v) hr ?_ ?_ ?_ fun led => ?_
  · refine List.findIdx?_eq_none_iff.mpr fun x hx => ?_
    obtain ⟨t, _, rfl⟩ := List.mem_map.mp hx
    rfl
  · rw [List.length_map, kds_len]; simp
  · rw [List.map_map]; rfl
  · refine kds_all pos [e] _ _ ?_
    have kp : ∀ b o, s.heap.get? b = some o → (s.heap.push { cls := .type "set", dict := none, data := .set #[] 0 (.fresh 0 0 led) }).get? b = some o := fun b o e => Heap.get?_push_of_some _ e
    refine x.run _ _ E B (X.keeps kp) fun v h₁ t₁ k₁ p => ?_
    obtain ⟨hk, hs⟩ := hv _ _ p
    show KdsFill _ _ _ _ _ _ [v] _
    have S0 : h₁.SetOf knd s.heap.objs.size (fun _ => false) 0 := by
      refine ⟨_, #[], 0, _, k₁ _ _ (Heap.get?_push_size _ rfl), ⟨rfl, rfl, rfl⟩, rfl, ?_, ?_, ?_, ?_, rfl⟩
      · intro e he; simp at he
      · simp
      · decide
      · rfl
    refine kds_fill_cons ?_
    show wpAny _ _ (holding [v] (pyHash v >>= fun hh => setAddHashed _ v hh)) _ _ _
    refine wpAny_holding (wpAny_bind (knd.pyHash hk ?_))
    refine wpAny_setAddHashed_of hk hs S0 (by show (0 : Nat) + 1 < 4096; decide) fun h₂ sb S1 => kds_fill_nil hr' ?_
    refine h _ h₂ (t₁ + 1) (fun b o e => ?_) ?_
    · exact sb.extBut b o (Nat.ne_of_lt (Heap.lt_size e)) (k₁ _ _ (kp _ _ e))
    · obtain ⟨o, es, ep, t, ho, hx, hd, hall, hmem, hsz, hf, hn⟩ := S1
      have hn1 : es.toList.length = 1 := by simpa using hn
      match hl : es.toList, hn1 with
      | [(i, u)], _ =>
        rw [hl] at hall
        obtain ⟨⟨key', q1, q2⟩, _⟩ := hall (i, u) (List.mem_singleton.mpr rfl)
        dsimp only at q1 q2
        subst q2
        have he : es = #[(knd.hash key', u)] := by rw [← Array.toArray_toList (xs := es), hl]
        subst he
        have hk' := (hmem key').mpr ⟨_, by rw [hl]; exact List.mem_singleton.mpr rfl, q1⟩
        simp only [Bool.false_or, decide_eq_true_eq] at hk'
        subst hk'
        exact ⟨_, o, ep, t, u, rfl, ext_get ho (.inl (none_size fun _ _ e => e)), hx, hd, hf, q1⟩

theorem Ev.dict2 {k1 k2 v1 v2 : PySem.Expr} {K : Type} [DecidableEq K] {knd : KeyKind prog w K} {P1 P2 : HP} {key1 key2 : K} {z1 z2 : Str}
    (x1 : Ev w A env k1 P1) (y1 : Ev w A env v1 (RdP (.str z1))) (x2 : Ev w A env k2 P2) (y2 : Ev w A env v2 (RdP (.str z2))) (h1 : ∀ h v, P1 h v → knd.is key1 v = true) (h2 : ∀ h v, P2 h v → knd.is key2 v = true) (hne : key1 ≠ key2) :
    Ev w A env (.Dict [some k1, some k2] [v1, v2] pos) (fun h v => ∃ a t1 t2, v = .ref a ∧ (a == sysModules) = false ∧ h.DictOf knd a [(key1, .str z1 t1), (key2, .str z2 t2)]) := by
  refine ⟨fun h h' v kp ⟨a, u1, u2, e, n, d⟩ => ⟨a, u1, u2, e, n, d.keep kp⟩, fun s Q E B X h => ?_⟩
  refine wpAny_Dict_pairs (knd := knd) (pairs := [(eval k1 env, do let x ← eval v1 env; standAt pos; pure x), (eval k2 env, do let x ← eval v2 env; standAt pos; pure x)]) rfl (by simp) (by simp) ?_
  have kp : ∀ b o, s.heap.get? b = some o → (s.heap.push { cls := .type "dict", data := .dict #[] }).get? b = some o := fun b o e => Heap.get?_push_of_some _ e
  refine evalPairs_cons (x1.run _ _ E B (X.keeps kp) fun a1 g1 t1 q1 p1 => wpAny_bind (y1.run _ _ E B ((X.keeps kp).keeps q1) fun b1 g2 t2 q2 p2 => wpAny_bind (wpAny_standAt (wpAny_pure ?_))))
  refine evalPairs_cons (x2.run _ _ E B (((X.keeps kp).keeps q1).keeps q2) fun a2 g3 t3 q3 p3 => wpAny_bind (y2.run _ _ E B ((((X.keeps kp).keeps q1).keeps q2).keeps q3) fun b2 g4 t4 q4 p4 => wpAny_bind (wpAny_standAt (wpAny_pure ?_))))
  obtain ⟨_, p2⟩ := p2
  obtain ⟨_, p4⟩ := p4
  cases p2
  cases p4
  refine evalPairs_nil ⟨[(key1, _), (key2, _)], ⟨h1 _ _ p1, rfl, h2 _ _ p3, rfl, trivial⟩, ?_, fun h' d sb => ?_⟩
  · exact (((((Heap.DictOf.new s.heap).keep q1).keep q2).keep q3).keep q4)
  · rename_i t1 t2
    have hm : merged [] [(key1, Value.str z1 t1), (key2, .str z2 t2)] = [(key1, .str z1 t1), (key2, .str z2 t2)] := by simp [merged, stored, hne]
    rw [hm] at d
    exact h _ h' _ (fun b o e => sb.extBut b o (Nat.ne_of_lt (Heap.lt_size e)) (q4 _ _ (q3 _ _ (q2 _ _ (q1 _ _ (kp _ _ e)))))) ⟨_, t1, t2, rfl, fresh_sys X.K, d.at fun o e => ext_get e (.inl (none_size fun _ _ e => e))⟩

/-- the eight pairs of faces -/
abbrev pairP (w : World) (k : Nat) : HP := TupP [fun h v => Thing w h k 0 v, fun h v => Thing w h k 1 v]
abbrev facesP (w : World) : HP := TupP [pairP w 0, pairP w 1, pairP w 2, pairP w 3, pairP w 4, pairP w 5, pairP w 6, pairP w 7]
abbrev nmP (k : Nat) : HP := TupP [RdP (.str (nameOf k 0)), RdP (.str (nameOf k 1))]
abbrev namesP : HP := TupP [nmP 0, nmP 1, nmP 2, nmP 3, nmP 4, nmP 5, nmP 6, nmP 7]

theorem ev_set0 {i : Int} {k k' : Nat} (hi : i = 1) (hc : kdsCode (KF w) env.code = true) {pos' : Pos} (hr : (displayRoad k [PySem.Expr.Constant (.int i) k' pos'] == .constants) = false := by rfl) (hr' : (displayRoad k [PySem.Expr.Constant (.int i) k' pos'] == .unsure) = false := by rfl) :
    Ev w A env (.Set [.Constant (.int i) k' pos'] k pos) (fun h v => Thing w h 7 0 v) := by
  subst hi
  refine ⟨mono_Thing w 7 0, fun s Q E B X h => (Ev.set1 (knd := intKind prog w) (key := 1) Ev.int ?_ hc hr hr').run s Q E B X fun v h₁ t₁ k₁ p => ?_⟩
  · rintro h v ⟨as, r⟩
    cases r
    exact ⟨rfl, rfl⟩
  · obtain ⟨a, o, ep, t, u, rfl, ho, hx, hd, hf, q⟩ := p
    obtain ⟨t', rfl⟩ := Value.isInt_shape q
    refine h _ h₁ t₁ k₁ (.set0 (t := t') ⟨⟨o, ep, t, ho, hx, ?_, hf⟩, .inl ⟨t', rfl⟩⟩)
    rw [hd, hash_one]; rfl
theorem ev_set1 {c : Bool} {k k' : Nat} (hi : c = true) (hc : kdsCode (KF w) env.code = true) {pos' : Pos} (hr : (displayRoad k [PySem.Expr.Constant (.bool c) k' pos'] == .constants) = false := by rfl) (hr' : (displayRoad k [PySem.Expr.Constant (.bool c) k' pos'] == .unsure) = false := by rfl) :
    Ev w A env (.Set [.Constant (.bool c) k' pos'] k pos) (fun h v => Thing w h 7 1 v) := by
  subst hi
  refine ⟨mono_Thing w 7 1, fun s Q E B X h => (Ev.set1 (knd := boolKind prog w) (key := true) Ev.bool ?_ hc hr hr').run s Q E B X fun v h₁ t₁ k₁ p => ?_⟩
  · rintro h v ⟨as, r⟩
    cases r
    exact ⟨rfl, rfl⟩
  · obtain ⟨a, o, ep, t, u, rfl, ho, hx, hd, hf, q⟩ := p
    cases u <;> simp only [boolKind, Bool.false_eq_true] at q
    have q := eq_of_beq q
    subst q
    refine h _ h₁ t₁ k₁ (.set1 ⟨⟨o, ep, t, ho, hx, ?_, hf⟩, .inr rfl⟩)
    rw [hd, hash_one]; rfl
end
end Mine
end

/-! part Fs -/
section
open PySem PySem.W PyProof.Rows PySem.Calls
set_option maxRecDepth 100000
namespace Mine
theorem mono_tup2 {P Q : HP} (hp : Mono P) (hq : Mono Q) : Mono (TupP [P, Q]) := mono_Tup fun X hX => by
  simp only [List.mem_cons, List.not_mem_nil, or_false] at hX
  rcases hX with rfl | rfl
  · exact hp
  · exact hq
theorem mono_pair (w : World) (k : Nat) : Mono (pairP w k) := mono_tup2 (mono_Thing w k 0) (mono_Thing w k 1)
theorem mono_nm (k : Nat) : Mono (nmP k) := mono_tup2 (mono_Rd _) (mono_Rd _)
theorem mono_faces (w : World) : Mono (facesP w) := mono_Tup fun P hP => by
  simp only [List.mem_cons, List.not_mem_nil, or_false] at hP
  rcases hP with rfl | rfl | rfl | rfl | rfl | rfl | rfl | rfl <;> exact mono_pair w _
theorem mono_names : Mono namesP := mono_Tup fun P hP => by
  simp only [List.mem_cons, List.not_mem_nil, or_false] at hP
  rcases hP with rfl | rfl | rfl | rfl | rfl | rfl | rfl | rfl <;> exact mono_nm _
theorem kds_faces (w : World) : kdsCode (KF w) (.ref 166) = true := rfl
section
variable {b : Bool} {w : World} {A : Around} {s : Shared} {R : Result → Shared → Prop}

theorem names_spec (G : Gd w s.heap) (hr : A.depth < recursionLimit) (B : Heap) (h : ∀ v h' tk, Keeps s.heap h' → namesP (ext B s.heap h') v → R (.ok (.ret v)) { s with heap := h', toks := tk }) :
    codeC b (model prog w) A (.call (.ref 174) ⟨[], []⟩) R s := by
  refine code_fn (binds := []) G (fn_names w) rfl hr (fun _ _ => BindsTo.of_eq (by kernel_rfl)) (by simp) ?_
  intro h₁ hns hk
  refine wpC_of ?_
  refine wpAny_execs_cons ?_
  refine wpAny_Return_some ?_
  refine (use_ev (P := TupP [nmP 0, nmP 1, nmP 2, nmP 3, nmP 4, nmP 5, nmP 6, nmP 7]) ?a ?b B ?c : _)
  case b => exact G.keeps hk
  case c => exact fun v h' tk k p => h v h' tk (fun b o e => k _ _ (hk _ _ e)) (mono_names _ _ _ (ext_le hk fun _ _ e => e) p)
  refine Ev.tup ?_
  · repeat' first | exact Ev.str | exact EvL.nil | refine EvL.cons ?_ ?_ | refine Ev.tup ?_

theorem faces_spec (G : Gd w s.heap) (hr : A.depth < recursionLimit) (B : Heap) (h : ∀ v h' tk, Keeps s.heap h' → facesP w (ext B s.heap h') v → R (.ok (.ret v)) { s with heap := h', toks := tk }) :
    codeC b (model prog w) A (.call (.ref 167) ⟨[], []⟩) R s := by
  refine code_fn (binds := []) G (fn_faces w) rfl hr (fun _ _ => BindsTo.of_eq (by kernel_rfl)) (by simp) ?_
  intro h₁ hns hk
  refine wpC_of ?_
  refine wpAny_execs_cons ?_
  refine wpAny_Return_some ?_
  refine (use_ev (P := TupP [pairP w 0, pairP w 1, pairP w 2, pairP w 3, pairP w 4, pairP w 5, pairP w 6, pairP w 7]) ?a ?b B ?c : _)
  case b => exact G.keeps hk
  case c => exact fun v h' tk k p => h v h' tk (fun b o e => k _ _ (hk _ _ e)) (mono_faces w _ _ _ (ext_le hk fun _ _ e => e) p)
  refine Ev.tup ?_
  · refine EvL.cons (Ev.tup (EvL.cons (Ev.int.thing 0 0) (EvL.cons (Ev.bool.thing 0 1) EvL.nil))) ?_
    refine EvL.cons (Ev.tup (EvL.cons (Ev.int.thing 1 0) (EvL.cons (Ev.bool.thing 1 1) EvL.nil))) ?_
    refine EvL.cons (Ev.tup (EvL.cons ((Ev.tupR2 Ev.int Ev.int).thing 2 0) (EvL.cons ((Ev.tupR2 Ev.bool Ev.bool).thing 2 1) EvL.nil))) ?_
    refine EvL.cons (Ev.tup (EvL.cons (Ev.str.thing 3 0) (EvL.cons (Ev.str.thing 3 1) EvL.nil))) ?_
    refine EvL.cons (Ev.tup (EvL.cons ((Ev.lstR1 Ev.int).thing 4 0) (EvL.cons ((Ev.lstR1 Ev.bool).thing 4 1) EvL.nil))) ?_
    refine EvL.cons (Ev.tup (EvL.cons ?_ (EvL.cons ?_ EvL.nil))) ?_
    rotate_left 2
    refine EvL.cons (Ev.tup (EvL.cons ((Ev.lstR2 (Ev.tupR1 Ev.int) Ev.lstR0).thing 6 0) (EvL.cons ((Ev.lstR2 (Ev.tupR1 Ev.bool) Ev.lstR0).thing 6 1) EvL.nil))) ?_
    refine EvL.cons ?_ EvL.nil
    refine Ev.tup ?_
    refine EvL.cons ?_ ?_
    · refine ev_set0 ?_ ?_
      · rfl
      · exact kds_faces w
    refine EvL.cons ?_ EvL.nil
    · refine ev_set1 ?_ ?_
      · rfl
      · exact kds_faces w
    · refine Ev.conv (Ev.dict2 (knd := intKind prog w) (key1 := 0) (key2 := 1) (z1 := "a") (z2 := "b") (P1 := RdP (.int 0)) (P2 := RdP (.int 1)) ?_ ?_ ?_ ?_ ?_ ?_ ?_) (mono_Thing w 5 0) ?_
      · exact Ev.int
      · exact Ev.str
      · exact Ev.int
      · exact Ev.str
      · rintro h v ⟨as, r⟩; cases r; rfl
      · rintro h v ⟨as, r⟩; cases r; rfl
      · decide
      rintro h v ⟨a, t1, t2, rfl, hs, d⟩
      exact .dict0 hs d
    · refine Ev.conv (Ev.dict2 (knd := boolKind prog w) (key1 := true) (key2 := false) (z1 := "b") (z2 := "a") (P1 := RdP (.bool true)) (P2 := RdP (.bool false)) ?_ ?_ ?_ ?_ ?_ ?_ ?_) (mono_Thing w 5 1) ?_
      · exact Ev.bool
      · exact Ev.str
      · exact Ev.bool
      · exact Ev.str
      · rintro h v ⟨as, r⟩; cases r; rfl
      · rintro h v ⟨as, r⟩; cases r; rfl
      · decide
      rintro h v ⟨a, t1, t2, rfl, hs, d⟩
      exact .dict1 hs d
end
end Mine
end

/-! part Sx -/
section
open PySem PySem.W PyProof.Rows PySem.Calls
set_option maxRecDepth 100000
namespace Mine

/-- a pair of a kind and a face -/
def prP (x : Nat × Nat) : HP := fun h v => ∃ t a b, v = .ref t ∧ h.IsTuple t #[.int x.1 a, .int x.2 b]
abbrev prsP (ps : List (Nat × Nat)) : HP := LstP (ps.map prP)
abbrev thP (w : World) (x : Nat × Nat) : HP := fun h v => Thing w h x.1 x.2 v
theorem mono_pr (x : Nat × Nat) : Mono (prP x) := fun _ _ _ k ⟨t, a, b, e, i⟩ => ⟨t, a, b, e, isT_keeps i k⟩
theorem mono_prs (ps : List (Nat × Nat)) : Mono (prsP ps) := mono_Lst fun P hP => by
  obtain ⟨x, _, rfl⟩ := List.mem_map.mp hP
  exact mono_pr x

theorem all2_get {h : Heap} : ∀ {Ps : List HP} {vs : List Value} {i : Nat} {P : HP}, All2 h Ps vs → Ps[i]? = some P → ∃ v, vs[i]? = some v ∧ P h v
  | _ :: _, _, 0, _, .cons p _, e => by cases e; exact ⟨_, rfl, p⟩
  | _ :: _, _, i + 1, _, .cons _ q, e => by
    obtain ⟨v, e', p⟩ := all2_get (i := i) q (by simpa using e)
    exact ⟨v, by simpa using e', p⟩
theorem all2_get' {h : Heap} : ∀ {Ps : List HP} {vs : List Value} {i : Nat} {v : Value}, All2 h Ps vs → vs[i]? = some v → ∃ P, Ps[i]? = some P ∧ P h v
  | _, _ :: _, 0, _, .cons p _, e => by cases e; exact ⟨_, rfl, p⟩
  | _, _ :: _, i + 1, _, .cons _ q, e => by
    obtain ⟨v, e', p⟩ := all2_get' (i := i) q (by simpa using e)
    exact ⟨v, by simpa using e', p⟩
theorem all2_append {h : Heap} {Ps Qs : List HP} {vs us : List Value} (x : All2 h Ps vs) (y : All2 h Qs us) : All2 h (Ps ++ Qs) (vs ++ us) := by
  induction x with
  | nil => exact y
  | cons p _ ih => exact .cons p ih
theorem all2_take {h : Heap} (n : Nat) {Ps : List HP} {vs : List Value} (x : All2 h Ps vs) : All2 h (Ps.take n) (vs.take n) := by
  induction x generalizing n with
  | nil => cases n <;> exact .nil
  | cons p _ ih => cases n with
    | zero => exact .nil
    | succ n => exact .cons p (ih n)
theorem all2_drop {h : Heap} (n : Nat) {Ps : List HP} {vs : List Value} (x : All2 h Ps vs) : All2 h (Ps.drop n) (vs.drop n) := by
  induction x generalizing n with
  | nil => cases n <;> exact .nil
  | cons p q ih => cases n with
    | zero => exact .cons p q
    | succ n => exact ih n

section
variable {b : Bool} {w : World} {A : Around} {E : Value → Shared → Prop} {s : Shared} {env : Env}

theorem assign2 {x y : Str} {p1 p2 : Pos} {k : Nat} {pos : Pos} {t : Addr} {v1 v2 : Value} {m : Str → Option Value} {Q : Unit → Shared → Prop} (hh : A.handled = none) (ht : s.heap.IsTuple t #[v1, v2]) (hn : s.heap.Ns env.locals m)
    (hx : env.kindOf x = some .local) (hy : env.kindOf y = some .local)
    (h : ∀ h' tk, h'.Ns env.locals (fun z => if z = y then some v2 else if z = x then some v1 else m z) → (∀ b o, b ≠ env.locals → s.heap.get? b = some o → h'.get? b = some o) → Q () { s with heap := h', toks := tk })
    (hp : (env.scope.kind == .class || (env.scope.kind == .module && env.locals != env.globals)) = false := by rfl) :
    wpAny (model prog w) A (assign (.Tuple [.Name x p1, .Name y p2] k pos) env (.ref t)) Q E s := by
  refine wpAny_assign_Tuple hh ht rfl rfl fun h₁ e₁ => ?_
  have k₁ : ∀ b o, s.heap.get? b = some o → h₁.get? b = some o := fun b o e => e₁ b o (Nat.ne_of_lt (Heap.lt_size e)) e
  refine wpAny_assignInOrder_more ?_
  show wpAny _ _ (assign (.Name x p1) env v1) _ _ _
  refine wpAny_assign_Name (wpAny_storeName_local hx (hn.keeps k₁) (fun h₂ n₂ e₂ => ?_) hp)
  refine wpAny_assignInOrder_more ?_
  show wpAny _ _ (assign (.Name y p2) env v2) _ _ _
  refine wpAny_assign_Name (wpAny_storeName_local hy n₂ (fun h₃ n₃ e₃ => ?_) hp)
  exact wpAny_assignInOrder_none (h h₃ _ n₃ fun b o q e => e₃.extBut b o q (e₂.extBut b o q (k₁ b o e)))

theorem assignR2 {x y : Str} {p1 p2 : Pos} {k : Nat} {pos : Pos} {v : Value} {pf : Nat × Nat} {m : Str → Option Value} {Q : Unit → Shared → Prop} (hh : A.handled = none) (ht : prP pf s.heap v) (hn : s.heap.Ns env.locals m)
    (hx : env.kindOf x = some .local) (hy : env.kindOf y = some .local)
    (h : ∀ h' tk a b, h'.Ns env.locals (fun z => if z = y then some (.int pf.2 b) else if z = x then some (.int pf.1 a) else m z) → (∀ b o, b ≠ env.locals → s.heap.get? b = some o → h'.get? b = some o) → Q () { s with heap := h', toks := tk })
    (hp : (env.scope.kind == .class || (env.scope.kind == .module && env.locals != env.globals)) = false := by rfl) :
    wpAny (model prog w) A (assign (.Tuple [.Name x p1, .Name y p2] k pos) env v) Q E s := by
  obtain ⟨t, a, b, rfl, ht⟩ := ht
  exact assign2 hh ht hn hx hy (fun h' tk n k => h h' tk a b n k) hp

def selP (sel : Nat → Option HP) (n : Nat) : List HP := (List.range n).filterMap sel
theorem selP_succ (sel : Nat → Option HP) (n : Nat) : selP sel (n + 1) = selP sel n ++ (sel n).toList := by
  unfold selP
  rw [List.range_succ, List.filterMap_append]
  congr 1

/-- what a turn of a comprehension yields: `B` the base, `h` before the turn, `h'` after -/
def Got : Option HP → Option Value → Heap → Heap → Heap → Prop
  | some P, some x, B, h, h' => ∃ G, Keeps G h' ∧ (∀ a, h.get? a ≠ none → B.get? a = none → G.get? a = none) ∧ P G x
  | none, none, _, _, _ => True
  | _, _, _, _, _ => False

theorem Got.old {P : HP} {x : Value} {B h h' : Heap} {C : Addr} (hp : P B x) (k : Keeps B h) (hC : B.get? C = none) (k' : ∀ b o, b ≠ C → h.get? b = some o → h'.get? b = some o) : Got (some P) (some x) B h h' :=
  ⟨B, fun b o e => k' b o (fun q => by rw [q, hC] at e; cases e) (k b o e), fun _ _ e => e, hp⟩

/-- a comprehension over a list, no test or one -/
theorem X_comp_list {elt target iter : PySem.Expr} {ifs : List PySem.Expr} {scope : Scope} {cl : List (Str × Addr)} {pos : Pos} {Q : Value → Shared → Prop} (hif : ifs.length ≤ 1) (hh : A.handled = none)
    (hclos : closureFor scope env = pure cl) (hcell : ∀ y ∈ scope.names, y.2 ≠ .cell) (hkind : scope.kind = .function) (hnames : ∀ y ∈ scope.names, y.2 = .local → scope.names.lookup y.1 = some .local)
    (sel : Nat → Option HP) (hm : ∀ i P, sel i = some P → Mono P)
    (h : wpC b (model prog w) A (eval iter env) (fun xv s₁ => ∃ l items B, xv = .ref l ∧ s₁.heap.IsList l items ∧ items.size ≤ sizeLine ∧ Keeps B s₁.heap ∧
      (∀ i v C h tk m, items[i]? = some v → Keeps s₁.heap h → h.Ns C m → s₁.heap.objs.size < C →
        let cenv := compEnvC scope cl C env
        let fin : Option Value → Shared → Prop := fun y s' => (∃ h' tk, s' = { s₁ with heap := h', toks := tk }) ∧ (∀ b o, b ≠ C → h.get? b = some o → s'.heap.get? b = some o) ∧ (∃ m', s'.heap.Ns C m') ∧ Got (sel i) y B h s'.heap
        wpC b (model prog w) A (assign target cenv v) (fun _ s₂ =>
          (match ifs with
            | [] => wpC b (model prog w) A (eval elt cenv) (fun x s₃ => fin (some x) s₃) (fun _ _ => False) s₂
            | c :: _ => wpC b (model prog w) A (isTrue c cenv (eval c cenv)) (fun ok s₂ => if ok = true then wpC b (model prog w) A (eval elt cenv) (fun x s₃ => fin (some x) s₃) (fun _ _ => False) s₂ else fin none s₂) (fun _ _ => False) s₂)) (fun _ _ => False) { s₁ with heap := h, toks := tk }) ∧
      (∀ h' tk a ys nn G, h'.get? a = some { cls := .type "list", data := .seq ys.toArray nn } → All2 G (selP sel items.size) ys → Keeps B G → Keeps G h' → Keeps s₁.heap h' → s₁.heap.get? a = none → G.get? a = none → (∀ c, s₁.heap.get? c ≠ none → B.get? c = none → G.get? c = none) →
        Q (.ref a) { s₁ with heap := h', toks := tk })) E s)
    (hs : ∀ x, foldedSetIterable iter env x = pure x := by intro _; rfl) :
    wpC b (model prog w) A (eval (.ListComp elt [⟨target, iter, ifs, 0⟩] scope pos) env) Q E s := by
  refine X_ListComp hif hclos hcell hkind hnames (wpC_mono h (fun xv s₁ h₁ => ?_) fun _ _ e => e) hs
  obtain ⟨l, items, B, rfl, hl, hsz, kB, turn, post⟩ := h₁
  refine wpAny_pyIter_list hl ?_
  have kp : Keeps s₁.heap (s₁.heap.push { cls := .type "list_iterator", data := .fields #[.ref l, .int 0 0] }) := fun b o e => Heap.get?_push_of_some _ e
  have hlI : l ≠ s₁.heap.objs.size := let ⟨o, ho, _⟩ := hl; Nat.ne_of_lt (Heap.lt_size ho)
  have hsz2 : (s₁.heap.push { cls := .type "list_iterator", data := .fields #[.ref l, .int 0 0] }).objs.size = s₁.heap.objs.size + 1 := Heap.size_push _ _
  have ne : ∀ a, s₁.heap.objs.size ≤ a → s₁.heap.get? a = none := fun a ha => by
    cases e : s₁.heap.get? a with
    | none => rfl
    | some o => exact absurd (Heap.lt_size e) (Nat.not_lt.mpr ha)
  have neB : ∀ a, s₁.heap.objs.size ≤ a → B.get? a = none := fun a ha => by
    cases e : B.get? a with
    | none => rfl
    | some o => have := ne a ha; rw [kB _ _ e] at this; cases this
  refine ⟨s₁.heap.objs.size, [s₁.heap.objs.size, l], [s₁.heap.objs.size], items.size, _, _,
    fun i ys h => Keeps s₁.heap h ∧ ∃ G, All2 G (selP sel i) ys ∧ Keeps B G ∧ Keeps G h ∧ (∀ a, s₁.heap.objs.size ≤ a → a ≤ s₁.heap.objs.size + 2 → G.get? a = none) ∧ (∀ c, s₁.heap.get? c ≠ none → B.get? c = none → G.get? c = none), rfl,
    ⟨Walks.list hh _ l hlI items, hsz, ⟨⟨_, Heap.get?_push_size _ rfl, rfl, rfl⟩, isL_keeps hl kp⟩, ?_, ?_, ?_, ?_, ?_⟩, ?_⟩
  · intro b hb
    dsimp only
    rw [hsz2]
    have hl' : l < s₁.heap.objs.size := let ⟨o, ho, _⟩ := hl; Heap.lt_size ho
    simp only [List.mem_cons, List.not_mem_nil, or_false] at hb
    rcases hb with rfl | rfl
    · exact Nat.lt_succ_self _
    · exact Nat.lt_succ_of_lt hl'
  · intro i v s₂ Q E st q
    exact listIter_go st.1 q
  · intro h' k
    exact ⟨fun b o e => k b o (kp b o e), B, .nil, fun _ _ e => e, fun b o e => k b o (kp b o (kB b o e)), fun a ha _ => neB a ha, fun _ _ e => e⟩
  · rintro i ys h h' hk ⟨ks, G, ha, k0, k1, hG, hG2⟩
    dsimp only at hk
    rw [hsz2] at hk
    refine ⟨fun b o e => ?_, G, ha, k0, fun b o e => ?_, hG, hG2⟩
    · have nb : ∀ a, s₁.heap.objs.size ≤ a → b ≠ a := fun a h1 q => by rw [q, ne a h1] at e; cases e
      refine hk b o (nb _ (Nat.le_succ _)) (nb _ (by omega)) ?_ (ks b o e)
      simpa using nb _ (Nat.le_refl _)
    · have nb : ∀ a, s₁.heap.objs.size ≤ a → a ≤ s₁.heap.objs.size + 2 → b ≠ a := fun a h1 h2 q => by rw [q, hG a h1 h2] at e; cases e
      refine hk b o (nb _ (Nat.le_succ _) (by omega)) (nb _ (by omega) (Nat.le_refl _)) ?_ (k1 b o e)
      simpa using nb _ (Nat.le_refl _) (by omega)
  · rintro i v ys m s₂ hi hv ⟨kh, G, ha, k0, k1, hG, hG2⟩ hN hB ⟨h, tk, rfl⟩ ⟨hSt, oD, hoD⟩
    dsimp only at hN hB hSt hoD ⊢
    rw [hsz2] at hN hoD ⊢
    have hC : h.get? (s₁.heap.objs.size + 1 + 1) ≠ none := by
      obtain ⟨o, _, _, e, _⟩ := id hN
      rw [e]; simp
    have hI : h.get? s₁.heap.objs.size ≠ none := by
      obtain ⟨o, e, _⟩ := hSt.1
      rw [e]; simp
    have hD : h.get? (s₁.heap.objs.size + 1) ≠ none := by rw [hoD]; simp
    have T := turn i v _ h tk m hv kh hN (by omega)
    have close : ∀ (y : Option Value) (s₃ : Shared), ((∃ h' tk, s₃ = { s₁ with heap := h', toks := tk }) ∧ (∀ b o, b ≠ s₁.heap.objs.size + 1 + 1 → h.get? b = some o → s₃.heap.get? b = some o) ∧ (∃ m', s₃.heap.Ns (s₁.heap.objs.size + 1 + 1) m') ∧ Got (sel i) y B h s₃.heap) →
        (∃ h' tk', s₃ = { s₁ with heap := h', toks := tk' }) ∧ (∀ b o, b ≠ s₁.heap.objs.size + 1 + 1 → h.get? b = some o → s₃.heap.get? b = some o) ∧ (∃ m', s₃.heap.Ns (s₁.heap.objs.size + 1 + 1) m') ∧
          Keeps s₁.heap s₃.heap ∧ ∃ G, All2 G (selP sel (i + 1)) (ys ++ y.toList) ∧ Keeps B G ∧ Keeps G s₃.heap ∧ (∀ a, s₁.heap.objs.size ≤ a → a ≤ s₁.heap.objs.size + 2 → G.get? a = none) ∧ (∀ c, s₁.heap.get? c ≠ none → B.get? c = none → G.get? c = none) := by
      rintro y s₃ ⟨e3, hk3, hn3, got⟩
      refine ⟨e3, hk3, hn3, fun b o e => hk3 b o (fun q => by rw [q, ne _ (by omega)] at e; cases e) (kh b o e), ?_⟩
      rw [selP_succ]
      have kG3 : Keeps G s₃.heap := fun b o e => hk3 b o (fun q => by rw [q, hG _ (by omega) (Nat.le_refl _)] at e; cases e) (k1 b o e)
      cases hsel : sel i with
      | none =>
        rw [hsel] at got
        cases y with
        | some _ => exact got.elim
        | none => exact ⟨G, by simpa using ha, k0, kG3, hG, hG2⟩
      | some P =>
        rw [hsel] at got
        cases y with
        | none => exact got.elim
        | some x =>
          obtain ⟨G', q1, q2, q3⟩ := got
          have hG' : ∀ a, s₁.heap.objs.size ≤ a → a ≤ s₁.heap.objs.size + 2 → G'.get? a = none := fun a h1 h2 => by
            refine q2 a ?_ (neB a h1)
            have : a = s₁.heap.objs.size ∨ a = s₁.heap.objs.size + 1 ∨ a = s₁.heap.objs.size + 1 + 1 := by omega
            rcases this with rfl | rfl | rfl
            · exact hI
            · exact hD
            · exact hC
          have hG2' : ∀ c, s₁.heap.get? c ≠ none → B.get? c = none → G'.get? c = none := fun c h1 h2 => by
            refine q2 c ?_ h2
            obtain ⟨o, ho⟩ := Option.ne_none_iff_exists'.mp h1
            rw [kh _ _ ho]; simp
          refine ⟨hideAll (ext B s₁.heap s₃.heap) [s₁.heap.objs.size, s₁.heap.objs.size + 1, s₁.heap.objs.size + 2], ?_, ?_, fun b o e => of_ext (of_hideAll _ e), ?_, ?_⟩
          · have inn : ∀ {H : Heap}, (∀ a, s₁.heap.objs.size ≤ a → a ≤ s₁.heap.objs.size + 2 → H.get? a = none) → (∀ c, s₁.heap.get? c ≠ none → B.get? c = none → H.get? c = none) → Keeps H s₃.heap →
                Keeps H (hideAll (ext B s₁.heap s₃.heap) [s₁.heap.objs.size, s₁.heap.objs.size + 1, s₁.heap.objs.size + 2]) := by
              intro H hH hH2 kH b o e
              refine hideAll_get _ (ext_get (kH _ _ e) ?_) fun hb => ?_
              · by_cases z : s₁.heap.get? b = none
                · exact .inl z
                · refine .inr fun z' => ?_
                  rw [hH2 b z z'] at e; cases e
              · simp only [List.mem_cons, List.not_mem_nil, or_false] at hb
                rcases hb with rfl | rfl | rfl
                · rw [hH _ (Nat.le_refl _) (by omega)] at e; cases e
                · rw [hH _ (by omega) (by omega)] at e; cases e
                · rw [hH _ (by omega) (Nat.le_refl _)] at e; cases e
            refine all2_append (all2_keeps ?_ (inn hG hG2 kG3) ha) (.cons (hm i P hsel _ _ _ (inn hG' hG2' q1) q3) .nil)
            intro P' hP
            obtain ⟨j, _, hj⟩ := List.mem_filterMap.mp hP
            exact hm j P' hj
          · intro b o e
            refine hideAll_get _ (ext_get (kG3 b o (k0 b o e)) (.inr (by rw [e]; simp))) fun hb => ?_
            have := Heap.lt_size (kB _ _ e)
            simp only [List.mem_cons, List.not_mem_nil, or_false] at hb
            rcases hb with rfl | rfl | rfl
            · exact absurd this (Nat.lt_irrefl _)
            · exact absurd this (Nat.not_lt.mpr (Nat.le_succ _))
            · exact absurd this (Nat.not_lt.mpr (by omega))
          · intro a h1 h2
            refine hideAll_none _ ?_
            have : a = s₁.heap.objs.size ∨ a = s₁.heap.objs.size + 1 ∨ a = s₁.heap.objs.size + 2 := by omega
            simpa using this
          · intro c h1 h2
            cases e : (hideAll (ext B s₁.heap s₃.heap) [s₁.heap.objs.size, s₁.heap.objs.size + 1, s₁.heap.objs.size + 2]).get? c with
            | none => rfl
            | some o => have := of_hideAll _ e; rw [ext_none h1 h2] at this; cases this
    match ifs, hif, T with
    | [], _, T => exact wpC_mono T (fun _ s₂ h₂ => wpC_mono h₂ (fun x s₃ h₃ => close (some x) s₃ h₃) fun _ _ e => e) fun _ _ e => e
    | [c], _, T =>
      refine wpC_mono T (fun _ s₂ h₂ => wpC_mono h₂ (fun ok s₃ h₃ => ?_) fun _ _ e => e) fun _ _ e => e
      cases ok with
      | true => simp only [if_true] at h₃ ⊢; exact wpC_mono h₃ (fun x s₃ h₃ => close (some x) s₃ h₃) fun _ _ e => e
      | false => simp only [Bool.false_eq_true, if_false] at h₃ ⊢; exact close none s₃ h₃
    | _ :: _ :: _, h', _ => exact absurd h' (by simp)
  · rintro h' tk ys nn hD ⟨ks, G, ha, k0, k1, hG, hG2⟩ _
    dsimp only at hD ⊢
    rw [hsz2] at hD ⊢
    exact post h' tk _ ys nn G hD ha k0 k1 ks (ne _ (by omega)) (hG _ (by omega) (by omega)) hG2
end
end Mine
end

/-! part Cx -/
section
open PySem PySem.W PyProof.Rows PySem.Calls
set_option maxRecDepth 100000
namespace Mine
section
variable {b : Bool} {w : World} {A : Around} {E : Value → Shared → Prop} {s : Shared} {env : Env}

/-- a call of a built-in or a type by its name, one argument at least -/
theorem X_Call_mach {f : Value} {x : Str} {np pos : Pos} {e : PySem.Expr} {rest : List PySem.Expr} {Q : Value → Shared → Prop}
    (hf : keeperOf f = pure .machine)
    (hn : ∀ (Q' : Value → Shared → Prop), Q' f s → wpAny (model prog w) A (eval (.Name x np) env) Q' E s)
    (h : wpC b (model prog w) A (spliced (backTo pos (starEach (e :: rest) env))) (fun vs s₁ => wpC b (model prog w) A (call f vs) Q E s₁) E s)
    (he : starEach (e :: rest) env = (false, eval e env) :: starEach rest env := by rfl) (hplain : (backTo pos (starEach rest env)).any (·.1) = false := by rfl) :
    wpC b (model prog w) A (eval (.Call (.Name x np) (e :: rest) [] pos) env) Q E s := by
  show wpC b _ A (do callWith pos (← eval (.Name x np) env) [] (backTo pos (starEach (e :: rest) env)) (backToKw pos (keywordEach [] env))) Q E s
  refine wpC_bindA (hn _ ?_)
  have hp : (backTo pos (starEach (e :: rest) env)).any (·.1) = false := by
    rw [he]; show (false || (backTo pos (starEach rest env)).any (·.1)) = false; rw [hplain]; rfl
  show wpC b _ A (callWith pos f [] (backTo pos (starEach (e :: rest) env)) []) Q E s
  unfold callWith
  refine wpC_bind (wpC_holding ?_)
  have ha : wpC b (model prog w) A (evalArgs f true (backTo pos (starEach (e :: rest) env)) []) (fun a s₁ => a.kw = [] ∧ wpC b (model prog w) A (call f a.pos) Q E s₁) E s := by
    rw [he] at h ⊢
    unfold evalArgs
    show wpC b _ A (spliced ((false, eval e env) :: backTo pos (starEach rest env)) >>= _) _ E s
    refine wpC_bind (wpC_mono h (fun vs s₁ h₁ => ?_) fun _ _ e => e)
    refine wpC_holding ?_
    exact wpC_bind (wpC_pure (wpC_bind (wpC_pure (wpC_pure ⟨rfl, h₁⟩))))
  refine wpC_mono ha (fun a s₁ h₁ => wpC_bind (wpC_standAt ?_)) fun _ _ e => e
  obtain ⟨hkw, hc⟩ := h₁
  simp only [hp, List.any_nil, Bool.or_false]
  refine wpC_bind (wpC_eq hf (wpC_pure ?_))
  rw [hkw]
  exact wpC_bind (wpC_mono hc (fun r s₂ hr => wpC_bindA (wpAny_holding (wpAny_point (wpC_pure hr)))) fun _ _ x => x)

/-- a call of a def of the text with no argument -/
theorem X_Call_own0 {x : Str} {np pos : Pos} {f : Addr} {of : Obj} {fd : FuncData} {Q : Value → Shared → Prop}
    (hn : ∀ (Q' : Value → Shared → Prop), Q' (.ref f) s → wpAny (model prog w) A (eval (.Name x np) env) Q' E s)
    (ho : s.heap.get? f = some of) (hd : of.data = .func fd)
    (h : codeC b (model prog w) A (.call (.ref f) ⟨[], []⟩) (fun r s' => match r with | .ok (.ret v) => Q v s' | .ok _ => False | .error e => E e s') s) :
    wpC b (model prog w) A (eval (.Call (.Name x np) [] [] pos) env) Q E s := by
  show wpC b _ A (do callWith pos (← eval (.Name x np) env) [] (backTo pos (starEach [] env)) (backToKw pos (keywordEach [] env))) Q E s
  refine wpC_bindA (hn _ ?_)
  show wpC b _ A (callWith pos (.ref f) [] [] []) Q E s
  unfold callWith
  refine wpC_bind (wpC_holding (wpC_of (evalArgs_nil3 ?_)))
  refine wpC_bind (wpC_standAt ?_)
  have hk : wpAny (model prog w) A (keeperOf (.ref f)) (fun k s' => k = .frame ∧ s' = s) (fun _ _ => False) s := by
    unfold keeperOf
    refine wpAny_bind (wpAny_load ho ?_)
    rw [hd]; exact wpAny_pure ⟨rfl, rfl⟩
  simp only [List.any_nil, Bool.or_false]
  refine wpC_bind (wpC_mono (wpC_of hk) (fun k s' hs => ?_) fun _ _ e => e.elim)
  obtain ⟨rfl, rfl⟩ := hs
  have tail : ∀ {t : Sem Value}, wpC b (model prog w) A t Q E s' → wpC b (model prog w) A (t >>= fun r => holding [r] point >>= fun _ => pure r) Q E s' :=
    fun ht => wpC_bind (wpC_mono ht (fun r s₂ hr => wpC_bindA (wpAny_holding (wpAny_point (wpC_pure hr)))) fun _ _ x => x)
  dsimp only [List.nil_append]
  refine tail ?_
  unfold callMarked
  exact wpC_keep (wpC_call h)

/-- a function's frame over a base of settled objects, and objects of its own that change -/
structure St (w : World) (B : Heap) (L : Addr) (m : Str → Option Value) (mu : List (Addr × Obj)) (h : Heap) : Prop where
  gd : Gd w B
  keep : Keeps B h
  ns : h.Ns L m
  off : B.get? L = none
  mem : ∀ p ∈ mu, h.get? p.1 = some p.2 ∧ p.1 ≠ L ∧ B.get? p.1 = none
  nd : (mu.map (·.1)).Nodup

variable {B : Heap} {L : Addr} {m m' : Str → Option Value} {mu : List (Addr × Obj)} {h h' : Heap}
theorem St.gdh (S : St w B L m mu h) : Gd w h := S.gd.keeps S.keep
theorem St.grow (S : St w B L m mu h) (k : Keeps h h') : St w B L m mu h' :=
  ⟨S.gd, fun b o e => k b o (S.keep b o e), S.ns.keeps k, S.off, fun p hp => ⟨k _ _ (S.mem p hp).1, (S.mem p hp).2⟩, S.nd⟩
theorem St.store (S : St w B L m mu h) (hn : h'.Ns L m') (hs : ∀ b o, b ≠ L → h.get? b = some o → h'.get? b = some o) : St w B L m' mu h' :=
  ⟨S.gd, fun b o e => hs b o (fun q => by rw [q, S.off] at e; cases e) (S.keep b o e), hn, S.off, fun p hp => ⟨hs _ _ (S.mem p hp).2.1 (S.mem p hp).1, (S.mem p hp).2⟩, S.nd⟩
theorem St.new (S : St w B L m mu h) {a : Addr} {o : Obj} (ha : h.get? a = none) (ho : h'.get? a = some o) (k : Keeps h h') : St w B L m ((a, o) :: mu) h' := by
  have G := S.grow k
  refine ⟨G.gd, G.keep, G.ns, G.off, fun p hp => ?_, ?_⟩
  · rcases List.mem_cons.mp hp with rfl | hp
    · refine ⟨ho, fun q => ?_, ?_⟩
      · obtain ⟨o', _, _, e, _⟩ := S.ns
        rw [← q, ha] at e; cases e
      · cases e : B.get? a with
        | none => rfl
        | some o' => rw [S.keep _ _ e] at ha; cases ha
    · exact G.mem p hp
  · refine List.nodup_cons.mpr ⟨fun hm => ?_, S.nd⟩
    obtain ⟨p, hp, e⟩ := List.mem_map.mp hm
    dsimp only at e
    rw [← e, (S.mem p hp).1] at ha; cases ha
/-- a change of one object of its own -/
theorem St.upd {l₁ l₂ : List (Addr × Obj)} {a : Addr} {o o' : Obj} (S : St w B L m (l₁ ++ (a, o) :: l₂) h) (ho : h'.get? a = some o') (k : ∀ b o, b ≠ a → h.get? b = some o → h'.get? b = some o) : St w B L m (l₁ ++ (a, o') :: l₂) h' := by
  have hm : (a, o) ∈ l₁ ++ (a, o) :: l₂ := List.mem_append_right _ (List.mem_cons_self ..)
  have ha := S.mem _ hm
  have nd := S.nd
  rw [List.map_append, List.map_cons] at nd
  refine ⟨S.gd, fun b o e => k b o (fun q => by rw [q, ha.2.2] at e; cases e) (S.keep b o e), S.ns.at' fun o e => k _ o ha.2.1.symm e, S.off, fun p hp => ?_, by rw [List.map_append, List.map_cons]; exact nd⟩
  by_cases q : p.1 = a
  · have hp' : p = (a, o') := by
      rcases List.mem_append.mp hp with hp | hp
      · have := (List.nodup_append.mp nd).2.2 p.1 (List.mem_map_of_mem hp) a (List.mem_cons_self ..)
        exact absurd q this
      · rcases List.mem_cons.mp hp with rfl | hp
        · rfl
        · have := (List.nodup_cons.mp (List.nodup_append.mp nd).2.1).1
          exact absurd (q ▸ List.mem_map_of_mem (f := (·.1)) hp) this
    subst hp'
    exact ⟨ho, ha.2⟩
  · have hp' : p ∈ l₁ ++ (a, o) :: l₂ := by
      rcases List.mem_append.mp hp with hp | hp
      · exact List.mem_append_left _ hp
      · rcases List.mem_cons.mp hp with rfl | hp
        · exact absurd rfl q
        · exact List.mem_append_right _ (List.mem_cons_of_mem _ hp)
    exact ⟨k _ _ q (S.mem p hp').1, (S.mem p hp').2⟩
theorem St.perm {mu' : List (Addr × Obj)} (S : St w B L m mu h) (hs : ∀ p ∈ mu', p ∈ mu) (nd : (mu'.map (·.1)).Nodup) : St w B L m mu' h := ⟨S.gd, S.keep, S.ns, S.off, fun p hp => S.mem p (hs p hp), nd⟩
theorem St.swap {p q : Addr × Obj} {l : List (Addr × Obj)} (S : St w B L m (p :: q :: l) h) : St w B L m (q :: p :: l) h :=
  S.perm (fun x hx => by simp only [List.mem_cons] at hx ⊢; rcases hx with e | e | e <;> simp [e]) (by
    have := S.nd
    simp only [List.map_cons, List.nodup_cons, List.mem_cons, not_or] at this ⊢
    exact ⟨⟨fun e => this.1.1 e.symm, this.2.1⟩, this.1.2, this.2.2⟩)

/-- all that stands but the frame and the changing objects -/
def calm (L : Addr) (mu : List (Addr × Obj)) (h : Heap) : Heap := hideAll h (L :: mu.map (·.1))
theorem calm_get {b : Addr} {o : Obj} (e : h.get? b = some o) (hL : b ≠ L) (hm : b ∉ mu.map (·.1)) : (calm L mu h).get? b = some o := hideAll_get _ e (by simp only [List.mem_cons, not_or]; exact ⟨hL, hm⟩)
theorem of_calm {b : Addr} {o : Obj} (e : (calm L mu h).get? b = some o) : h.get? b = some o := of_hideAll _ e
theorem St.calmer (S : St w B L m mu h) : Keeps B (calm L mu h) := fun b o e => calm_get (S.keep _ _ e) (fun q => by rw [q, S.off] at e; cases e) fun hm => by
  obtain ⟨p, hp, q⟩ := List.mem_map.mp hm
  rw [← q, (S.mem p hp).2.2] at e; cases e
theorem St.rebase (S : St w B L m mu h) : St w (calm L mu h) L m mu h :=
  ⟨S.gd.keeps S.calmer, fun _ _ e => of_calm e, S.ns, hideAll_none _ (List.mem_cons_self ..), fun p hp => ⟨(S.mem p hp).1, (S.mem p hp).2.1, hideAll_none _ (List.mem_cons_of_mem _ (List.mem_map_of_mem hp))⟩, S.nd⟩
/-- what was made by a part that kept all -/
theorem St.calm_new (S : St w B L m mu h) (k : Keeps h h') {a : Addr} {o : Obj} (ha : h.get? a = none) (ho : h'.get? a = some o) : (calm L mu h').get? a = some o := by
  have S' := S.new ha ho k
  have hm := S'.mem _ (List.mem_cons_self ..)
  exact calm_get ho hm.2.1 (List.nodup_cons.mp S'.nd).1
end
end Mine
end

/-! part F1 -/
section
open PySem PySem.W PyProof.Rows PySem.Calls
set_option maxRecDepth 100000
namespace Mine
section
variable {b : Bool} {w : World} {A : Around} {E : Value → Shared → Prop} {s : Shared} {R : Result → Shared → Prop}

def anyP : HP := fun _ _ => True
def selIf (p : Nat × Nat → Bool) (P : HP) (ps : List (Nat × Nat)) (i : Nat) : Option HP := match ps[i]? with | some x => if p x then some P else none | none => none
theorem selIf_at {p : Nat × Nat → Bool} {P : HP} {ps : List (Nat × Nat)} {i : Nat} {x : Nat × Nat} (hx : ps[i]? = some x) : selIf p P ps i = if p x then some P else none := by
  unfold selIf
  rw [hx]
theorem selP_count (p : Nat × Nat → Bool) (P : HP) : ∀ (ps : List (Nat × Nat)) (n : Nat), n ≤ ps.length → (selP (selIf p P ps) n).length = (ps.take n).countP p
  | ps, 0, _ => by simp [selP]
  | ps, n + 1, h => by
    rw [selP_succ, List.length_append, selP_count p P ps n (by omega), List.take_succ, List.countP_append]
    have hx : ps[n]? = some ps[n] := List.getElem?_eq_getElem (by omega)
    rw [selIf_at hx, hx]
    cases hp : p ps[n] <;> simp [hp]
theorem bi_len (w : World) : nsIn (KF w) mainGlobals "len" = some none := rfl

theorem equals_spec (G : Gd w s.heap) (hh : A.handled = none) (hr : A.depth < recursionLimit) (hu : A.units + 100 < cLine) {pv : Value} {ps : List (Nat × Nat)} (hp : prsP ps s.heap pv) (hps : ps.length ≤ 200) {k : Nat} {t : Tok}
    (h : ∀ h' tk t', Keeps s.heap h' → R (.ok (.ret (.int (ps.countP fun x => x.1 == k) t'))) { s with heap := h', toks := tk }) :
    codeC b (model prog w) A (.call (.ref 189) ⟨[pv, .int k t], []⟩) R s := by
  refine code_fnc (binds := [("pairs", pv), ("kind", .int k t)]) G (fn_equals w) hr (fun _ _ => BindsTo.of_eq (by rfl)) ?_ ?_
  · intro x hx
    simp only [List.mem_cons, List.not_mem_nil, or_false] at hx
    rcases hx with rfl | rfl
    · exact .inl rfl
    · exact .inr ⟨rfl, rfl⟩
  intro h₁ tk hns hc hlt hk
  refine wpC_execs_cons ?_
  refine X_Return ?_
  refine X_Call_mach (f := .builtin "len") rfl ?_ ?_
  · intro Q' q
    refine nm_bi (G.keeps hk) (bi_len w) rfl (by decide) q
  refine X_items_cons ?_
  obtain ⟨p, items, rfl, hl, ha⟩ := hp
  have hlen : items.size = ps.length := by
    have := all2_len ha
    simp only [List.length_map, Array.length_toList] at this
    exact this.symm
  refine X_comp_list (sel := selIf (fun x => x.1 == k) anyP ps) (by decide) hh rfl (by decide) rfl (by decide) ?_ ?_
  · intro i P hP
    unfold selIf at hP
    split at hP
    · split at hP
      · cases hP; exact fun _ _ _ _ x => x
      · cases hP
    · cases hP
  refine wpC_of (nm_loc hns rfl ?_ rfl)
  refine ⟨p, items, h₁, rfl, isL_keeps hl hk, by rw [sizeLine_eq]; omega, fun _ _ e => e, ?_, ?_⟩
  · intro i v C h₂ tk₂ m hi k₂ hn hC
    dsimp only
    obtain ⟨P, hP, hv⟩ := all2_get' ha (by simpa using hi)
    rw [List.getElem?_map] at hP
    obtain ⟨x, hx, rfl⟩ := Option.map_eq_some_iff.mp hP
    refine wpC_of ?_
    refine assignR2 hh (mono_pr x _ _ _ (fun b o e => k₂ _ _ (hk _ _ e)) hv) hn rfl rfl fun h₃ tk₃ a c hn₃ k₃ => ?_
    have hcn : s.heap.get? C = none := by
      cases e : s.heap.get? C with
      | none => rfl
      | some o => exact absurd (Heap.lt_size (hk _ _ e)) (Nat.not_lt.mpr (Nat.le_of_lt hC))
    have hcell : ∃ c o, (cellsFrom (s.heap.objs.size + 1) (scopeOf (stmtAt 14)).names []).lookup ("kind" : Str) = some c ∧ h₁.get? c = some o ∧ o.data = .cell (some (.int k t)) := by
      obtain ⟨o, ho, hd⟩ := hc "kind" _ rfl
      exact ⟨_, o, rfl, ho, hd⟩
    have hcn₁ : h₁.get? C = none := by
      cases e : h₁.get? C with
      | none => rfl
      | some o => exact absurd (Heap.lt_size e) (Nat.not_lt.mpr (Nat.le_of_lt hC))
    have k₁₃ : Keeps h₁ h₃ := fun b o e => k₃ b o (fun q => by rw [show b = C from q, hcn₁] at e; cases e) (k₂ b o e)
    refine X_isTrue_Compare1 ?_
    refine wpC_of (nm_loc hn₃ rfl ?_ rfl rfl)
    obtain ⟨c, o, hc1, ho, hd⟩ := hcell
    refine wpC_of (nm_cell hc1 (k₁₃ _ _ ho) hd ?_ rfl rfl)
    refine eq_int ?_
    refine wpAny_truthy_bool ?_
    have hbe : (((x.1 : Nat) : Int) == (k : Int)) = (x.1 == k) := by
      rw [Bool.eq_iff_iff]; simp only [beq_iff_eq]; omega
    rw [hbe]
    cases hb : x.1 == k with
    | true =>
      simp only [if_true]
      refine wpC_of (wpAny_Constant_int ⟨⟨h₃, _, rfl⟩, k₃, ⟨_, hn₃⟩, ?_⟩)
      have hsel : selIf (fun x => x.1 == k) anyP ps i = some anyP := by rw [selIf_at hx]; simp only [hb, if_true]
      rw [hsel]
      exact Got.old (C := C) trivial k₂ hcn₁ k₃
    | false =>
      simp only [Bool.false_eq_true, if_false]
      refine ⟨⟨h₃, _, rfl⟩, k₃, ⟨_, hn₃⟩, ?_⟩
      have hsel : selIf (fun x => x.1 == k) anyP ps i = none := by rw [selIf_at hx]; simp only [hb, Bool.false_eq_true, if_false]
      rw [hsel]
      trivial
  · intro h' tk' a ys nn G' ha' hG hk' kG _ _ _ _
    have hc := selP_count (fun x => x.1 == k) anyP ps items.size (by omega)
    rw [hlen, List.take_length] at hc
    rw [hlen] at hG
    have hl' := all2_len hG
    rw [hc] at hl'
    refine wpC_of (wpAny_items_nil ?_)
    have hcl := List.countP_le_length (p := fun x : Nat × Nat => x.1 == k) (l := ps)
    refine wpC_of (call_len_list (items := ys.toArray) ⟨_, ha', rfl, _, rfl⟩ ?_ ?_)
    · simp only [List.size_toArray]
      omega
    · simp only [List.size_toArray]
      rw [← hl']
      exact h h' _ _ (fun b o e => kG _ _ (hk' _ _ (hk _ _ e)))
end
end Mine
end

/-! part F2 -/
section
open PySem PySem.W PyProof.Rows PySem.Calls
set_option maxRecDepth 100000
namespace Mine
section
variable {b : Bool} {w : World} {A : Around} {E : Value → Shared → Prop} {s : Shared} {R : Result → Shared → Prop}

theorem seqIndex_nat {i n : Nat} (h : i < n) : seqIndex? (i : Int) n = some i := by
  unfold seqIndex?
  simp
  omega

theorem sub_tup {value slice : PySem.Expr} {Ps : List HP} {P : HP} {o : Value} {i : Nat} {u : Tok} {Q : Value → Shared → Prop} {G : Heap} (ho : TupP Ps G o) (kG : Keeps G s.heap) (hP : Ps[i]? = some P) (hi : i < 1000) (h : ∀ x, P G x → Q x s)
    (hs : ∀ t, subscripted slice false (.ref t) (.int i u) = operate [.ref t, .int i u] (getItem (.ref t) (.int i u)) := by intro _; with_unfolding_all rfl) :
    wpAny (model prog w) A (subscriptTail value slice o (.int i u)) Q E s := by
  obtain ⟨a, items, rfl, ht, ha⟩ := ho
  obtain ⟨v, hv, p⟩ := all2_get ha hP
  have hlt : i < items.size := by
    have := (List.getElem?_eq_some_iff.mp hv).1
    simpa using this
  refine item_tupleT (l := items.toList) (j := i) (x := v) ?_ (by omega) (by omega) ?_ hv (h v p) (hs a)
  · rw [Array.toArray_toList]; exact isT_keeps ht kG
  · simpa using seqIndex_nat hlt

theorem faces_at {w : World} {k f : Nat} (hk : k < 8) (hf : f < 2) : ∃ P, [pairP w 0, pairP w 1, pairP w 2, pairP w 3, pairP w 4, pairP w 5, pairP w 6, pairP w 7][k]? = some P ∧ ∃ Ps, P = TupP Ps ∧ Ps[f]? = some fun h v => Thing w h k f v := by
  have : k = 0 ∨ k = 1 ∨ k = 2 ∨ k = 3 ∨ k = 4 ∨ k = 5 ∨ k = 6 ∨ k = 7 := by omega
  have hf' : f = 0 ∨ f = 1 := by omega
  rcases this with rfl | rfl | rfl | rfl | rfl | rfl | rfl | rfl <;> rcases hf' with rfl | rfl <;> exact ⟨_, rfl, _, rfl, rfl⟩
theorem names_at {k f : Nat} (hk : k < 8) (hf : f < 2) : ∃ P, [nmP 0, nmP 1, nmP 2, nmP 3, nmP 4, nmP 5, nmP 6, nmP 7][k]? = some P ∧ ∃ Ps, P = TupP Ps ∧ Ps[f]? = some (RdP (.str (nameOf k f))) := by
  have : k = 0 ∨ k = 1 ∨ k = 2 ∨ k = 3 ∨ k = 4 ∨ k = 5 ∨ k = 6 ∨ k = 7 := by omega
  have hf' : f = 0 ∨ f = 1 := by omega
  rcases this with rfl | rfl | rfl | rfl | rfl | rfl | rfl | rfl <;> rcases hf' with rfl | rfl <;> exact ⟨_, rfl, _, rfl, rfl⟩

theorem mem_lookup {α β : Type} [BEq α] [LawfulBEq α] {l : List (α × β)} {a : α} {b : β} (h : l.lookup a = some b) : (a, b) ∈ l := by
  induction l with
  | nil => cases h
  | cons p l ih =>
    obtain ⟨x, y⟩ := p
    rw [List.lookup_cons] at h
    by_cases q : a == x
    · rw [q] at h; cases h; rw [eq_of_beq q]; exact List.mem_cons_self ..
    · simp only [q] at h; exact List.mem_cons_of_mem _ (ih h)
abbrev PairsOk (ps : List (Nat × Nat)) : Prop := ∀ x ∈ ps, x.1 < 8 ∧ x.2 < 2

def selT (w : World) (ps : List (Nat × Nat)) (i : Nat) : Option HP := (ps[i]?).map (thP w)
theorem selP_all (F : Nat × Nat → HP) : ∀ (ps : List (Nat × Nat)) (n : Nat), n ≤ ps.length → selP (fun i => (ps[i]?).map F) n = (ps.take n).map F
  | ps, 0, _ => by simp [selP]
  | ps, n + 1, h => by
    rw [selP_succ, selP_all F ps n (by omega), List.take_succ, List.map_append]
    have hx : ps[n]? = some ps[n] := List.getElem?_eq_getElem (by omega)
    rw [hx]; rfl

theorem own_faces (w : World) : nsIn (KF w) mainGlobals "_law_faces" = some (some (.ref 167)) := rfl
theorem ob_of {w : World} {f : Addr} {name : Str} {i : Nat} {c : Addr} {dV : Value} (h : IsFn w f name i c dV) : ∃ o fd, (KF w).lookup f = some o ∧ o.data = .func fd := by
  obtain ⟨_, _, doc, pm, hf⟩ := h
  exact ⟨_, _, hf, rfl⟩

theorem things_spec (G : Gd w s.heap) (hh : A.handled = none) (hr : A.depth + 1 < recursionLimit) {pv : Value} {ps : List (Nat × Nat)} (hp : prsP ps s.heap pv) (hps : ps.length ≤ 200) (hok : PairsOk ps) (B : Heap) (kB : Keeps B s.heap)
    (h : ∀ h' tk a ys nn G, h'.get? a = some { cls := .type "list", data := .seq ys.toArray nn } → All2 G (ps.map (thP w)) ys → Keeps B G → Keeps G h' → Keeps s.heap h' → s.heap.get? a = none → G.get? a = none → (∀ c, s.heap.get? c ≠ none → B.get? c = none → G.get? c = none) →
      R (.ok (.ret (.ref a))) { s with heap := h', toks := tk }) :
    codeC b (model prog w) A (.call (.ref 179) ⟨[pv], []⟩) R s := by
  refine code_fnc (binds := [("pairs", pv)]) G (fn_things w) (by omega) (fun _ _ => BindsTo.of_eq (by rfl)) ?_ ?_
  · intro x hx
    simp only [List.mem_cons, List.not_mem_nil, or_false] at hx
    subst hx
    exact .inl rfl
  intro h₁ tk hns hc hlt hk
  refine wpC_execs_cons ?_
  refine X_Assign_Name ?_
  obtain ⟨of, fd, hof, hfd⟩ := ob_of (fn_faces w)
  refine X_Call_own0 (of := of) (fd := fd) ?_ (hk _ _ (G.K _ _ hof)) hfd ?_
  · intro Q' q
    refine nm_own (G.keeps hk) (own_faces w) q
  have hcell := hc "faces" _ rfl
  obtain ⟨c, hcc⟩ : ∃ c, (cellsFrom (s.heap.objs.size + 1) (scopeOf (stmtAt 12)).names []).lookup ("faces" : Str) = some c := ⟨_, rfl⟩
  have hcell := hc _ _ hcc
  obtain ⟨oc, hoc, hdc⟩ := hcell
  have hc0 : s.heap.get? c = none := by
    cases e : s.heap.get? c with
    | none => rfl
    | some o => exact absurd (Heap.lt_size e) (Nat.not_lt.mpr (Nat.le_of_lt (hlt _ _ (mem_lookup hcc))))
  refine faces_spec (G.keeps hk) (by show A.depth + 1 < recursionLimit; omega) B fun v h₂ tk₂ k₂ pf => ?_
  dsimp only
  have kc : h₂.get? c = some oc := k₂ _ _ hoc
  refine wpAny_storeName_cell rfl rfl hcc ⟨oc, kc, hdc⟩ fun h₃ hc₃ sb => ?_
  refine wpC_execs_cons ?_
  refine X_Return ?_
  obtain ⟨p, items, rfl, hl, ha⟩ := hp
  have hlen : items.size = ps.length := by
    have := all2_len ha
    simp only [List.length_map, Array.length_toList] at this
    exact this.symm
  have k₁₃ : ∀ b o, b ≠ c → h₁.get? b = some o → h₃.get? b = some o := fun b o q e => sb.extBut b o q (k₂ _ _ e)
  have k₀₃ : Keeps s.heap h₃ := fun b o e => k₁₃ b o (fun q => by rw [q, hc0] at e; cases e) (hk _ _ e)
  have hcB : B.get? c = none := by
    cases e : B.get? c with
    | none => rfl
    | some o => rw [kB _ _ e] at hc0; cases hc0
  have hc1 : h₁.get? c ≠ none := by rw [hoc]; simp
  have kE₃ : Keeps (ext B h₁ h₂) h₃ := fun b o e => sb.extBut b o (fun q => by rw [q, ext_none hc1 hcB] at e; cases e) (of_ext e)
  have kBE : Keeps B (ext B h₁ h₂) := ext_old (fun b o e => hk _ _ (kB _ _ e)) k₂
  refine X_comp_list (sel := fun i => (ps[i]?).map (thP w)) (by decide) hh rfl (by decide) rfl (by decide) ?_ ?_
  · intro i P hP
    obtain ⟨x, _, rfl⟩ := Option.map_eq_some_iff.mp hP
    exact mono_Thing w _ _
  have hns₃ : h₃.Ns s.heap.objs.size _ := (hns.keeps k₂).at' fun o e => sb.extBut _ o (Nat.ne_of_lt (hlt _ _ (mem_lookup hcc))) e
  refine wpC_of (nm_loc hns₃ rfl ?_ rfl)
  refine ⟨p, items, ext B h₁ h₂, rfl, isL_keeps hl k₀₃, by rw [sizeLine_eq]; omega, kE₃, ?_, ?_⟩
  · intro i v C h₄ tk₄ m hi k₄ hn hC
    dsimp only
    obtain ⟨P, hP, hv⟩ := all2_get' ha (by simpa using hi)
    rw [List.getElem?_map] at hP
    obtain ⟨x, hx, rfl⟩ := Option.map_eq_some_iff.mp hP
    refine wpC_of ?_
    refine assignR2 hh (mono_pr x _ _ _ (fun b o e => k₄ _ _ (k₀₃ _ _ e)) hv) hn rfl rfl fun h₅ tk₅ a c' hn₅ k₅ => ?_
    have hCn : h₃.get? C = none := by
      cases e : h₃.get? C with
      | none => rfl
      | some o => exact absurd (Heap.lt_size e) (Nat.not_lt.mpr (Nat.le_of_lt hC))
    have k₃₅ : Keeps h₃ h₅ := fun b o e => k₅ b o (fun q => by rw [show b = C from q, hCn] at e; cases e) (k₄ b o e)
    have hxk := hok x (List.mem_of_getElem? hx)
    obtain ⟨P, hP, Ps, rfl, hPs⟩ := faces_at (w := w) hxk.1 hxk.2
    refine wpC_of ?_
    refine Subscript_ ?_
    refine Subscript_ ?_
    obtain ⟨oc₃, hoc₃, hdc₃⟩ := hc₃
    refine nm_cell hcc (k₃₅ _ _ hoc₃) hdc₃ ?_ rfl rfl
    refine nm_loc hn₅ rfl ?_ rfl rfl
    have kE₅ : Keeps (ext B h₁ h₂) h₅ := fun b o e => k₃₅ _ _ (kE₃ _ _ e)
    refine sub_tup pf kE₅ hP (by omega) fun y hy => ?_
    refine nm_loc hn₅ rfl ?_ rfl rfl
    refine sub_tup hy kE₅ hPs (by omega) fun z hz => ?_
    refine ⟨⟨h₅, _, rfl⟩, k₅, ⟨_, hn₅⟩, ?_⟩
    have hsel : (ps[i]?).map (thP w) = some (thP w x) := by rw [hx]; rfl
    rw [hsel]
    refine Got.old (C := C) hz (fun b o e => k₄ _ _ (kE₃ _ _ e)) ?_ k₅
    cases e : (ext B h₁ h₂).get? C with
    | none => rfl
    | some o => rw [kE₃ _ _ e] at hCn; cases hCn
  · intro h' tk' a ys nn G' ha' hG k0 k1 ks hn hG1 hG2
    rw [hlen, selP_all (thP w) ps ps.length (Nat.le_refl _), List.take_length] at hG
    have up : ∀ {a' : Addr}, s.heap.get? a' ≠ none → h₃.get? a' ≠ none := fun {a'} e => by
      obtain ⟨o, ho⟩ := Option.ne_none_iff_exists'.mp e
      rw [k₀₃ _ _ ho]; simp
    refine h h' _ a ys nn G' ha' hG (fun b o e => k0 _ _ (kBE _ _ e)) k1 (fun b o e => ks _ _ (k₀₃ _ _ e)) ?_ hG1 ?_
    · cases e : s.heap.get? a with
      | none => rfl
      | some o => rw [k₀₃ _ _ e] at hn; cases hn
    · intro c' q1 q2
      refine hG2 c' (up q1) (ext_none ?_ q2)
      obtain ⟨o, ho⟩ := Option.ne_none_iff_exists'.mp q1
      rw [hk _ _ ho]; simp
end
end Mine
end

/-! part F3 -/
section
open PySem PySem.W PyProof.Rows PySem.Calls
set_option maxRecDepth 100000
namespace Mine
section
variable {b : Bool} {w : World} {A : Around} {E : Value → Shared → Prop} {s : Shared} {R : Result → Shared → Prop} {env : Env}

/-- a try whose body raises nothing -/
theorem X_Try_ok {body : List Stmt} {h₀ : ExceptHandler} {hs : List ExceptHandler} {pos : Pos} {Q : Flow → Shared → Prop} (h : wpC b (model prog w) A (execs body env) Q (fun _ _ => False) s) :
    wpC b (model prog w) A (exec (.Try body (h₀ :: hs) [] [] pos) env) Q E s := by
  rw [arm_exec_Try]
  refine wpC_bind (wpC_standAt ?_)
  unfold tryStmt
  dsimp only [List.isEmpty]
  rw [if_pos rfl]
  refine wpC_bind (wpC_attempt (wpC_mono h (fun f s₁ h₁ => ?_) fun _ _ e => e.elim))
  cases f <;> first | exact wpC_pure h₁ | exact h₁

theorem bi_repr (w : World) : nsIn (KF w) mainGlobals "repr" = some none := rfl
theorem dflt_repr (w : World) : ∃ o n, (KF w).lookup 65 = some o ∧ o.data = .seq #[.bool false] n := ⟨_, _, rfl, rfl⟩

theorem repr_spec (G : Gd w s.heap) (hg : A.guards = some []) (hr : A.depth < recursionLimit) (hu : A.units + 120 < cLine) {k f : Nat} {v : Value} (ht : Thing w s.heap k f v)
    (h : ∀ h' tk u, Keeps s.heap h' → R (.ok (.ret (.str (nameOf k f) u))) { s with heap := h', toks := tk }) : codeC true (model prog w) A (.call (.ref 72) ⟨[v], []⟩) R s := by
  obtain ⟨od, n, hod, hdd⟩ := dflt_repr w
  refine code_fn (binds := [("obj", v), ("short", .bool false)]) G (fn_repr w) rfl hr (fun doc pm => BindsTo.of_defaults rfl (G.K _ _ hod) hdd rfl rfl) ?_ ?_
  · intro x hx
    simp only [List.mem_cons, List.not_mem_nil, or_false] at hx
    rcases hx with rfl | rfl <;> rfl
  intro h₁ hns hk
  refine wpC_execs_cons ?_
  refine X_Try_ok ?_
  refine wpC_execs_cons ?_
  refine X_Assign_Name ?_
  refine X_Call_mach (f := .builtin "repr") rfl ?_ ?_
  · intro Q' q
    refine nm_bi (G.keeps hk) (bi_repr w) rfl (by decide) q
  refine X_items_cons ?_
  refine wpC_of (nm_loc hns rfl ?_ rfl)
  refine X_items_nil ?_
  refine thing_repr (ht.keeps hk) hg (by show A.units + 3 + 100 < cLine; omega) ?_
  intro h₂ u tk₂ k₂
  refine wpAny_storeName_local rfl (hns.keeps k₂) fun h₃ hns₃ sb => ?_
  refine wpC_execs_nil ?_
  dsimp only
  have hL : s.heap.get? s.heap.objs.size = none := none_size (fun _ _ e => e)
  have k₃ : Keeps s.heap h₃ := fun b o e => sb.extBut b o (fun q => by rw [show b = s.heap.objs.size from q, hL] at e; cases e) (k₂ _ _ (hk _ _ e))
  refine wpC_execs_cons ?_
  refine X_If ?_
  refine X_isTrue_or ?_
  refine X_isTrue_not ?_
  refine X_isTrue_value ?_
  refine wpC_of (nm_loc hns₃ rfl ?_ rfl)
  refine wpAny_truthy_bool ?_
  simp only [Bool.not_false, if_true]
  refine wpC_execs_cons ?_
  refine X_Return ?_
  refine wpC_of (nm_loc hns₃ rfl ?_ rfl)
  exact h h₃ _ u k₃
end
end Mine
end

/-! part F4 -/
section
open PySem PySem.W PyProof.Rows PySem.Calls
set_option maxRecDepth 100000
namespace Mine
section
variable {b : Bool} {w : World} {A : Around} {E : Value → Shared → Prop} {s : Shared} {R : Result → Shared → Prop} {env : Env}

abbrev nameP (x : Nat × Nat) : HP := RdP (.str (nameOf x.1 x.2))
theorem own_repr (w : World) : nsIn (KF w) mainGlobals "safe_repr" = some (some (.ref 72)) := rfl

theorem written_spec (G : Gd w s.heap) (hh : A.handled = none) (hg : A.guards = some []) (hr : A.depth + 1 < recursionLimit) (hu : A.units + 130 < cLine) {l : Addr} {items : Array Value} {ps : List (Nat × Nat)} (hl : s.heap.IsList l items)
    (ha : All2 s.heap (ps.map (thP w)) items.toList) (hps : ps.length ≤ 400)
    (h : ∀ h' tk a ys nn, h'.get? a = some { cls := .type "list", data := .seq ys.toArray nn } → All2 h' (ps.map nameP) ys → Keeps s.heap h' → s.heap.get? a = none → R (.ok (.ret (.ref a))) { s with heap := h', toks := tk }) :
    codeC true (model prog w) A (.call (.ref 184) ⟨[.ref l], []⟩) R s := by
  refine code_fn (binds := [("things", .ref l)]) G (fn_written w) rfl (by omega) (fun doc pm => BindsTo.of_eq (by rfl)) ?_ ?_
  · intro x hx
    simp only [List.mem_cons, List.not_mem_nil, or_false] at hx
    subst hx; rfl
  intro h₁ hns hk
  have hlen : items.size = ps.length := by
    have := all2_len ha
    simp only [List.length_map, Array.length_toList] at this
    exact this.symm
  refine wpC_execs_cons ?_
  refine X_Return ?_
  refine X_comp_list (sel := fun i => (ps[i]?).map nameP) (by decide) hh rfl (by decide) rfl (by decide) ?_ ?_
  · intro i P hP
    obtain ⟨x, _, rfl⟩ := Option.map_eq_some_iff.mp hP
    exact mono_Rd _
  refine wpC_of (nm_loc hns rfl ?_ rfl)
  refine ⟨l, items, h₁, rfl, isL_keeps hl hk, by rw [sizeLine_eq]; omega, fun _ _ e => e, ?_, ?_⟩
  · intro i v C h₂ tk₂ m hi k₂ hn hC
    dsimp only
    obtain ⟨P, hP, hv⟩ := all2_get' ha (by simpa using hi)
    rw [List.getElem?_map] at hP
    obtain ⟨x, hx, rfl⟩ := Option.map_eq_some_iff.mp hP
    refine wpC_of ?_
    refine wpAny_assign_Name (wpAny_storeName_local rfl hn fun h₃ hn₃ sb => ?_)
    have hCn : h₁.get? C = none := by
      cases e : h₁.get? C with
      | none => rfl
      | some o => exact absurd (Heap.lt_size e) (Nat.not_lt.mpr (Nat.le_of_lt hC))
    have k₁₃ : Keeps h₁ h₃ := fun b o e => sb.extBut b o (fun q => by rw [show b = C from q, hCn] at e; cases e) (k₂ _ _ e)
    obtain ⟨of, fd, hof, hfd⟩ := ob_of (fn_repr w)
    refine X_Call_own (f := 72) (of := of) (fd := fd) ?_ ?_ hfd
    · intro Q' q
      refine nm_own ((G.keeps hk).keeps k₁₃) (own_repr w) q
    refine X_items_cons ?_
    refine wpC_of (nm_loc hn₃ rfl ?_ rfl rfl)
    refine X_items_nil ?_
    refine ⟨k₁₃ _ _ (hk _ _ (G.K _ _ hof)), ?_⟩
    refine repr_spec (k := x.1) (f := x.2) ?_ ?_ ?_ ?_ ?_ ?_
    · exact (G.keeps hk).keeps k₁₃
    · exact hg
    · show A.depth + 1 < recursionLimit; omega
    · show A.units + 3 + 120 < cLine; omega
    · exact hv.keeps fun b o e => k₁₃ _ _ (hk _ _ e)
    intro h₄ tk₄ u k₄
    refine ⟨⟨h₄, _, rfl⟩, fun b o q e => k₄ _ _ (sb.extBut b o q e), ⟨_, hn₃.keeps k₄⟩, ?_⟩
    have hsel : (ps[i]?).map nameP = some (nameP x) := by rw [hx]; rfl
    rw [hsel]
    exact Got.old (C := C) ⟨_, .str _ _⟩ k₂ hCn fun b o q e => k₄ _ _ (sb.extBut b o q e)
  · intro h' tk' a ys nn G' ha' hG k0 k1 ks hn hG1 hG2
    rw [hlen, selP_all nameP ps ps.length (Nat.le_refl _), List.take_length] at hG
    refine h h' _ a ys nn ha' (all2_keeps ?_ k1 hG) (fun b o e => ks _ _ (hk _ _ e)) ?_
    · intro P hP
      obtain ⟨x, _, rfl⟩ := List.mem_map.mp hP
      exact mono_Rd _
    · cases e : s.heap.get? a with
      | none => rfl
      | some o => rw [hk _ _ e] at hn; cases hn
end
end Mine
end

/-! part Mm -/
section
open PySem PySem.W PyProof.Rows PySem.Calls
set_option maxRecDepth 100000
namespace Mine
section
variable (w : World)
theorem mm_obj : ∃ oc od cd sl, (KF w).lookup 150 = some ⟨oc, od, .cls cd, sl⟩ ∧ (sl.toList[4]?).join = some .none ∧ cd.mro = [.ref 150, .type "tuple", .type "object"] ∧ cd.hasDel = false := ⟨_, _, _, _, rfl, rfl, rfl, rfl⟩
theorem mm_init : findIn (KF w) (.ref 150) "__init__" = some (some (.builtin "object.__init__")) := rfl
theorem mm_call : specialIn (KF w) (.ref 150) "__call__" = some (some (.builtin "type.__call__")) := rfl
theorem mm_inst : instIn (KF w) (.ref 150) (.type "type") = some true := rfl
theorem mm_reads : readsIn (KF w) 150 (.type "type") = true := rfl
theorem mm_find : findCls (KF w) (.ref 150) (.type "type") "__new__" = some (.get (.builtin "staticmethod.__get__") (.ref 151) .none (.ref 150)) := rfl
theorem mm_rec : recIn (KF w) 151 "staticmethod" = some [.ref 97] := rfl
theorem mm_self : mroIn (KF w) 150 (.ref 150) = some true := rfl
theorem mm_tuple : mroIn (KF w) 150 (.type "tuple") = some true := rfl
theorem mm_object : mroIn (KF w) 150 (.type "object") = some true := rfl
end
section
variable {w : World} {A : Around} {E : Value → Shared → Prop} {s : Shared} {R : Result → Shared → Prop} {h : Heap}

theorem mm_mro (X : (KF w).In h) : Looks (model prog w) h (mroOf (.ref 150)) [.ref 150, .type "tuple", .type "object"] := by
  obtain ⟨oc, od, cd, sl, ho, h4, hm, hd⟩ := mm_obj w
  have hc : clsIn (KF w) 150 = some cd := by unfold clsIn; rw [ho]
  rw [← hm]
  exact (looks_clsIn X hc).andThen .now
theorem mm_made (X : (KF w).In h) : Looks (model prog w) h (Bind.madeBy (.ref 150)) none := by
  obtain ⟨oc, od, cd, sl, ho, h4, hm, hd⟩ := mm_obj w
  intro A Q E s k q
  unfold Bind.madeBy
  refine wpAny_bind (mm_mro X A _ E s k ?_)
  rw [List.forIn_cons]
  refine wpAny_bind (wpAny_bind (wpAny_bind (wpAny_bind (wpAny_loadPart (k _ _ (X _ _ ho)) (wpAny_pure ?_)))))
  dsimp only
  rw [← Array.getElem?_toList, h4]
  exact wpAny_pure (wpAny_pure (wpAny_pure q))
end
section
variable {w : World} {h : Heap}
theorem pk1 (X : (KF w).In h) (t : Addr) : Looks (model prog w) h (checkBuiltinCall "tuple.__new__" ⟨[.ref 150, .ref t], []⟩) () := Looks.of_peek X (by kernel_rfl)
theorem pk2 (X : (KF w).In h) : Looks (model prog w) h (Bind.madeHere "tuple.__new__" (.ref 150)) () := Looks.of_peek X (by kernel_rfl)
theorem pk3 (X : (KF w).In h) : Looks (model prog w) h (isType (.ref 150)) true := Looks.of_peek X (by kernel_rfl)
theorem pk4 (X : (KF w).In h) : Looks (model prog w) h (isSubtype (.ref 150) (.type "tuple")) true := Looks.of_peek X (by kernel_rfl)
theorem pk5 (X : (KF w).In h) : Looks (model prog w) h (typeLookup (.ref 150) "__init__") (some (.builtin "object.__init__")) := Looks.of_peek X (by kernel_rfl)
theorem pk6 (X : (KF w).In h) (vs : List Value) : Looks (model prog w) h (checkBuiltinCall "type.__call__" ⟨.ref 150 :: vs, []⟩) () := Looks.of_peek X (by kernel_rfl)
theorem pk7 (X : (KF w).In h) : Looks (model prog w) h (classHasDel 150) false := Looks.of_peek X (by kernel_rfl)
theorem pk8 (X : (KF w).In h) : Looks (model prog w) h (Bind.madeBy (.ref 150)) none := Looks.of_peek X (by kernel_rfl)
theorem pk13 (X : (KF w).In h) : Looks (model prog w) h (isSubtype (.ref 150) (.type "object")) true := Looks.of_peek X (by kernel_rfl)
theorem oi_args4 (a b c d : Value) : argsOk "object.__init__" ⟨[a, b, c, d], []⟩ := by unfold argsOk; kernel_rfl
theorem pk9 (X : (KF w).In h) : Looks (model prog w) h (isSubtype (.ref 150) (.ref 150)) true := Looks.of_peek X (by kernel_rfl)
theorem pk10 (X : (KF w).In h) : Looks (model prog w) h (specialOf (.ref 150) "__call__") (some (.builtin "type.__call__")) := Looks.of_peek X (by kernel_rfl)
theorem pk11 (X : (KF w).In h) : Looks (model prog w) h (keeperOf (.ref 150)) .machine := Looks.of_peek X (by kernel_rfl)
theorem pk12 (X : (KF w).In h) : Looks (model prog w) h (typeLookup (.ref 150) "__iter__") (some (.builtin "tuple.__iter__")) := Looks.of_peek X (by kernel_rfl)
end
theorem mm_fn (w : World) : ∃ od doc pm an ct, (KF w).lookup 97 = some ⟨.type "function", od, .func (fnOf "__new__" "Mismatch.__new__" (paramsOf mmNew) (bodyOf mmNew) (scopeOf mmNew) .none .none doc pm an (.ref 96) ct), #[]⟩ := ⟨_, _, _, _, _, rfl⟩

theorem tup_find (w : World) : findCls (KF w) (.type "tuple") (.type "type") "__new__" = some (.val (.builtin "tuple.__new__")) := rfl
theorem bi_tuple (w : World) : nsIn (KF w) mainGlobals "tuple" = some none := rfl
theorem mm_code (w : World) : codeIn (KF w) (.ref 96) "Mismatch.__new__" = true := rfl
theorem mm_nocell : ((scopeOf mmNew).names.all fun x => match x.2 with | .cell => false | _ => true) = true := rfl

section
variable {b : Bool} {w : World} {A : Around} {E : Value → Shared → Prop} {s : Shared} {R : Result → Shared → Prop} {h : Heap}

theorem evalArgs_items {f : Value} {pos : Pos} {env : Env} {e : PySem.Expr} {rest : List PySem.Expr} {Q : Args → Shared → Prop} (h : wpAny (model prog w) A (spliced (backTo pos (starEach (e :: rest) env))) (fun vs s' => Q ⟨vs, []⟩ s') E s)
    (he : starEach (e :: rest) env = (false, eval e env) :: starEach rest env := by rfl) : wpAny (model prog w) A (evalArgs f true (backTo pos (starEach (e :: rest) env)) []) Q E s := by
  rw [he] at h ⊢
  exact evalArgs_plain h
theorem tup_meth {h₀ : Heap} {L : Addr} {m : Str → Option Value} {pl : Sem Bool} {Q : Value × List Value → Shared → Prop} (F : Fr h₀ L s.heap m) (G : Gd w h₀) (h : Q (.builtin "tuple.__new__", []) { s with toks := s.toks + 1 }) :
    wpAny (model prog w) A (getMethod (.type "tuple") "__new__" pl) Q E s :=
  method_type (K := KF w) (T := "tuple") (name := "__new__") (v := .builtin "tuple.__new__") F G.K rfl rfl (tup_find w) rfl h
theorem mm_tuple_new (X : (KF w).In s.heap) {t : Addr} {v1 v2 v3 : Value} {Q : Value → Shared → Prop} (ht : s.heap.IsTuple t #[v1, v2, v3])
    (h : ∀ h' tk x d, Keeps s.heap h' → h'.get? x = some { cls := .ref 150, dict := some d, data := .seq #[v1, v2, v3] } → s.heap.get? x = none → Q (.ref x) { s with heap := h', toks := tk }) :
    wpAny (model prog w) A (call (.builtin "tuple.__new__") [.ref 150, .ref t]) Q E s := by
  refine any_of (X_call_builtin (b := false) (bt := Builtin.«tuple.__new__») (by decide +kernel) (fun e => nomatch e) (entryFor_of_tree (by kernel_rfl)) (fun Q' q => (pk1 X t).here q) (wpC_of ?_))
  unfold Builtin.«tuple.__new__»
  dsimp only
  refine wpAny_bind ((pk3 X).here ?_)
  simp only [Bool.not_true, Bool.false_eq_true, if_false]
  refine wpAny_bind ((pk4 X).here ?_)
  simp only [Bool.not_true, Bool.false_eq_true, if_false]
  refine wpAny_bind ((pk2 X).here ?_)
  refine wpAny_bind ((pk5 X).here ?_)
  rw [if_pos (by simp)]
  refine wpAny_bind (m := noKeywords "tuple" _) (wpAny_pure ?_)
  refine wpAny_bind (m := checkCount "tuple" 0 1 _) (wpAny_pure ?_)
  obtain ⟨o, ho, hc, n, hd⟩ := ht
  rw [if_neg (by simp)]
  refine wpAny_bind (wpAny_collect_seq t (.inr rfl) ho hc hd (fun h₁ k₁ => ?_))
  refine wpAny_bind (wpAny_pure ?_)
  refine wpAny_bind (wpAny_alloc ?_)
  refine wpAny_bind ?_
  unfold newObj newObjAsIs
  dsimp only
  rw [if_neg (by rw [sizeLine_eq]; simp)]
  refine wpAny_bind (wpAny_alloc ?_)
  refine wpAny_bind ((pk7 (X.keeps fun b o e => Heap.get?_push_of_some _ (Heap.get?_push_of_some _ (k₁ _ _ e)))).here ?_)
  rw [if_neg Bool.false_ne_true]
  refine wpAny_pure (wpAny_pure ⟨_, rfl, ?_⟩)
  refine h _ _ _ h₁.objs.size (fun b o e => Heap.get?_push_of_some _ (Heap.get?_push_of_some _ (k₁ _ _ e))) ?_ ?_
  · exact Heap.get?_push_size _ rfl
  · cases e : s.heap.get? _ with
    | none => rfl
    | some o => exact absurd (Heap.lt_size (Heap.get?_push_of_some _ (k₁ _ _ e))) (Nat.lt_irrefl _)

theorem mm_new (G : Gd w s.heap) (hr : A.depth < recursionLimit) {v1 v2 v3 : Value}
    (h : ∀ h' tk x d, Keeps s.heap h' → h'.get? x = some { cls := .ref 150, dict := some d, data := .seq #[v1, v2, v3] } → s.heap.get? x = none → R (.ok (.ret (.ref x))) { s with heap := h', toks := tk }) :
    codeC b (model prog w) A (.call (.ref 97) ⟨[.ref 150, v1, v2, v3], []⟩) R s := by
  obtain ⟨od, doc, pm, an, ct, hf⟩ := mm_fn w
  refine code_plain (binds := [("_cls", .ref 150), ("actual", v1), ("expected", v2), ("value", v3)]) G hf (mm_code w) hr (BindsTo.of_eq (by rfl)) ?_ ?_ rfl rfl rfl ?_
  · intro x hx
    simp only [List.mem_cons, List.not_mem_nil, or_false] at hx
    rcases hx with rfl | rfl | rfl | rfl <;> rfl
  · intro h₁ hns hk
    refine wpC_execs_cons ?_
    refine wpC_of ?_
    refine wpAny_Expr_any ?_
    refine wpAny_Constant_str ?_
    dsimp only
    refine wpC_execs_cons ?_
    refine X_Return ?_
    refine wpC_of ?_
    refine methodCall_KW ?_
    refine nm_bi (G.keeps hk) (bi_tuple w) rfl (by decide) ?_
    have F : Fr s.heap s.heap.objs.size h₁ _ := ⟨hns, hk, Nat.le_refl _⟩
    refine tup_meth F G ?_
    refine callWith_builtin (by rfl) ?_
    refine evalArgs_items ?_
    refine wpAny_items_cons ?_
    refine nm_loc hns rfl ?_
    refine wpAny_items_cons ?_
    refine wpAny_Tuple ?_
    refine wpAny_items_cons ?_
    refine nm_loc hns rfl ?_
    refine wpAny_items_cons ?_
    refine nm_loc hns rfl ?_
    refine wpAny_items_cons ?_
    refine nm_loc hns rfl ?_
    refine wpAny_items_nil ?_
    refine ⟨by show (3 : Nat) ≤ sizeLine; rw [sizeLine_eq]; omega, ?_⟩
    refine wpAny_items_nil ?_
    refine mm_tuple_new (t := h₁.objs.size) ((G.keeps hk).keeps fun b o e => Heap.get?_push_of_some _ e).K ⟨_, Heap.get?_push_size _ rfl, rfl, _, rfl⟩ fun h' tk x d k hx hn => ?_
    have kp : ∀ b o, h₁.get? b = some o → h'.get? b = some o := fun b o e => k _ _ (Heap.get?_push_of_some _ e)
    refine h h' _ x d (fun b o e => kp _ _ (hk _ _ e)) hx ?_
    cases e : s.heap.get? x with
    | none => rfl
    | some o => rw [Heap.get?_push_of_some _ (hk _ _ e)] at hn; cases hn
  · intro x hx e
    have := List.all_eq_true.mp mm_nocell x hx
    rw [e] at this; cases this

theorem cls_new (X : (KF w).In s.heap) {Q : Value → Shared → Prop} (h : Q (.ref 97) { s with toks := s.toks + 1 }) : wpAny (model prog w) A (getAttr (.ref 150) "__new__") Q E s :=
  cls_bind (K := KF w) (C := 150) (mc := .type "type") (name := "__new__") X (mm_reads w) (mm_find w) (wpAny_call (sm_get (s := { s with toks := s.toks + 1 }) X (mm_rec w) (handed_on rfl h)))

theorem oi_obj {x : Addr} (X : (KF w).In h) (hty : Looks (model prog w) h (typeOf (.ref x)) (.ref 150)) : Looks (model prog w) h (isInstance (.ref x) (.type "object")) true := Looks.andThen hty (pk13 X)
theorem oi_body4 {x : Addr} {v1 v2 v3 : Value} {Q : Value → Shared → Prop} (X : (KF w).In s.heap) (hty : Looks (model prog w) s.heap (typeOf (.ref x)) (.ref 150)) (h : Q .none s) :
    wpC false (model prog w) A (Builtin.«object.__init__» ⟨[.ref x, v1, v2, v3], []⟩) (fun fin s' => ∃ v, fin = .done (.ret v) ∧ Q v s') E s := by
  unfold Builtin.«object.__init__»
  dsimp only
  rw [if_pos (by simp)]
  refine wpC_of ?_
  refine wpAny_bind (hty.here ?_)
  refine wpAny_bind ((pk5 X).here ?_)
  refine wpAny_bind ((pk8 X).here ?_)
  dsimp only
  rw [if_neg (by simp), if_neg (by simp)]
  exact wpAny_pure ⟨_, rfl, h⟩
theorem oi_type {x d : Addr} {v1 v2 v3 : Value} (hx : h.get? x = some { cls := .ref 150, dict := some d, data := .seq #[v1, v2, v3] }) : Looks (model prog w) h (typeOf (.ref x)) (.ref 150) := (Looks.ld (part := none) hx).andThen .now
theorem oi_chk {x : Addr} {v1 v2 v3 : Value} (X : (KF w).In s.heap) (hty : Looks (model prog w) s.heap (typeOf (.ref x)) (.ref 150)) : ∀ (Q' : Unit → Shared → Prop), Q' () s → wpAny (model prog w) A.in1 (checkBuiltinCall "object.__init__" ⟨[.ref x, v1, v2, v3], []⟩) Q' E s := fun Q' q =>
  @check_slot (model prog w) A.in1 E s "object.__init__" "object" "__init__" (.ref x) [v1, v2, v3] [] Q' oi_kind oi_split (oi_obj X hty) (oi_args4 _ _ _ _) q
theorem oi_call4 {x d : Addr} {v1 v2 v3 : Value} {Q : Value → Shared → Prop} (X : (KF w).In s.heap) (hx : s.heap.get? x = some { cls := .ref 150, dict := some d, data := .seq #[v1, v2, v3] }) (h : Q .none s) :
    wpAny (model prog w) A (call (.builtin "object.__init__") [.ref x, v1, v2, v3]) Q E s := by
  have body := oi_body4 (A := A.in1) (E := E) (v1 := v1) (v2 := v2) (v3 := v3) (Q := Q) X (oi_type hx) h
  have key := X_call_builtin (b := false) (id := "object.__init__") (args := [.ref x, v1, v2, v3]) (bt := Builtin.«object.__init__») (Q := Q) oi_plain (fun e => nomatch e) entry_oi (oi_chk X (oi_type hx)) body
  exact any_of key

/-- a Mismatch is made -/
theorem mm_spec (G : Gd w s.heap) (hr : A.depth + 1 < recursionLimit) {v1 v2 v3 : Value}
    (h : ∀ h' tk x d, Keeps s.heap h' → h'.get? x = some { cls := .ref 150, dict := some d, data := .seq #[v1, v2, v3] } → s.heap.get? x = none → R (.ok (.ret (.ref x))) { s with heap := h', toks := tk }) :
    codeC false (model prog w) A (.call (.ref 150) ⟨[v1, v2, v3], []⟩) R s := by
  have X := G.K
  obtain ⟨oc, od, cd, sl, ho, _⟩ := mm_obj w
  refine codeC_of (codeAny_of_tree ?_)
  show wpAny _ _ (callAny (.ref 150) _) _ _ _
  refine nd_load (X _ _ ho) ?_
  show wpAny _ _ (callAny.viaDunder (.ref 150) _) _ _ _
  unfold callAny.viaDunder
  refine wpAny_bind ((pk10 X).here ?_)
  dsimp only
  rw [tc_bind]
  refine wpAny_bind (wpAny_pure (wpAny_bind (wpAny_pure ?_)))
  refine wpAny_pure (a := Fin.again (.call (.builtin "type.__call__") ⟨[.ref 150, v1, v2, v3], []⟩)) (And.intro rfl ?_)
  refine codeAny_call_builtin_at (Code.quiet_builtin _ (by decide +kernel)) entry_typeCall ((pk6 X _).here ?_)
  unfold Builtin.«type.__call__»
  dsimp only
  rw [if_neg (by simp)]
  refine wpAny_bind ((mm_mro X).here ?_)
  rw [if_neg (by simp)]
  refine wpAny_bind ((pk8 X).here ?_)
  dsimp only
  refine wpAny_bind (cls_new X ?_)
  refine wpAny_bind (wpAny_holding (wpAny_call (codeAny_ofC (mm_new (b := false) (s := { s with toks := s.toks + 1 }) G ?_ ?_))))
  · have hw : (Code.builtin "type.__call__" ⟨[.ref 150, v1, v2, v3], []⟩).weight = 1 := by kernel_rfl
    show A.depth + (Code.builtin "type.__call__" ⟨[.ref 150, v1, v2, v3], []⟩).weight < recursionLimit
    omega
  intro h' tk x d k hx hn
  have X' := X.keeps k
  have hty : Looks (model prog w) h' (typeOf (.ref x)) (.ref 150) := (Looks.ld (part := none) hx).andThen .now
  refine wpAny_bind (wpAny_bind (hty.here ((pk9 X').here ?_)))
  rw [if_neg (by simp)]
  refine wpAny_bind (wpAny_holding (wpAny_bind (wpAny_bind (hty.here ((pk5 X').here ?_)))))
  dsimp only
  refine wpAny_holding ?_
  rw [oi_bind]
  refine wpAny_bind (wpAny_pure ?_)
  have hobj : Looks (model prog w) h' (isInstance (.ref x) (.type "object")) true := hty.andThen (pk13 X')
  refine wpAny_bind ?_
  refine oi_call4 X' hx ?_
  refine wpAny_pure ?_
  dsimp only
  rw [if_neg (by decide)]
  exact wpAny_pure (h h' _ x d k hx hn)
end
end Mine
end

/-! part Lp -/
section
open PySem PySem.W PyProof.Rows PySem.Calls
set_option maxRecDepth 100000
namespace Mine
section
variable {b : Bool} {prog : Program} {w : World} {A : Around} {E : Value → Shared → Prop} {s : Shared} {env : Env} {R : Result → Shared → Prop}

theorem wpC_runOwn {c : Code} {Q : Flow → Shared → Prop} (h : codeC b (model prog w) (A.mark none) c (fun r s' => match r with | .ok f => Q f s' | .error _ => False) s) : wpC b (model prog w) A (runOwn c env) Q E s := by
  unfold runOwn
  refine wpC_onRaise (wpC_run (codeC_mono h fun r s' hr => ?_) (by intro x; cases x))
  cases r with
  | ok f => exact hr
  | error e => exact hr.elim

theorem X_forLoop {target : PySem.Expr} {it : Value} {body : List Stmt} (I : Nat → Shared → Prop)
    (turn : ∀ k s, I k s → wpAny (model prog w) A (pyNext it) (fun r s₁ => match r with
      | none => R (.ok .next) s₁
      | some v => wpAny (model prog w) A (letOwnedTupleGo target it v) (fun _ s₁ => wpC b (model prog w) A (assign target env v) (fun _ s₂ => wpC b (model prog w) A (execs body env) (fun f s₃ => match f with
          | .next | .cont => ∃ m, m < k ∧ I m s₃
          | .brk => R (.ok .next) s₃
          | .ret v => R (.ok (.ret v)) s₃) (fun _ _ => False) s₂) (fun _ _ => False) s₁) (fun _ _ => False) s₁) (fun _ _ => False) s)
    (n : Nat) (h : I n s) : codeC b (model prog w) A (.forLoop target it body [] env) R s := by
  refine codeC_loop (fun _ => rfl) rfl I (fun k s hI => ?_) n h
  show wpC b _ _ ((forTurn target it body [] env).onRaise _) _ _ s
  refine wpC_noted ?_
  simp only [forTurn]
  refine wpC_bind (wpC_standAt (wpC_bind (wpC_onRaise (wpC_mono (wpC_of (turn k s hI)) (fun r s₁ h₁ => ?_) fun _ _ e => e.elim))))
  cases r with
  | none => exact wpC_pure (.inr ⟨rfl, codeC_of (codeAny_block (wpAny_execs_nil h₁))⟩)
  | some v =>
    refine wpC_bindA (wpAny_mono h₁ (fun _ s₁ h₁ => ?_) fun _ _ e => e)
    refine wpC_bind (wpC_mono h₁ (fun _ s₂ h₂ => wpC_bind (wpC_mono h₂ (fun f s₃ h₃ => ?_) fun _ _ e => e)) fun _ _ e => e)
    cases f with
    | next => exact wpC_pure (.inl ⟨rfl, h₃⟩)
    | cont => exact wpC_pure (.inl ⟨rfl, h₃⟩)
    | brk => exact wpC_pure h₃
    | ret v => exact wpC_pure h₃

theorem X_For {target iter : PySem.Expr} {body : List Stmt} {pos : Pos} {Q : Flow → Shared → Prop}
    (h : wpC b (model prog w) A (eval iter env) (fun x s₁ => wpAny (model prog w) A (pyIter x) (fun it s₂ =>
      codeC b (model prog w) (A.mark none) (.forLoop target it body [] env) (fun r s' => match r with | .ok f => Q f s' | .error _ => False) s₂) E s₁) E s)
    (hs : ∀ x, foldedSetIterable iter env x = pure x := by intro _; rfl) :
    wpC b (model prog w) A (exec (.For target iter body [] pos) env) Q E s := by
  rw [exec_For]
  refine wpC_bind (wpC_standAt (wpC_bind (wpC_mono h (fun x s₁ h₁ => ?_) fun _ _ e => e)))
  refine wpC_bind (wpC_eq (hs x) (wpC_pure (wpC_bind (wpC_standAt (wpC_bindA (wpAny_holding (wpAny_mono h₁ (fun it s₂ h₂ => wpC_runOwn h₂) fun _ _ e => e)))))))

/-- a loop over a list that does not change: `I i` stands before item `i` -/
theorem X_For_list {target iter : PySem.Expr} {body : List Stmt} {pos : Pos} {Q : Flow → Shared → Prop} (hh : A.handled = none)
    (h : wpC b (model prog w) A (eval iter env) (fun x s₁ => ∃ l items, ∃ I : Nat → Heap → Prop, x = .ref l ∧ s₁.heap.IsList l items ∧
      (∀ h, (∀ b o, s₁.heap.get? b = some o → h.get? b = some o) → (∀ a, s₁.heap.get? a = none → a = s₁.heap.objs.size ∨ h.get? a = none) → I 0 h) ∧
      (∀ i h h', I i h → (∀ b o, b ≠ s₁.heap.objs.size → h.get? b = some o → h'.get? b = some o) → I i h') ∧
      (∀ i v h tk, items[i]? = some v → I i h → (∃ o, h.get? s₁.heap.objs.size = some o) → wpC b (model prog w) (A.mark none) (assign target env v) (fun _ s₂ => wpC b (model prog w) (A.mark none) (execs body env) (fun f s₃ => match f with
        | .next | .cont => I (i + 1) s₃.heap ∧ (∃ h' tk', s₃ = { s₁ with heap := h', toks := tk' }) ∧ (∀ o, h.get? s₁.heap.objs.size = some o → s₃.heap.get? s₁.heap.objs.size = some o) ∧ s₃.heap.IsList l items
        | _ => False) (fun _ _ => False) s₂) (fun _ _ => False) { s₁ with heap := h, toks := tk }) ∧
      (∀ h tk, I items.size h → Q .next { s₁ with heap := h, toks := tk })) E s)
    (hs : ∀ x, foldedSetIterable iter env x = pure x := by intro _; rfl) :
    wpC b (model prog w) A (exec (.For target iter body [] pos) env) Q E s := by
  refine X_For (wpC_mono h (fun x s₁ h₁ => ?_) fun _ _ e => e) hs
  obtain ⟨l, items, I, rfl, hl, h0, hm, turn, post⟩ := h₁
  refine wpAny_pyIter_list hl ?_
  have hlI : l ≠ s₁.heap.objs.size := let ⟨o, ho, _⟩ := hl; Nat.ne_of_lt (Heap.lt_size ho)
  have kp : ∀ b o, s₁.heap.get? b = some o → (s₁.heap.push { cls := .type "list_iterator", data := .fields #[.ref l, .int 0 0] }).get? b = some o := fun b o e => Heap.get?_push_of_some _ e
  refine X_forLoop (fun k s' => ∃ h tk i, s' = { s₁ with heap := h, toks := tk } ∧ i ≤ items.size ∧ k = items.size - i ∧ I i h ∧ h.IsListIter s₁.heap.objs.size l i ∧ h.IsList l items) ?_ items.size
    ⟨_, s₁.toks, 0, rfl, Nat.zero_le _, rfl, h0 _ kp ?_, ⟨_, Heap.get?_push_size _ rfl, rfl, rfl⟩, isL_keeps hl kp⟩
  · rintro k s' ⟨h, tk, i, rfl, hi, rfl, hI, hit, hl'⟩
    by_cases hlt : i < items.size
    · refine wpAny_pyNext_list_item hit hl' (x := items[i]) (by simp [hlt]) fun h' hit' hs' => ?_
      dsimp only
      refine listIter_go hit' ?_
      have hk : ∀ b o, b ≠ s₁.heap.objs.size → h.get? b = some o → h'.get? b = some o := hs'.extBut
      have T := turn i items[i] h' tk (by simp [hlt]) (hm i h h' hI hk) (let ⟨o, ho, _⟩ := hit'; ⟨o, ho⟩)
      refine wpC_mono T (fun _ s₂ h₂ => wpC_mono h₂ (fun f s₃ h₃ => ?_) fun _ _ e => e) fun _ _ e => e
      have fin : (I (i + 1) s₃.heap ∧ (∃ h' tk', s₃ = { s₁ with heap := h', toks := tk' }) ∧ (∀ o, h'.get? s₁.heap.objs.size = some o → s₃.heap.get? s₁.heap.objs.size = some o) ∧ s₃.heap.IsList l items) →
          ∃ m, m < items.size - i ∧ ∃ h tk i, s₃ = { s₁ with heap := h, toks := tk } ∧ i ≤ items.size ∧ m = items.size - i ∧ I i h ∧ h.IsListIter s₁.heap.objs.size l i ∧ h.IsList l items := by
        rintro ⟨q1, ⟨h₄, tk₄, rfl⟩, q3, q4⟩
        exact ⟨items.size - (i + 1), by omega, h₄, tk₄, i + 1, rfl, hlt, rfl, q1, hit'.at q3, q4⟩
      cases f with
      | next => exact fin h₃
      | cont => exact fin h₃
      | brk => exact h₃.elim
      | ret _ => exact h₃.elim
    · have hin : i = items.size := by omega
      subst hin
      refine wpAny_pyNext_list_end hh hit hl' (by simp) fun h' he' => ?_
      exact post h' tk (hm _ h h' hI he')
  · intro a ha
    by_cases q : a = s₁.heap.objs.size
    · exact .inl q
    · refine .inr ?_
      rw [Heap.get?_push_ne _ _ _ q]; exact ha
end
end Mine
end

/-! part Asg -/
section
open PySem PySem.W PyProof.Rows PySem.Calls
set_option maxRecDepth 100000
namespace Mine
section
variable {b : Bool} {w : World} {A : Around} {E : Value → Shared → Prop} {s : Shared} {env : Env}

/-- `x, y = value`, the stores swapped -/
theorem X_Assign2_sw {x y : Str} {p1 p2 : Pos} {k : Nat} {tpos pos : Pos} {value : PySem.Expr} {Q : Flow → Shared → Prop} (hh : A.handled = none)
    (h : wpC b (model prog w) A (eval value env) (fun v s₁ => ∃ t v1 v2 m, v = .ref t ∧ s₁.heap.IsTuple t #[v1, v2] ∧ s₁.heap.Ns env.locals m ∧
      ∀ h' tk, h'.Ns env.locals (fun z => if z = x then some v1 else if z = y then some v2 else m z) → (∀ b o, b ≠ env.locals → s₁.heap.get? b = some o → h'.get? b = some o) → Q .next { s₁ with heap := h', toks := tk }) E s)
    (hx : env.kindOf x = some .local := by rfl) (hy : env.kindOf y = some .local := by rfl)
    (hs : swapsWithSole [.Tuple [.Name x p1, .Name y p2] k tpos] value pos.line env = pure false := by rfl)
    (hw : swappedStores [.Tuple [.Name x p1, .Name y p2] k tpos] value env = pure (some [x, y]) := by rfl)
    (hp : (env.scope.kind == .class || (env.scope.kind == .module && env.locals != env.globals)) = false := by rfl) :
    wpC b (model prog w) A (exec (.Assign [.Tuple [.Name x p1, .Name y p2] k tpos] value pos) env) Q E s := by
  rw [PyProof.Rows.exec_Assign]
  refine wpC_bind (wpC_standAt ?_)
  rw [hs]
  refine wpC_bind (wpC_pure ?_)
  rw [if_neg (by decide)]
  refine wpC_bind (wpC_mono h (fun v s₁ h₁ => ?_) fun _ _ x => x)
  rw [hw]
  refine wpC_bind (wpC_pure ?_)
  obtain ⟨t, v1, v2, m, rfl, ht, hn, post⟩ := h₁
  show wpC b _ A (do rule "assign.swapped-stores"; let items ← unpackItems (.ref t) 2 none; assignInOrder ([x, y].reverse.map fun n => bindName env n) items.reverse; pure .next) Q E s₁
  refine wpC_of (wpAny_bind (wpAny_rule (wpAny_bind (wpAny_unpackItems_tuple (items := #[v1, v2]) hh ht fun h₂ e₂ => ?_))))
  have k₂ : Keeps s₁.heap h₂ := fun b o e => e₂ b o (Nat.ne_of_lt (Heap.lt_size e)) e
  refine wpAny_bind (wpAny_assignInOrder_more (t := bindName env y) (x := v2) (ts := [bindName env x]) (xs := [v1]) (bindName_ (wpAny_storeName_local hy (hn.keeps k₂) (fun h₃ n₃ s₃ => ?_) hp)))
  refine wpAny_assignInOrder_more (t := bindName env x) (x := v1) (ts := []) (xs := []) (bindName_ (wpAny_storeName_local hx n₃ (fun h₄ n₄ s₄ => ?_) hp))
  exact wpAny_assignInOrder_none (wpAny_pure (post h₄ _ n₄ fun b o q e => s₄.extBut b o q (s₃.extBut b o q (k₂ _ _ e))))

/-- `x, y, z = value`, the stores swapped -/
theorem X_Assign3_sw {x y z : Str} {p1 p2 p3 : Pos} {k : Nat} {tpos pos : Pos} {value : PySem.Expr} {Q : Flow → Shared → Prop} (hh : A.handled = none)
    (h : wpC b (model prog w) A (eval value env) (fun v s₁ => ∃ t v1 v2 v3 m, v = .ref t ∧ s₁.heap.IsTuple t #[v1, v2, v3] ∧ s₁.heap.Ns env.locals m ∧
      ∀ h' tk, h'.Ns env.locals (fun u => if u = x then some v1 else if u = y then some v2 else if u = z then some v3 else m u) → (∀ b o, b ≠ env.locals → s₁.heap.get? b = some o → h'.get? b = some o) → Q .next { s₁ with heap := h', toks := tk }) E s)
    (hx : env.kindOf x = some .local := by rfl) (hy : env.kindOf y = some .local := by rfl) (hz : env.kindOf z = some .local := by rfl)
    (hs : swapsWithSole [.Tuple [.Name x p1, .Name y p2, .Name z p3] k tpos] value pos.line env = pure false := by rfl)
    (hw : swappedStores [.Tuple [.Name x p1, .Name y p2, .Name z p3] k tpos] value env = pure (some [x, y, z]) := by rfl)
    (hp : (env.scope.kind == .class || (env.scope.kind == .module && env.locals != env.globals)) = false := by rfl) :
    wpC b (model prog w) A (exec (.Assign [.Tuple [.Name x p1, .Name y p2, .Name z p3] k tpos] value pos) env) Q E s := by
  rw [PyProof.Rows.exec_Assign]
  refine wpC_bind (wpC_standAt ?_)
  rw [hs]
  refine wpC_bind (wpC_pure ?_)
  rw [if_neg (by decide)]
  refine wpC_bind (wpC_mono h (fun v s₁ h₁ => ?_) fun _ _ x => x)
  rw [hw]
  refine wpC_bind (wpC_pure ?_)
  obtain ⟨t, v1, v2, v3, m, rfl, ht, hn, post⟩ := h₁
  show wpC b _ A (do rule "assign.swapped-stores"; let items ← unpackItems (.ref t) 3 none; assignInOrder ([x, y, z].reverse.map fun n => bindName env n) items.reverse; pure .next) Q E s₁
  refine wpC_of (wpAny_bind (wpAny_rule (wpAny_bind (wpAny_unpackItems_tuple (items := #[v1, v2, v3]) hh ht fun h₂ e₂ => ?_))))
  have k₂ : Keeps s₁.heap h₂ := fun b o e => e₂ b o (Nat.ne_of_lt (Heap.lt_size e)) e
  refine wpAny_bind (wpAny_assignInOrder_more (t := bindName env z) (x := v3) (ts := [bindName env y, bindName env x]) (xs := [v2, v1]) (bindName_ (wpAny_storeName_local hz (hn.keeps k₂) (fun h₃ n₃ s₃ => ?_) hp)))
  refine wpAny_assignInOrder_more (t := bindName env y) (x := v2) (ts := [bindName env x]) (xs := [v1]) (bindName_ (wpAny_storeName_local hy n₃ (fun h₄ n₄ s₄ => ?_) hp))
  refine wpAny_assignInOrder_more (t := bindName env x) (x := v1) (ts := []) (xs := []) (bindName_ (wpAny_storeName_local hx n₄ (fun h₅ n₅ s₅ => ?_) hp))
  exact wpAny_assignInOrder_none (wpAny_pure (post h₅ _ n₅ fun b o q e => s₅.extBut b o q (s₄.extBut b o q (s₃.extBut b o q (k₂ _ _ e)))))

/-- `x, y = value`, the value no tuple display -/
theorem X_Assign2 {x y : Str} {p1 p2 : Pos} {k : Nat} {tpos pos : Pos} {value : PySem.Expr} {Q : Flow → Shared → Prop} (hh : A.handled = none)
    (h : wpC b (model prog w) A (eval value env) (fun v s₁ => ∃ t v1 v2 m, v = .ref t ∧ s₁.heap.IsTuple t #[v1, v2] ∧ s₁.heap.Ns env.locals m ∧
      ∀ h' tk, h'.Ns env.locals (fun z => if z = y then some v2 else if z = x then some v1 else m z) → (∀ b o, b ≠ env.locals → s₁.heap.get? b = some o → h'.get? b = some o) → Q .next { s₁ with heap := h', toks := tk }) E s)
    (hx : env.kindOf x = some .local := by rfl) (hy : env.kindOf y = some .local := by rfl)
    (hs : swapsWithSole [.Tuple [.Name x p1, .Name y p2] k tpos] value pos.line env = pure false := by rfl)
    (hw : swappedStores [.Tuple [.Name x p1, .Name y p2] k tpos] value env = pure none := by rfl)
    (hp : (env.scope.kind == .class || (env.scope.kind == .module && env.locals != env.globals)) = false := by rfl) :
    wpC b (model prog w) A (exec (.Assign [.Tuple [.Name x p1, .Name y p2] k tpos] value pos) env) Q E s := by
  rw [PyProof.Rows.exec_Assign]
  refine wpC_bind (wpC_standAt ?_)
  rw [hs]
  refine wpC_bind (wpC_pure ?_)
  rw [if_neg (by decide)]
  refine wpC_bind (wpC_mono h (fun v s₁ h₁ => ?_) fun _ _ x => x)
  rw [hw]
  refine wpC_bind (wpC_pure ?_)
  obtain ⟨t, v1, v2, m, rfl, ht, hn, post⟩ := h₁
  show wpC b _ A (do assignAll (.ref t) [assign (.Tuple [.Name x p1, .Name y p2] k tpos) env]; pure .next) Q E s₁
  refine wpC_of (wpAny_bind ?_)
  refine assign2 hh ht hn hx hy (fun h' tk n' k' => wpAny_pure (post h' tk n' k')) hp
end
end Mine
end

/-! part Ops -/
section
open PySem PySem.W PyProof.Rows PySem.Calls
set_option maxRecDepth 100000
namespace Mine
section
variable {b : Bool} {w : World} {A : Around} {E : Value → Shared → Prop} {s : Shared} {env : Env}

/-- two lists laid end to end -/
theorem add_l {l k : Addr} {vs ws : List Value} {Q : Value → Shared → Prop} (hl : s.heap.IsList l vs.toArray) (hk : s.heap.IsList k ws.toArray) (hz : vs.length + ws.length ≤ 1000)
    (h : Q (.ref s.heap.objs.size) { s with heap := s.heap.push { cls := .type "list", data := .seq (vs ++ ws).toArray } }) : wpAny (model prog w) A (binaryOp .Add (.ref l) (.ref k)) Q E s := by
  obtain ⟨⟨c1, d1, o1, s1⟩, e1, rfl, n1, rfl⟩ := hl
  obtain ⟨⟨c2, d2, o2, s2⟩, e2, rfl, n2, rfl⟩ := hk
  have ez : vs.toArray ++ ws.toArray = (vs ++ ws).toArray := by simp
  rw [← ez] at h
  exact concat_meets ⟨_, e1, rfl⟩ ⟨_, e2, rfl⟩ noFill_list_add seq_list_add PySem.F.slot_list_add PySem.F.entry_list_add (PySem.F.args_list_add_2 _ _) (list_addW l k vs.toArray ws.toArray n1 n2 d1 d2 s1 s2 (by rw [sizeLine_eq]; simp; omega)) ⟨e1, e2, h⟩
end

/-- a function's frame over a base of settled objects; objects of its own that change; addresses out of sight -/
structure Fm (w : World) (B : Heap) (L : Addr) (m : Str → Option Value) (mu : List (Addr × Obj)) (hid : List Addr) (h : Heap) : Prop where
  st : St w B L m mu h
  hb : ∀ a ∈ hid, B.get? a = none
  hL : L ∉ hid
  hm : ∀ p ∈ mu, p.1 ∉ hid

section
variable {w : World} {B : Heap} {L : Addr} {m m' : Str → Option Value} {mu : List (Addr × Obj)} {hid : List Addr} {h h' : Heap}
theorem Fm.start {h₀ : Heap} (G : Gd w h₀) (hns : h.Ns h₀.objs.size m) (hk : Keeps h₀ h) : Fm w h₀ h₀.objs.size m [] [] h :=
  ⟨⟨G, hk, hns, none_size (fun _ _ e => e), (fun _ hp => nomatch hp), List.nodup_nil⟩, (fun _ q => nomatch q), (fun q => nomatch q), (fun _ hp => nomatch hp)⟩
theorem Fm.gdh (S : Fm w B L m mu hid h) : Gd w h := S.st.gdh
theorem Fm.grow (S : Fm w B L m mu hid h) (k : Keeps h h') : Fm w B L m mu hid h' := ⟨S.st.grow k, S.hb, S.hL, S.hm⟩
/-- a change out of sight -/
theorem Fm.touch (S : Fm w B L m mu hid h) (k : ∀ b o, b ∉ hid → h.get? b = some o → h'.get? b = some o) : Fm w B L m mu hid h' := by
  refine ⟨⟨S.st.gd, fun b o e => k b o (fun q => by rw [S.hb b q] at e; cases e) (S.st.keep b o e), S.st.ns.at' fun o e => k _ o S.hL e, S.st.off, fun p hp => ⟨k _ _ (S.hm p hp) (S.st.mem p hp).1, (S.st.mem p hp).2⟩, S.st.nd⟩, S.hb, S.hL, S.hm⟩
theorem Fm.store (S : Fm w B L m mu hid h) (hn : h'.Ns L m') (hs : ∀ b o, b ≠ L → h.get? b = some o → h'.get? b = some o) : Fm w B L m' mu hid h' := ⟨S.st.store hn hs, S.hb, S.hL, S.hm⟩
theorem Fm.new (S : Fm w B L m mu hid h) {a : Addr} {o : Obj} (ha : h.get? a = none) (hh : a ∉ hid) (ho : h'.get? a = some o) (k : Keeps h h') : Fm w B L m ((a, o) :: mu) hid h' :=
  ⟨S.st.new ha ho k, S.hb, S.hL, fun p hp => (List.mem_cons.mp hp).elim (fun e => e ▸ hh) (S.hm p)⟩
theorem Fm.upd {l₁ l₂ : List (Addr × Obj)} {a : Addr} {o o' : Obj} (S : Fm w B L m (l₁ ++ (a, o) :: l₂) hid h) (ho : h'.get? a = some o') (k : ∀ b o, b ≠ a → h.get? b = some o → h'.get? b = some o) : Fm w B L m (l₁ ++ (a, o') :: l₂) hid h' := by
  refine ⟨S.st.upd ho k, S.hb, S.hL, fun p hp => ?_⟩
  rcases List.mem_append.mp hp with hp | hp
  · exact S.hm p (List.mem_append_left _ hp)
  · rcases List.mem_cons.mp hp with rfl | hp
    · exact S.hm (a, o) (List.mem_append_right _ (List.mem_cons_self ..))
    · exact S.hm p (List.mem_append_right _ (List.mem_cons_of_mem _ hp))
/-- one address more out of sight -/
theorem Fm.hide (S : Fm w B L m mu hid h) {a : Addr} (ha : h.get? a = none) : Fm w B L m mu (a :: hid) h := by
  refine ⟨S.st, fun b hb => ?_, ?_, fun p hp => ?_⟩
  · rcases List.mem_cons.mp hb with rfl | hb
    · cases e : B.get? b with
      | none => rfl
      | some o => rw [S.st.keep _ _ e] at ha; cases ha
    · exact S.hb b hb
  · intro q
    rcases List.mem_cons.mp q with rfl | q
    · obtain ⟨o, _, _, e, _⟩ := S.st.ns
      rw [e] at ha; cases ha
    · exact S.hL q
  · intro q
    rcases List.mem_cons.mp q with e | q
    · have := (S.st.mem p hp).1
      rw [e, ha] at this; cases this
    · exact S.hm p hp q
theorem Fm.show' {a : Addr} (S : Fm w B L m mu (a :: hid) h) : Fm w B L m mu hid h := ⟨S.st, fun b q => S.hb b (List.mem_cons_of_mem _ q), fun q => S.hL (List.mem_cons_of_mem _ q), fun p hp q => S.hm p hp (List.mem_cons_of_mem _ q)⟩
/-- all that is settled -/
def calmer (L : Addr) (mu : List (Addr × Obj)) (hid : List Addr) (h : Heap) : Heap := hideAll h (L :: mu.map (·.1) ++ hid)
theorem of_calmer {b : Addr} {o : Obj} (e : (calmer L mu hid h).get? b = some o) : h.get? b = some o := of_hideAll _ e
theorem Fm.calms (S : Fm w B L m mu hid h) : Keeps B (calmer L mu hid h) := fun b o e => hideAll_get _ (S.st.keep _ _ e) fun q => by
  rcases List.mem_append.mp q with q | q
  · rcases List.mem_cons.mp q with rfl | q
    · rw [S.st.off] at e; cases e
    · obtain ⟨p, hp, rfl⟩ := List.mem_map.mp q
      rw [(S.st.mem p hp).2.2] at e; cases e
  · rw [S.hb b q] at e; cases e
theorem Fm.rebase (S : Fm w B L m mu hid h) : Fm w (calmer L mu hid h) L m mu hid h := by
  have off : ∀ b, b ∈ (L :: mu.map (·.1) ++ hid) → (calmer L mu hid h).get? b = none := fun b q => hideAll_none _ q
  exact ⟨⟨S.st.gd.keeps S.calms, fun _ _ e => of_calmer e, S.st.ns, off _ (by simp), fun p hp => ⟨(S.st.mem p hp).1, (S.st.mem p hp).2.1, off _ (by simp; exact .inr (.inl ⟨p.2, hp⟩))⟩, S.st.nd⟩, fun a q => off a (by simp; exact .inr (.inr q)), S.hL, S.hm⟩
/-- a base that is what was settled and what is new since -/
theorem Fm.based (S : Fm w B L m mu hid h) (k : Keeps h h') {G : Heap} (kB : Keeps B G) (kG : Keeps G h') (hn : ∀ c, h.get? c ≠ none → B.get? c = none → G.get? c = none) (hh : ∀ a ∈ hid, h.get? a ≠ none) : Fm w G L m mu hid h' := by
  have S' := S.grow k
  refine ⟨⟨S.st.gd.keeps kB, kG, S'.st.ns, hn L ?_ S.st.off, fun p hp => ⟨(S'.st.mem p hp).1, (S.st.mem p hp).2.1, hn p.1 (by rw [(S.st.mem p hp).1]; simp) (S.st.mem p hp).2.2⟩, S.st.nd⟩, fun a ha => hn a (hh a ha) (S.hb a ha), S.hL, S.hm⟩
  obtain ⟨o, _, _, e, _⟩ := S.st.ns
  rw [e]; simp
end
end Mine
end

/-! part Lf -/
section
open PySem PySem.W PyProof.Rows PySem.Calls
set_option maxRecDepth 100000
namespace Mine
section
variable {w : World} {B : Heap} {L : Addr} {m m' : Str → Option Value} {mu : List (Addr × Obj)} {hid : List Addr} {h h' : Heap}
theorem Fm.unhide {a : Addr} {o : Obj} (S : Fm w B L m mu (a :: hid) h) (ha : a ∉ hid) (ho : h.get? a = some o) : Fm w B L m ((a, o) :: mu) hid h := by
  have S' := S.show'
  refine ⟨⟨S.st.gd, S.st.keep, S.st.ns, S.st.off, fun p hp => ?_, ?_⟩, S'.hb, S'.hL, fun p hp => ?_⟩
  · rcases List.mem_cons.mp hp with rfl | hp
    · exact ⟨ho, fun q => S.hL (by rw [← q]; exact List.mem_cons_self ..), S.hb a (List.mem_cons_self ..)⟩
    · exact S.st.mem p hp
  · refine List.nodup_cons.mpr ⟨fun q => ?_, S.st.nd⟩
    obtain ⟨p, hp, e⟩ := List.mem_map.mp q
    exact S.hm p hp (by rw [e]; exact List.mem_cons_self ..)
  · rcases List.mem_cons.mp hp with rfl | hp
    · exact ha
    · exact S'.hm p hp
theorem Fm.rehide {a : Addr} {o : Obj} (S : Fm w B L m ((a, o) :: mu) hid h) : Fm w B L m mu (a :: hid) h := by
  have ha := S.st.mem (a, o) (List.mem_cons_self ..)
  have nd := List.nodup_cons.mp S.st.nd
  refine ⟨⟨S.st.gd, S.st.keep, S.st.ns, S.st.off, fun p hp => S.st.mem p (List.mem_cons_of_mem _ hp), nd.2⟩, fun b q => ?_, fun q => ?_, fun p hp q => ?_⟩
  · rcases List.mem_cons.mp q with rfl | q
    · exact ha.2.2
    · exact S.hb b q
  · rcases List.mem_cons.mp q with q | q
    · exact ha.2.1 q.symm
    · exact S.hL q
  · rcases List.mem_cons.mp q with q | q
    · exact nd.1 (List.mem_map.mpr ⟨p, hp, q⟩)
    · exact S.hm p (List.mem_cons_of_mem _ hp) q
theorem Fm.calm_new (S : Fm w B L m mu hid h) (k : Keeps h h') {a : Addr} {o : Obj} (ha : h.get? a = none) (hh : a ∉ hid) (ho : h'.get? a = some o) : (calmer L mu hid h').get? a = some o := by
  refine hideAll_get _ ho fun q => ?_
  rcases List.mem_append.mp q with q | q
  · rcases List.mem_cons.mp q with rfl | q
    · obtain ⟨o', _, _, e, _⟩ := S.st.ns
      rw [e] at ha; cases ha
    · obtain ⟨p, hp, rfl⟩ := List.mem_map.mp q
      rw [(S.st.mem p hp).1] at ha; cases ha
  · exact hh q
theorem Fm.calm_at (_S : Fm w B L m mu hid h) {a : Addr} {o : Obj} (ho : h.get? a = some o) (hL : a ≠ L) (hm : a ∉ mu.map (·.1)) (hh : a ∉ hid) : (calmer L mu hid h).get? a = some o := by
  refine hideAll_get _ ho fun q => ?_
  rcases List.mem_append.mp q with q | q
  · rcases List.mem_cons.mp q with q | q
    · exact hL q
    · exact hm q
  · exact hh q
theorem Fm.drop {p : Addr × Obj} (S : Fm w B L m (p :: mu) hid h) : Fm w B L m mu hid h :=
  ⟨⟨S.st.gd, S.st.keep, S.st.ns, S.st.off, fun q hq => S.st.mem q (List.mem_cons_of_mem _ hq), (List.nodup_cons.mp S.st.nd).2⟩, S.hb, S.hL, fun q hq => S.hm q (List.mem_cons_of_mem _ hq)⟩
end
section
variable {b : Bool} {w : World} {A : Around} {E : Value → Shared → Prop} {s : Shared} {env : Env}

/-- a loop over a settled list: `J` speaks of the base, the frame's names and the changing objects -/
theorem X_For_Fm {target iter : PySem.Expr} {body : List Stmt} {pos : Pos} {Q : Flow → Shared → Prop} (hh : A.handled = none) (J : Nat → Heap → (Str → Option Value) → List (Addr × Obj) → Prop)
    (h : wpC b (model prog w) A (eval iter env) (fun x s₁ => ∃ l items B m mu, x = .ref l ∧ B.IsList l items ∧ Fm w B env.locals m mu [] s₁.heap ∧ J 0 B m mu ∧
      (∀ i v B' m' mu' It o h tk, items[i]? = some v → Keeps B B' → J i B' m' mu' → Fm w B' env.locals m' ((It, o) :: mu') [] h → wpC b (model prog w) A (assign target env v) (fun _ s₂ => wpC b (model prog w) A (execs body env) (fun f s₃ => match f with
        | .next | .cont => ∃ B'' m'' mu'' h'' tk'', s₃ = { s₁ with heap := h'', toks := tk'' } ∧ Keeps B' B'' ∧ Fm w B'' env.locals m'' ((It, o) :: mu'') [] h'' ∧ J (i + 1) B'' m'' mu''
        | _ => False) (fun _ _ => False) s₂) (fun _ _ => False) { s₁ with heap := h, toks := tk }) ∧
      (∀ B' m' mu' h tk, Keeps B B' → J items.size B' m' mu' → Fm w B' env.locals m' mu' [] h → Q .next { s₁ with heap := h, toks := tk })) E s)
    (hs : ∀ x, foldedSetIterable iter env x = pure x := by intro _; rfl) :
    wpC b (model prog w) A (exec (.For target iter body [] pos) env) Q E s := by
  refine X_For_list hh (wpC_mono h (fun x s₁ h₁ => ?_) fun _ _ e => e) hs
  obtain ⟨l, items, B, m, mu, rfl, hl, S, j0, turn, post⟩ := h₁
  refine ⟨l, items, fun i h => ∃ B' m' mu', Keeps B B' ∧ J i B' m' mu' ∧ Fm w B' env.locals m' mu' [s₁.heap.objs.size] h, rfl, isL_keeps hl S.st.keep, ?_, ?_, ?_, ?_⟩
  · intro h k _
    exact ⟨B, m, mu, fun _ _ e => e, j0, (S.hide (none_size fun _ _ e => e)).grow k⟩
  · rintro i h h' ⟨B', m', mu', k, j, S'⟩ hk
    exact ⟨B', m', mu', k, j, S'.touch fun b o q e => hk b o (fun z => q (by rw [z]; exact List.mem_cons_self ..)) e⟩
  · rintro i v h tk hi ⟨B', m', mu', k, j, S'⟩ ⟨o, ho⟩
    refine wpC_mono (turn i v B' m' mu' s₁.heap.objs.size o h tk hi k j (S'.unhide (fun q => (nomatch q)) ho)) (fun _ s₂ h₂ => wpC_mono h₂ (fun f s₃ h₃ => ?_) fun _ _ e => e) fun _ _ e => e
    have fin : (∃ B'' m'' mu'' h'' tk'', s₃ = { s₁ with heap := h'', toks := tk'' } ∧ Keeps B' B'' ∧ Fm w B'' env.locals m'' ((s₁.heap.objs.size, o) :: mu'') [] h'' ∧ J (i + 1) B'' m'' mu'') →
        (∃ B' m' mu', Keeps B B' ∧ J (i + 1) B' m' mu' ∧ Fm w B' env.locals m' mu' [s₁.heap.objs.size] s₃.heap) ∧ (∃ h' tk', s₃ = { s₁ with heap := h', toks := tk' }) ∧ (∀ o, h.get? s₁.heap.objs.size = some o → s₃.heap.get? s₁.heap.objs.size = some o) ∧ s₃.heap.IsList l items := by
      rintro ⟨B'', m'', mu'', h'', tk'', rfl, k', S'', j'⟩
      have kB : Keeps B B'' := fun b o e => k' _ _ (k _ _ e)
      refine ⟨⟨B'', m'', mu'', kB, j', S''.rehide⟩, ⟨h'', tk'', rfl⟩, fun o' e => ?_, isL_keeps hl fun b o e => S''.st.keep _ _ (kB _ _ e)⟩
      rw [ho] at e; cases e
      exact (S''.st.mem _ (List.mem_cons_self ..)).1
    cases f with
    | next => exact fin h₃
    | cont => exact fin h₃
    | brk => exact h₃.elim
    | ret _ => exact h₃.elim
  · rintro h tk ⟨B', m', mu', k, j, S'⟩
    exact post B' m' mu' h tk k j S'.show'
end
end Mine
end

/-! part Ap -/
section
open PySem PySem.W PyProof.Rows PySem.Calls
set_option maxRecDepth 100000
namespace Mine
abbrev lst (xs : List Value) (n : Nat) : Obj := { cls := .type "list", data := .seq xs.toArray n }
section
variable {b : Bool} {w : World} {A : Around} {E : Value → Shared → Prop} {s : Shared} {env : Env}
theorem append_at {D : Addr} {ys : List Value} {nn : Nat} {x : Value} {Q : Value → Shared → Prop} (hD : s.heap.get? D = some (lst ys nn)) (hz : ys.length ≤ 1000)
    (h : ∀ h', h'.get? D = some (lst (ys ++ [x]) (nn + 1)) → (∀ b o, b ≠ D → s.heap.get? b = some o → h'.get? b = some o) → Q .none { s with heap := h' }) : wpAny (model prog w) A (call (.builtin "list.append") [.ref D, x]) Q E s := by
  refine wpAny_call_entry slot_list_append ⟨_, hD, rfl⟩ entry_list_append ?_ (args_list_append _ _)
  show wpAny _ _ (updateSeq D (·.push x) >>= fun _ => ret .none) _ _ _
  refine wpAny_bind (wpAny_updateSeq hD rfl (wpAny_pure ⟨.none, rfl, ?_⟩) (by rw [sizeLine_eq]; simp; omega))
  refine h _ ?_ fun b o q e => (Heap.get?_update_other _ _ (fun z : D = b => q z.symm)).trans e
  have := Heap.get?_update_self (Obj.mapSeq (·.push x)) hD rfl
  rw [this]
  show some ({ cls := _, dict := _, data := .seq (ys.toArray.push x) (if (ys.toArray.push x).size == ys.toArray.size then nn else nn + 1), slots := _ } : Obj) = _
  have e1 : ((ys.toArray.push x).size == ys.toArray.size) = false := by simp
  rw [e1]
  simp

/-- `x.append(e)` as a statement; the list of `x` is one of the frame's own -/
theorem X_append {x : Str} {np apos pos pos2 : Pos} {e : PySem.Expr} {l : Addr} {Q : Flow → Shared → Prop} {m : Str → Option Value} {xs : List Value} {n : Nat}
    (hn : s.heap.Ns env.locals m) (hm : m x = some (.ref l)) (ho : s.heap.get? l = some (lst xs n)) (hz : xs.length ≤ 1000)
    (h : wpAny (model prog w) A (eval e env) (fun v s₁ => s₁.heap.get? l = some (lst xs n) ∧ ∀ h', h'.get? l = some (lst (xs ++ [v]) (n + 1)) → (∀ b o, b ≠ l → s₁.heap.get? b = some o → h'.get? b = some o) → Q .next { s₁ with heap := h' }) E s)
    (hk : env.scope.kind = .function := by rfl) (hx : env.kindOf x = some .local := by rfl)
    (hd : (x == ("__debug__" : Str)) = false := by decide) (hi : interactive env = false := by rfl) (hs : swapsWith (.Call (.Attribute (.Name x np) "append" apos) [e] [] pos) none pos2.line env = pure false := by rfl)
    (hfew : ((backTo pos (starEach [e] env)).all (fun x => !x.1) && (backToKw pos (keywordEach [] env)).all (fun x => x.1.isSome) && decide ([e].length + ([] : List Keyword).length + (if ([] : List Keyword).isEmpty then 0 else 1) < 30)) = true := by rfl)
    (hline : (apos.endLine == pos.line) = true := by rfl) (he : starEach [e] env = (false, eval e env) :: starEach [] env := by rfl) :
    wpAny (model prog w) A (exec (.Expr (.Call (.Attribute (.Name x np) "append" apos) [e] [] pos) pos2) env) Q E s := by
  refine wpAny_Expr_any ?_ hi hs
  refine wpAny_Call_method (T := "list") (id := "list.append") rfl hfew hline PySem.F.plainAttrs_list slot_list_append (by kernel_rfl) ?_
  refine nm_loc hn hm ?_ hk hx hd
  refine ⟨⟨_, ho, rfl⟩, ?_, ?_⟩
  · intro a ea
    cases ea
    exact ⟨_, ho, rfl⟩
  refine callWith_builtin (by rw [he]; rfl) ?_
  refine evalArgs_items ?_ he
  refine wpAny_items_cons ?_ he
  refine wpAny_mono h (fun v s₁ h₁ => wpAny_items_nil ?_) fun _ _ e => e
  exact append_at h₁.1 hz h₁.2
end
end Mine
end

/-! part F5 -/
section
open PySem PySem.W PyProof.Rows PySem.Calls
set_option maxRecDepth 100000
namespace Mine

abbrev Row := Nat × Nat × Str
def rowP (r : Row) : HP := TupP [RdP (.int r.1), RdP (.int r.2.1), RdP (.str r.2.2)]
def cnt (ps : List (Nat × Nat)) (k : Nat) : Nat := ps.countP fun x => x.1 == k
def rowStep (c1 c2 : Nat → Nat) (st : List Row × List Nat) (x : Nat × Nat) : List Row × List Nat :=
  if st.2.contains x.1 then st else (if c1 x.1 != c2 x.1 then st.1 ++ [(c1 x.1, c2 x.1, nameOf x.1 x.2)] else st.1, st.2 ++ [x.1])
def rowsOf (got want : List (Nat × Nat)) : List Row := ((got ++ want).foldl (rowStep (cnt got) (cnt want)) ([], [])).1


section
variable {b : Bool} {w : World} {A : Around} {E : Value → Shared → Prop} {s : Shared} {R : Result → Shared → Prop} {env : Env}
theorem X_two_lists {x y : Str} {p1 p2 p3 p4 p5 tpos pos : Pos} {k k2 : Nat} {Q : Flow → Shared → Prop} {B : Heap} {m : Str → Option Value} {mu : List (Addr × Obj)} {hid : List Addr} (hh : A.handled = none)
    (S : Fm w B env.locals m mu hid s.heap) (hz : ∀ a ∈ hid, s.heap.get? a ≠ none)
    (h : ∀ h' tk r q, Fm w B env.locals (fun z => if z = x then some (.ref r) else if z = y then some (.ref q) else m z) ((q, lst [] 0) :: (r, lst [] 0) :: mu) hid h' → s.heap.get? r = none → s.heap.get? q = none → (∀ b o, b ≠ env.locals → s.heap.get? b = some o → h'.get? b = some o) → Q .next { s with heap := h', toks := tk })
    (hx : env.kindOf x = some .local := by rfl) (hy : env.kindOf y = some .local := by rfl)
    (hs : swapsWithSole [.Tuple [.Name x p1, .Name y p2] k tpos] (.Tuple [.List [] p3, .List [] p4] k2 p5) pos.line env = pure false := by rfl)
    (hw : swappedStores [.Tuple [.Name x p1, .Name y p2] k tpos] (.Tuple [.List [] p3, .List [] p4] k2 p5) env = pure (some [x, y]) := by rfl)
    (hp : (env.scope.kind == .class || (env.scope.kind == .module && env.locals != env.globals)) = false := by rfl) :
    wpC b (model prog w) A (exec (.Assign [.Tuple [.Name x p1, .Name y p2] k tpos] (.Tuple [.List [] p3, .List [] p4] k2 p5) pos) env) Q E s := by
  refine X_Assign2_sw hh ?_ hx hy hs hw hp
  refine X_Tuple ?_
  refine X_items_cons ?_
  refine wpC_of (wpAny_List ?_)
  refine wpAny_items_nil ?_
  refine ⟨Nat.zero_le _, ?_⟩
  refine X_items_cons ?_
  refine wpC_of (wpAny_List ?_)
  refine wpAny_items_nil ?_
  refine ⟨Nat.zero_le _, ?_⟩
  refine X_items_nil ?_
  refine ⟨by show (2 : Nat) ≤ sizeLine; rw [sizeLine_eq]; omega, ?_⟩
  have p1 : ∀ (H : Heap) (o : Obj), Keeps H (H.push o) := fun H o b x e => Heap.get?_push_of_some _ e
  have nn : ∀ (H : Heap), H.get? H.objs.size = none := fun H => none_size (fun _ _ e => e)
  have ni : ∀ (H : Heap), Keeps s.heap H → H.objs.size ∉ hid := fun H k q => by
    obtain ⟨o, ho⟩ := Option.ne_none_iff_exists'.mp (hz _ q)
    have := k _ _ ho
    rw [nn] at this; cases this
  have S₄ := S.new (nn _) (ni _ fun _ _ e => e) (Heap.get?_push_size s.heap (o := lst [] 0) rfl) (p1 s.heap _)
  have S₅ := S₄.new (nn _) (ni _ (p1 _ _)) (Heap.get?_push_size (s.heap.push (lst [] 0)) (o := lst [] 0) rfl) (p1 _ _)
  refine ⟨_, _, _, _, rfl, ⟨_, Heap.get?_push_size _ rfl, rfl, _, rfl⟩, (S₅.grow (p1 _ _)).st.ns, ?_⟩
  intro h₆ tk₆ hns₆ k₆
  refine h h₆ tk₆ _ _ ((S₅.grow (p1 _ _)).store hns₆ k₆) (nn _) ?_ fun b o q e => k₆ b o q (p1 _ _ _ _ (p1 _ _ _ _ (p1 _ _ _ _ e)))
  exact none_size (p1 _ _)

theorem mono_row (r : Row) : Mono (rowP r) := mono_Tup fun P hP => by
  simp only [List.mem_cons, List.not_mem_nil, or_false] at hP
  rcases hP with rfl | rfl | rfl <;> exact mono_Rd _
theorem own_names (w : World) : nsIn (KF w) mainGlobals "_law_names" = some (some (.ref 174)) := rfl
theorem own_equals (w : World) : nsIn (KF w) mainGlobals "_law_equals" = some (some (.ref 189)) := rfl

theorem rows_spec (G : Gd w s.heap) (hh : A.handled = none) (hr : A.depth + 1 < recursionLimit) (hu : A.units + 110 < cLine) {gv wv : Value} {got want : List (Nat × Nat)} (hg : prsP got s.heap gv) (hw : prsP want s.heap wv)
    (hgl : got.length ≤ 100) (hwl : want.length ≤ 100) (hgo : PairsOk got) (hwo : PairsOk want)
    (h : ∀ h' tk a ys nn, h'.get? a = some (lst ys nn) → All2 h' ((rowsOf got want).map rowP) ys → Keeps s.heap h' → R (.ok (.ret (.ref a))) { s with heap := h', toks := tk }) :
    codeC b (model prog w) A (.call (.ref 196) ⟨[gv, wv], []⟩) R s := by
  refine code_fn (binds := [("got", gv), ("want", wv)]) G (fn_rows w) rfl (by omega) (fun _ _ => BindsTo.of_eq (by rfl)) ?_ ?_
  · intro x hx
    simp only [List.mem_cons, List.not_mem_nil, or_false] at hx
    rcases hx with rfl | rfl <;> rfl
  intro h₁ hns hk
  have S₁ := Fm.start G hns hk
  refine wpC_execs_cons ?_
  refine X_Assign_Name ?_
  obtain ⟨of, fd, hof, hfd⟩ := ob_of (fn_names w)
  refine X_Call_own0 (f := 174) (of := of) (fd := fd) ?_ (hk _ _ (G.K _ _ hof)) hfd ?_
  · intro Q' q
    refine nm_own (G.keeps hk) (own_names w) q
  refine names_spec ?_ ?_ s.heap ?_
  · exact G.keeps hk
  · show A.depth + 1 < recursionLimit; omega
  intro nv h₂ tk₂ k₂ hnv
  have S₂ := S₁.based k₂ (ext_old hk k₂) (fun _ _ e => of_ext e) (fun c q1 q2 => ext_none q1 q2) (fun _ q => (nomatch q))
  refine wpAny_storeName_local rfl S₂.st.ns fun h₃ hns₃ sb₃ => ?_
  have S₃ := S₂.store hns₃ (fun b o q e => sb₃.extBut b o q e)
  refine wpC_execs_cons ?_
  refine X_two_lists hh S₃ (fun _ q => (nomatch q)) ?_
  intro h₆ tk₆ rA qA S₆ nr nq k₆
  dsimp only
  refine wpC_execs_cons ?_
  refine X_For_Fm hh (fun i B m mu => ∃ vr vs nr ns, mu = [(qA, lst vs ns), (rA, lst vr nr)] ∧ m "rows" = some (.ref rA) ∧ m "seen" = some (.ref qA) ∧ m "names" = some nv ∧ m "got" = some gv ∧ m "want" = some wv ∧
    All2 B ((((got ++ want).take i).foldl (rowStep (cnt got) (cnt want)) ([], [])).1.map rowP) vr ∧ IntsAre vs ((((got ++ want).take i).foldl (rowStep (cnt got) (cnt want)) ([], [])).2.map fun (n : Nat) => (n : Int)) ∧ vr.length ≤ i ∧ vs.length ≤ i) ?_
  have nd := S₆.st.nd
  have kS₆ : Keeps s.heap h₆ := fun b o e => S₆.st.keep _ _ (ext_old hk k₂ _ _ e)
  have kG : Keeps s.heap (ext s.heap h₁ h₂) := ext_old hk k₂
  obtain ⟨gl, gi, rfl, hgL, hgA⟩ := hg
  obtain ⟨wl, wi, rfl, hwL, hwA⟩ := hw
  have hgz : gi.toList.length = got.length := by have := all2_len hgA; simpa using this.symm
  have hwz : wi.toList.length = want.length := by have := all2_len hwA; simpa using this.symm
  refine wpC_of ?_
  refine wpAny_BinOp ?_
  refine nm_loc S₆.st.ns rfl ?_ rfl rfl
  refine nm_loc S₆.st.ns rfl ?_ rfl rfl
  refine add_l (vs := gi.toList) (ws := wi.toList) ?_ ?_ ?_ ?_
  · rw [Array.toArray_toList]; exact isL_keeps hgL kS₆
  · rw [Array.toArray_toList]; exact isL_keeps hwL kS₆
  · omega
  dsimp only
  have p1 : Keeps h₆ (h₆.push (lst (gi.toList ++ wi.toList) 0)) := fun b x e => Heap.get?_push_of_some _ e
  have S₇ := (S₆.grow p1).rebase
  have hcl := S₆.calm_new p1 (none_size fun _ _ e => e) (fun q => (nomatch q)) (Heap.get?_push_size h₆ (o := lst (gi.toList ++ wi.toList) 0) rfl)
  have kS₇ : Keeps s.heap (calmer _ _ _ (h₆.push (lst (gi.toList ++ wi.toList) 0))) := fun b o e => (S₆.grow p1).calms _ _ (kG _ _ e)
  refine ⟨h₆.objs.size, (gi.toList ++ wi.toList).toArray, _, _, _, rfl, ⟨_, hcl, rfl, _, rfl⟩, S₇, ⟨[], [], 0, 0, rfl, rfl, rfl, rfl, rfl, rfl, .nil, .nil, Nat.zero_le _, Nat.zero_le _⟩, ?_, ?_⟩
  · rintro i v B' m' mu' It o hp tk hi kB ⟨vr, vs, nr, ns, rfl, m1, m2, m3, m4, m5, hvr, hvs, lr, ls⟩ S
    have hi' : (gi.toList ++ wi.toList)[i]? = some v := by simpa using hi
    have hall : All2 B' ((got ++ want).map prP) (gi.toList ++ wi.toList) := by
      rw [List.map_append]
      refine all2_keeps ?_ (fun b o e => kB _ _ (kS₇ _ _ e)) (all2_append hgA hwA)
      intro P hP
      rcases List.mem_append.mp hP with hP | hP <;> (obtain ⟨x, _, rfl⟩ := List.mem_map.mp hP; exact mono_pr x)
    obtain ⟨P, hP, hv⟩ := all2_get' hall hi'
    rw [List.getElem?_map] at hP
    obtain ⟨x, hx, rfl⟩ := Option.map_eq_some_iff.mp hP
    have hxk : x.1 < 8 ∧ x.2 < 2 := by
      rcases List.mem_append.mp (List.mem_of_getElem? hx) with q | q
      · exact hgo x q
      · exact hwo x q
    have hil := (List.getElem?_eq_some_iff.mp hx).1
    rw [List.length_append] at hil
    refine wpC_of ?_
    refine assignR2 hh (mono_pr x _ _ _ S.st.keep hv) S.st.ns rfl rfl fun h₈ tk₈ a c hn₈ k₈ => ?_
    have S₈ := S.store hn₈ k₈
    refine wpC_execs_cons ?_
    refine X_If ?_
    refine X_isTrue_Compare1 ?_
    refine wpC_of (nm_loc S₈.st.ns rfl ?_ rfl rfl)
    refine wpC_of (nm_loc S₈.st.ns m2 ?_ rfl rfl)
    have hseen := (S₈.st.mem (qA, lst vs ns) (by simp)).1
    refine notin_list_ints ⟨_, hseen, rfl, _, rfl⟩ hvs ?_
    refine wpAny_truthy_bool ?_
    have hnext : ((got ++ want).take (i + 1)).foldl (rowStep (cnt got) (cnt want)) ([], []) = rowStep (cnt got) (cnt want) (((got ++ want).take i).foldl (rowStep (cnt got) (cnt want)) ([], [])) x := by
      rw [List.take_add_one, hx, List.foldl_append]; rfl
    generalize hst : ((got ++ want).take i).foldl (rowStep (cnt got) (cnt want)) ([], []) = st at hvr hvs hnext ⊢
    have hany : ((st.2.map fun (n : Nat) => (n : Int)).any fun z => z == (x.1 : Int)) = st.2.contains x.1 := by
      rw [List.any_map, Bool.eq_iff_iff]
      simp only [List.any_eq_true, Function.comp_apply, beq_iff_eq, List.contains_iff_mem]
      constructor
      · rintro ⟨z, hz, e⟩
        have : z = x.1 := by omega
        exact this ▸ hz
      · intro hz
        exact ⟨x.1, hz, rfl⟩
    rw [hany]
    cases hsn : st.2.contains x.1 with
    | true =>
      simp only [Bool.not_true, Bool.false_eq_true, if_false]
      refine wpC_execs_nil ?_
      refine wpC_execs_nil ?_
      refine ⟨B', _, _, h₈, _, rfl, fun _ _ e => e, S₈, vr, vs, nr, ns, rfl, m1, m2, m3, m4, m5, ?_, ?_, by omega, by omega⟩
      · rw [hnext]; unfold rowStep; rw [hsn, if_pos rfl]; exact hvr
      · rw [hnext]; unfold rowStep; rw [hsn, if_pos rfl]; exact hvs
    | false =>
      simp only [Bool.not_false, if_true]
      refine wpC_execs_cons ?_
      refine wpC_of ?_
      refine X_append S₈.st.ns m2 hseen (by omega) ?_
      refine nm_loc S₈.st.ns rfl ?_ rfl rfl
      refine ⟨hseen, fun h₉ hq₉ k₉ => ?_⟩
      have S₉ : Fm w B' _ _ [(It, o), (qA, lst (vs ++ [.int x.1 a]) (ns + 1)), (rA, lst vr nr)] [] h₉ := Fm.upd (l₁ := [(It, o)]) S₈ hq₉ k₉
      dsimp only
      refine wpC_execs_cons ?_
      refine X_Assign2_sw hh ?_
      refine X_Tuple ?_
      refine X_items_cons ?_
      obtain ⟨oe, fe, hoe, hfe⟩ := ob_of (fn_equals w)
      refine X_Call_own (f := 189) (of := oe) (fd := fe) ?_ ?_ hfe
      · intro Q' q
        refine nm_own S₉.gdh (own_equals w) q
      refine X_items_cons ?_
      refine wpC_of (nm_loc S₉.st.ns m4 ?_ rfl rfl)
      refine X_items_cons ?_
      refine wpC_of (nm_loc S₉.st.ns rfl ?_ rfl rfl)
      refine X_items_nil ?_
      refine ⟨S₉.gdh.K _ _ hoe, ?_⟩
      have kB₉ : Keeps s.heap h₉ := fun b o e => S₉.st.keep _ _ (kB _ _ (kS₇ _ _ e))
      refine equals_spec (ps := got) (k := x.1) ?_ ?_ ?_ ?_ ?_ ?_ ?_
      · exact S₉.gdh
      · exact hh
      · show A.depth + 1 < recursionLimit; omega
      · show A.units + 3 + 100 < cLine; omega
      · exact mono_prs got _ _ _ kB₉ ⟨gl, gi, rfl, hgL, hgA⟩
      · omega
      intro h₁₀ tk₁₀ t₁ k₁₀
      have S₁₀ := S₉.grow k₁₀
      dsimp only
      refine X_items_cons ?_
      refine X_Call_own (f := 189) (of := oe) (fd := fe) ?_ ?_ hfe
      · intro Q' q
        refine nm_own S₁₀.gdh (own_equals w) q
      refine X_items_cons ?_
      refine wpC_of (nm_loc S₁₀.st.ns m5 ?_ rfl rfl)
      refine X_items_cons ?_
      refine wpC_of (nm_loc S₁₀.st.ns rfl ?_ rfl rfl)
      refine X_items_nil ?_
      refine ⟨S₁₀.gdh.K _ _ hoe, ?_⟩
      refine equals_spec (ps := want) (k := x.1) ?_ ?_ ?_ ?_ ?_ ?_ ?_
      · exact S₁₀.gdh
      · exact hh
      · show A.depth + 1 < recursionLimit; omega
      · show A.units + 3 + 100 < cLine; omega
      · exact mono_prs want _ _ _ (fun b o e => k₁₀ _ _ (kB₉ _ _ e)) ⟨wl, wi, rfl, hwL, hwA⟩
      · omega
      intro h₁₁ tk₁₁ t₂ k₁₁
      have S₁₁ := S₁₀.grow k₁₁
      dsimp only
      refine X_items_nil ?_
      refine ⟨by show (2 : Nat) ≤ sizeLine; rw [sizeLine_eq]; omega, ?_⟩
      have p2 : Keeps h₁₁ (h₁₁.push { cls := .type "tuple", data := .seq [Value.int (cnt got x.1) t₁, .int (cnt want x.1) t₂].toArray }) := fun b o e => Heap.get?_push_of_some _ e
      refine ⟨_, _, _, _, rfl, ⟨_, Heap.get?_push_size _ rfl, rfl, _, rfl⟩, (S₁₁.grow p2).st.ns, ?_⟩
      intro h₁₂ tk₁₂ hns₁₂ k₁₂
      have S₁₂ := (S₁₁.grow p2).store hns₁₂ k₁₂
      dsimp only
      refine wpC_execs_cons ?_
      refine X_If ?_
      refine X_isTrue_Compare1 ?_
      refine wpC_of (nm_loc S₁₂.st.ns rfl ?_ rfl rfl)
      refine wpC_of (nm_loc S₁₂.st.ns rfl ?_ rfl rfl)
      refine ne_int ?_
      refine wpAny_truthy_bool ?_
      have hrow := (S₁₂.st.mem (rA, lst vr nr) (by simp)).1
      have hnew : rowStep (cnt got) (cnt want) st x = (if cnt got x.1 != cnt want x.1 then st.1 ++ [(cnt got x.1, cnt want x.1, nameOf x.1 x.2)] else st.1, st.2 ++ [x.1]) := by
        unfold rowStep; rw [hsn]; rfl
      have hvs' : IntsAre (vs ++ [.int x.1 a]) ((st.2 ++ [x.1]).map fun (n : Nat) => (n : Int)) := by
        rw [List.map_append]; exact IntsAre.append hvs (.cons _ _ .nil)
      have hbe : (((cnt got x.1 : Nat) : Int) != (cnt want x.1 : Int)) = (cnt got x.1 != cnt want x.1) := by
        rw [Bool.eq_iff_iff]; simp only [bne_iff_ne, ne_eq]; omega
      show if (((cnt got x.1 : Nat) : Int) != (cnt want x.1 : Int)) = true then _ else _
      rw [hbe]
      cases hne : cnt got x.1 != cnt want x.1 with
      | false =>
        simp only [Bool.false_eq_true, if_false]
        refine wpC_execs_nil ?_
        refine wpC_execs_nil ?_
        refine wpC_execs_nil ?_
        refine ⟨B', _, _, h₁₂, _, rfl, fun _ _ e => e, S₁₂, vr, _, nr, _, rfl, m1, m2, m3, m4, m5, ?_, ?_, by omega, by simp; omega⟩
        · rw [hnext, hnew, hne]; exact hvr
        · rw [hnext, hnew]; exact hvs'
      | true =>
        simp only [if_true]
        refine wpC_execs_cons ?_
        refine wpC_of ?_
        refine X_append S₁₂.st.ns m1 hrow (by omega) ?_
        refine wpAny_Tuple ?_
        refine wpAny_items_cons ?_
        refine nm_loc S₁₂.st.ns rfl ?_ rfl rfl
        refine wpAny_items_cons ?_
        refine nm_loc S₁₂.st.ns rfl ?_ rfl rfl
        refine wpAny_items_cons ?_
        refine Subscript_ ?_
        refine Subscript_ ?_
        refine nm_loc S₁₂.st.ns m3 ?_ rfl rfl
        refine nm_loc S₁₂.st.ns rfl ?_ rfl rfl
        obtain ⟨P, hP, Ps, rfl, hPs⟩ := names_at hxk.1 hxk.2
        have kN : Keeps (ext s.heap h₁ h₂) h₁₂ := fun b o e => S₁₂.st.keep _ _ (kB _ _ ((S₆.grow p1).calms _ _ e))
        refine sub_tup hnv kN hP (by omega) fun y hy => ?_
        refine nm_loc S₁₂.st.ns rfl ?_ rfl rfl
        refine sub_tup hy kN hPs (by omega) fun z hz => ?_
        refine wpAny_items_nil ?_
        refine ⟨by show (3 : Nat) ≤ sizeLine; rw [sizeLine_eq]; omega, ?_⟩
        obtain ⟨_, rz⟩ := hz
        cases rz with
        | str _ tz =>
        have p3 : Keeps h₁₂ (h₁₂.push { cls := .type "tuple", data := .seq [Value.int (cnt got x.1) t₁, .int (cnt want x.1) t₂, .str (nameOf x.1 x.2) tz].toArray }) := fun b o e => Heap.get?_push_of_some _ e
        refine ⟨p3 _ _ hrow, fun h₁₃ hq₁₃ k₁₃ => ?_⟩
        have S₁₃ : Fm w B' _ _ [(It, o), (qA, lst (vs ++ [.int x.1 a]) (ns + 1)), (rA, lst (vr ++ [.ref h₁₂.objs.size]) (nr + 1))] [] h₁₃ := Fm.upd (l₁ := [(It, o), (qA, lst (vs ++ [.int x.1 a]) (ns + 1))]) (S₁₂.grow p3) hq₁₃ k₁₃
        have nz : h₁₂.get? h₁₂.objs.size = none := none_size fun _ _ e => e
        have hT : h₁₃.get? h₁₂.objs.size = some { cls := .type "tuple", data := .seq [Value.int (cnt got x.1) t₁, .int (cnt want x.1) t₂, .str (nameOf x.1 x.2) tz].toArray } :=
          k₁₃ _ _ (fun q => by rw [← q, nz] at hrow; cases hrow) (Heap.get?_push_size _ rfl)
        have hTb := S₁₃.calm_at (a := h₁₂.objs.size) hT (fun q => by
          obtain ⟨o', _, _, e, _⟩ := S₁₂.st.ns
          rw [← q, nz] at e; cases e) (fun q => by
          simp only [List.map_cons, List.map_nil, List.mem_cons, List.not_mem_nil, or_false] at q
          rcases q with q | q | q
          · have := (S₁₂.st.mem (It, o) (by simp)).1; dsimp only at this; rw [← q, nz] at this; cases this
          · have := (S₁₂.st.mem (qA, lst (vs ++ [.int x.1 a]) (ns + 1)) (by simp)).1; dsimp only at this; rw [← q, nz] at this; cases this
          · rw [← q, nz] at hrow; cases hrow) (fun q => (nomatch q))
        refine wpC_execs_nil ?_
        refine wpC_execs_nil ?_
        refine wpC_execs_nil ?_
        refine ⟨_, _, _, h₁₃, _, rfl, S₁₃.calms, S₁₃.rebase, _, _, _, _, rfl, m1, m2, m3, m4, m5, ?_, ?_, by simp; omega, by simp; omega⟩
        · rw [hnext, hnew, hne, if_pos rfl, List.map_append]
          refine all2_append (all2_keeps ?_ S₁₃.calms hvr) (.cons ⟨_, _, rfl, ⟨_, hTb, rfl, _, rfl⟩, .cons ⟨_, .int _ _⟩ (.cons ⟨_, .int _ _⟩ (.cons ⟨_, .str _ _⟩ .nil))⟩ .nil)
          intro P hP
          obtain ⟨x, _, rfl⟩ := List.mem_map.mp hP
          exact mono_row x
        · rw [hnext, hnew]; exact hvs'
  · rintro B' m' mu' hp tk kB ⟨vr, vs, nr, ns, rfl, m1, m2, m3, m4, m5, hvr, hvs, lr, ls⟩ S
    refine wpC_execs_cons ?_
    refine X_Return ?_
    refine wpC_of (nm_loc S.st.ns m1 ?_ rfl rfl)
    have hz : (gi.toList ++ wi.toList).toArray.size = (got ++ want).length := by simp [hgz, hwz]
    rw [hz, List.take_length] at hvr
    have hr := (S.st.mem (rA, lst vr nr) (by simp)).1
    exact h _ _ rA vr nr hr (all2_keeps (fun P hP => by obtain ⟨x, _, rfl⟩ := List.mem_map.mp hP; exact mono_row x) S.st.keep hvr) fun b o e => S.st.keep _ _ (kB _ _ (kS₇ _ _ e))
end
end Mine
end

/-! part Le -/
section
open PySem PySem.W PyProof.Rows PySem.Calls
set_option maxRecDepth 100000
namespace Mine
theorem Fm.swap {w : World} {B : Heap} {L : Addr} {m : Str → Option Value} {mu : List (Addr × Obj)} {hid : List Addr} {h : Heap} {p q : Addr × Obj} (S : Fm w B L m (p :: q :: mu) hid h) : Fm w B L m (q :: p :: mu) hid h :=
  ⟨S.st.swap, S.hb, S.hL, fun x hx => S.hm x (by simp only [List.mem_cons] at hx ⊢; rcases hx with e | e | e <;> simp [e])⟩
section
variable {b : Bool} {w : World} {A : Around} {E : Value → Shared → Prop} {s : Shared} {env : Env}

/-- a loop over an enumerated list, which may change under it but keeps its length `N` -/
theorem X_For_enum {elts : List PySem.Expr} {k : Nat} {tpos : Pos} {iter : PySem.Expr} {body : List Stmt} {pos : Pos} {Q : Flow → Shared → Prop} (hh : A.handled = none) (N : Nat) (J : Nat → Heap → (Str → Option Value) → List (Addr × Obj) → Prop)
    (h : wpC b (model prog w) A (eval iter env) (fun x s₁ => ∃ l En It B m mu, x = .ref En ∧ IsEnum s₁.heap En It 0 .none ∧ s₁.heap.IsListIter It l 0 ∧ En ≠ It ∧ l ≠ En ∧ l ≠ It ∧ Fm w B env.locals m mu [En, It] s₁.heap ∧ J 0 B m mu ∧
      (∀ i B' m' mu' h, Keeps B B' → J i B' m' mu' → Fm w B' env.locals m' mu' [En, It] h → ∃ items, h.IsList l items ∧ items.size = N) ∧
      (∀ i v B' m' mu' oE oI T tk0 h tk, i < N → Keeps B B' → J i B' m' mu' → Fm w B' env.locals m' ((En, oE) :: (It, oI) :: mu') [] h → (∃ items, h.IsList l items ∧ items.size = N ∧ items[i]? = some v) → h.IsTuple T #[.int i tk0, v] →
        wpC b (model prog w) A (assign (.Tuple elts k tpos) env (.ref T)) (fun _ s₂ => wpC b (model prog w) A (execs body env) (fun f s₃ => match f with
        | .next | .cont => ∃ B'' m'' mu'' h'' tk'', s₃ = { s₁ with heap := h'', toks := tk'' } ∧ Keeps B' B'' ∧ Fm w B'' env.locals m'' ((En, oE) :: (It, oI) :: mu'') [] h'' ∧ J (i + 1) B'' m'' mu''
        | _ => False) (fun _ _ => False) s₂) (fun _ _ => False) { s₁ with heap := h, toks := tk }) ∧
      (∀ B' m' mu' h tk, Keeps B B' → J N B' m' mu' → Fm w B' env.locals m' mu' [] h → Q .next { s₁ with heap := h, toks := tk })) E s)
    (hs : ∀ x, foldedSetIterable iter env x = pure x := by intro _; rfl) :
    wpC b (model prog w) A (exec (.For (.Tuple elts k tpos) iter body [] pos) env) Q E s := by
  refine X_For (wpC_mono h (fun x s₁ h₁ => ?_) fun _ _ e => e) hs
  obtain ⟨l, En, It, B, m, mu, rfl, hE, hI, hEI, hlE, hlI, S, j0, size, turn, post⟩ := h₁
  refine wpAny_pyIter_enum hE ?_
  refine X_forLoop (fun c s' => ∃ h tk i old B' m' mu', s' = { s₁ with heap := h, toks := tk } ∧ i ≤ N ∧ c = N - i ∧ Keeps B B' ∧ J i B' m' mu' ∧ Fm w B' env.locals m' mu' [En, It] h ∧ IsEnum h En It (i : Int) old ∧ h.IsListIter It l i) ?_ N
    ⟨s₁.heap, s₁.toks, 0, .none, B, m, mu, rfl, Nat.zero_le _, rfl, fun _ _ e => e, j0, S, hE, hI⟩
  rintro c s' ⟨h, tk, i, old, B', m', mu', rfl, hi, rfl, kB, j, S', hE', hI'⟩
  obtain ⟨items, hl, hz⟩ := size i B' m' mu' h kB j S'
  by_cases hlt : i < N
  · have hv : items[i]? = some items[i] := by simp [hz, hlt]
    refine wpAny_pyNext_enum_item hE' hI' hl hv hEI fun h₂ eo ei ht hsz kk => ?_
    dsimp only
    refine wpAny_letOwnedTupleGo_enum eo fun h₃ e₃ sb => ?_
    have nin : ∀ {b : Addr}, b ∉ [En, It] ↔ (b ≠ En ∧ b ≠ It) := by intro b; simp
    have k₃ : ∀ b o, b ∉ [En, It] → h.get? b = some o → h₃.get? b = some o := fun b o q e => sb.extBut b o (nin.mp q).1 (kk b o (nin.mp q).1 (nin.mp q).2 e)
    have S₃ := S'.touch k₃
    have hI₃ : h₃.IsListIter It l (i + 1) := ei.at fun o e => sb.extBut _ o hEI.symm e
    obtain ⟨oI, hoI, hrI⟩ := id hI₃
    have hl₃ : h₃.IsList l items := hl.at fun o e => k₃ _ o (nin.mpr ⟨hlE, hlI⟩) e
    have hTE : h.objs.size ≠ En := Nat.ne_of_gt (Heap.lt_size hE')
    have hT₃ : h₃.IsTuple h.objs.size #[.int i tk, items[i]] := ⟨_, sb.extBut _ _ hTE ht, rfl, _, rfl⟩
    obtain ⟨oE, hoE, hrE⟩ : ∃ o, h₃.get? En = some o ∧ ∀ H : Heap, H.get? En = some o → IsEnum H En It ((i : Int) + 1) items[i] := ⟨_, e₃, fun _ e => e⟩
    have S₄ := (S₃.unhide (by simpa using hEI) hoE).unhide (fun q => (nomatch q)) hoI
    have T := turn i items[i] B' m' mu' _ oI h.objs.size tk h₃ (tk + 1) hlt kB j S₄.swap ⟨items, hl₃, hz, hv⟩ hT₃
    refine wpC_mono T (fun _ s₂ h₂ => wpC_mono h₂ (fun f s₃ h₃ => ?_) fun _ _ e => e) fun _ _ e => e
    have fin : (∃ B'' m'' mu'' h'' tk'', s₃ = { s₁ with heap := h'', toks := tk'' } ∧ Keeps B' B'' ∧ Fm w B'' env.locals m'' ((En, oE) :: (It, oI) :: mu'') [] h'' ∧ J (i + 1) B'' m'' mu'') →
        ∃ c, c < N - i ∧ ∃ h tk i old B' m' mu', s₃ = { s₁ with heap := h, toks := tk } ∧ i ≤ N ∧ c = N - i ∧ Keeps B B' ∧ J i B' m' mu' ∧ Fm w B' env.locals m' mu' [En, It] h ∧ IsEnum h En It (i : Int) old ∧ h.IsListIter It l i := by
      rintro ⟨B'', m'', mu'', h'', tk'', rfl, k', S'', j'⟩
      refine ⟨N - (i + 1), by omega, h'', tk'', i + 1, items[i], B'', m'', mu'', rfl, hlt, rfl, fun b o e => k' _ _ (kB _ _ e), j', S''.swap.rehide.rehide, ?_, ?_⟩
      · exact hrE _ (S''.st.mem (En, oE) (List.mem_cons_self ..)).1
      · exact ⟨oI, (S''.st.mem (It, oI) (by simp)).1, hrI⟩
    cases f with
    | next => exact fin h₃
    | cont => exact fin h₃
    | brk => exact h₃.elim
    | ret _ => exact h₃.elim
  · have hin : i = N := by omega
    subst hin
    refine wpAny_pyNext_enum_end hh hE' hI' hl (by simp [hz]) fun h₂ e₂ => ?_
    refine post B' m' mu' h₂ tk kB j ?_
    exact (S'.touch fun b o q e => e₂ b o (fun z => q (by rw [z]; simp)) e).show'.show'
end
end Mine
end

/-! part Lr -/
section
open PySem PySem.W PyProof.Rows PySem.Calls
set_option maxRecDepth 100000
namespace Mine
section
variable {b : Bool} {w : World} {A : Around} {E : Value → Shared → Prop} {s : Shared} {env : Env}

/-- a loop over a range of naturals -/
theorem X_For_range {x : Str} {px : Pos} {iter : PySem.Expr} {body : List Stmt} {pos : Pos} {Q : Flow → Shared → Prop} (hh : A.handled = none) (a n : Nat) (J : Nat → Heap → (Str → Option Value) → List (Addr × Obj) → Prop)
    (h : wpC b (model prog w) A (eval iter env) (fun y s₁ => ∃ r t u v B m mu, y = .ref r ∧ IsRange s₁.heap r (a : Int) ((a + n : Nat) : Int) 1 t u v ∧ a + n ≤ 1000 ∧ Fm w B env.locals m mu [] s₁.heap ∧ J 0 B m mu ∧
      (∀ i B' m' mu' It o tk h tk', i < n → Keeps B B' → J i B' m' mu' → Fm w B' env.locals m' ((It, o) :: mu') [] h → wpC b (model prog w) A (assign (.Name x px) env (.int ((a + i : Nat) : Int) tk)) (fun _ s₂ => wpC b (model prog w) A (execs body env) (fun f s₃ => match f with
        | .next | .cont => ∃ B'' m'' mu'' h'' tk'', s₃ = { s₁ with heap := h'', toks := tk'' } ∧ Keeps B' B'' ∧ Fm w B'' env.locals m'' ((It, o) :: mu'') [] h'' ∧ J (i + 1) B'' m'' mu''
        | _ => False) (fun _ _ => False) s₂) (fun _ _ => False) { s₁ with heap := h, toks := tk' }) ∧
      (∀ B' m' mu' h tk, Keeps B B' → J n B' m' mu' → Fm w B' env.locals m' mu' [] h → Q .next { s₁ with heap := h, toks := tk })) E s)
    (hs : ∀ x, foldedSetIterable iter env x = pure x := by intro _; rfl) :
    wpC b (model prog w) A (exec (.For (.Name x px) iter body [] pos) env) Q E s := by
  refine X_For (wpC_mono h (fun y s₁ h₁ => ?_) fun _ _ e => e) hs
  obtain ⟨r, t, u, v, B, m, mu, rfl, hR, han, S, j0, turn, post⟩ := h₁
  have hsz : Builtin.Range.rangeSize (a : Int) ((a + n : Nat) : Int) 1 = (n : Int) := by
    unfold Builtin.Range.rangeSize
    simp
    omega
  refine wpAny_pyIter_range hR ?_ ?_
  · unfold Builtin.Range.small
    rw [hsz]
    unfold Builtin.Range.rangeFitsLong
    simp
    omega
  rw [hsz]
  have kp : Keeps s₁.heap (s₁.heap.push { cls := .type "range_iterator", data := .fields #[rawInt (a : Int), rawInt (n : Int), rawInt 1] }) := fun b o e => Heap.get?_push_of_some _ e
  refine X_forLoop (fun c s' => ∃ h tk i B' m' mu', s' = { s₁ with heap := h, toks := tk } ∧ i ≤ n ∧ c = n - i ∧ Keeps B B' ∧ J i B' m' mu' ∧ Fm w B' env.locals m' mu' [s₁.heap.objs.size] h ∧ IsRangeIter h s₁.heap.objs.size ((a : Int) + i) ((n : Int) - i) 1) ?_ n
    ⟨_, s₁.toks, 0, B, m, mu, rfl, Nat.zero_le _, rfl, fun _ _ e => e, j0, (S.hide (none_size fun _ _ e => e)).grow kp, ?_⟩
  · rintro c s' ⟨h, tk, i, B', m', mu', rfl, hi, rfl, kB, j, S', hI⟩
    by_cases hlt : i < n
    · refine wpAny_pyNext_range_item hI (by omega) fun h₂ hI₂ sb => ?_
      dsimp only
      refine wpAny_of_eq (rfl : letOwnedTupleGo (.Name x px) _ _ = pure ()) ?_
      have S₂ := S'.touch fun b o q e => sb.extBut b o (fun z => q (by rw [z]; simp)) e
      obtain ⟨o, ho, hr⟩ : ∃ o, h₂.get? s₁.heap.objs.size = some o ∧ ∀ H : Heap, H.get? s₁.heap.objs.size = some o → IsRangeIter H s₁.heap.objs.size ((a : Int) + i + 1) ((n : Int) - i - 1) 1 := ⟨_, hI₂, fun _ e => e⟩
      have T := turn i B' m' mu' s₁.heap.objs.size o tk h₂ (tk + 1) hlt kB j (S₂.unhide (fun q => (nomatch q)) ho)
      have ev : (((a + i : Nat) : Int)) = (a : Int) + i := by omega
      rw [ev] at T
      refine wpC_mono T (fun _ s₂ h₂ => wpC_mono h₂ (fun f s₃ h₃ => ?_) fun _ _ e => e) fun _ _ e => e
      have fin : (∃ B'' m'' mu'' h'' tk'', s₃ = { s₁ with heap := h'', toks := tk'' } ∧ Keeps B' B'' ∧ Fm w B'' env.locals m'' ((s₁.heap.objs.size, o) :: mu'') [] h'' ∧ J (i + 1) B'' m'' mu'') →
          ∃ c, c < n - i ∧ ∃ h tk i B' m' mu', s₃ = { s₁ with heap := h, toks := tk } ∧ i ≤ n ∧ c = n - i ∧ Keeps B B' ∧ J i B' m' mu' ∧ Fm w B' env.locals m' mu' [s₁.heap.objs.size] h ∧ IsRangeIter h s₁.heap.objs.size ((a : Int) + i) ((n : Int) - i) 1 := by
        rintro ⟨B'', m'', mu'', h'', tk'', rfl, k', S'', j'⟩
        have := hr h'' (S''.st.mem _ (List.mem_cons_self ..)).1
        have e1 : (a : Int) + ((i + 1 : Nat) : Int) = (a : Int) + i + 1 := by omega
        have e2 : (n : Int) - ((i + 1 : Nat) : Int) = (n : Int) - i - 1 := by omega
        exact ⟨n - (i + 1), by omega, h'', tk'', i + 1, B'', m'', mu'', rfl, hlt, rfl, fun b o e => k' _ _ (kB _ _ e), j', S''.rehide, by rw [e1, e2]; exact this⟩
      cases f with
      | next => exact fin h₃
      | cont => exact fin h₃
      | brk => exact h₃.elim
      | ret _ => exact h₃.elim
    · have hin : i = n := by omega
      subst hin
      refine wpAny_pyNext_range_end hh hI (by omega) fun h₂ e₂ => ?_
      refine post B' m' mu' h₂ tk kB j ?_
      exact (S'.touch fun b o q e => e₂ b o (fun z => q (by rw [z]; simp)) e).show'
  · have : IsRangeIter (s₁.heap.push { cls := .type "range_iterator", data := .fields #[rawInt (a : Int), rawInt (n : Int), rawInt 1] }) s₁.heap.objs.size (a : Int) (n : Int) 1 := Heap.get?_push_size _ rfl
    simpa using this
end
end Mine
end

/-! part Si -/
section
open PySem PySem.W PyProof.Rows PySem.Calls
set_option maxRecDepth 100000
namespace Mine
section
variable {b : Bool} {w : World} {A : Around} {E : Value → Shared → Prop} {s : Shared} {env : Env}

theorem fits_nat {k : Nat} (hk : k < 1000) : Builtin.List.listFitsIndex (k : Int) = true := fitsIndex_of (by omega) (by omega)
/-- one place of a list is written, the object else as it was -/
theorem set_at {l : Addr} {xs : List Value} {n k : Nat} {t : Tok} {v : Value} {Q : Unit → Shared → Prop} (ho : s.heap.get? l = some (lst xs n)) (hk : k < xs.length) (hz : xs.length ≤ 1000)
    (h : ∀ h' n', h'.get? l = some (lst (xs.set k v) n') → (∀ b o, b ≠ l → s.heap.get? b = some o → h'.get? b = some o) → Q () { s with heap := h' }) :
    wpAny (model prog w) A (setItem (.ref l) (.int (k : Int) t) v) Q E s := by
  have hl : s.heap.IsList l xs.toArray := ⟨_, ho, rfl, _, rfl⟩
  obtain ⟨K, hK⟩ : ∃ K : Int, (k : Int) = K := ⟨_, rfl⟩
  have hfit : Builtin.List.listFitsIndex K = true := hK ▸ fits_nat (by omega)
  rw [hK]
  unfold setItem
  try with_reducible refine wpAny_holding ?_
  first | refine wpAny_bind (wpAny_pure ?_) | skip
  refine wpAny_bind (wpAny_sequenceKey hl.typeIs (by decide) ?_)
  refine wpAny_bind (wpAny_callSpecial?_slot (name := Str.ofString "__setitem__") hl.typeIs slot_list_setitem (wpAny_call_entry slot_list_setitem hl.typeIs entry_list_setitem ?_ (args_list_setitem _ _ _)))
  show wpAny _ _ (Builtin.List.listSubscript? (.int K t) >>= _) _ _ s
  refine wpAny_bind (wpAny_listSubscript_int hfit ?_)
  clear hfit
  subst hK
  have hx : xs.toArray[k]? = some xs[k] := by simp [hk]
  show wpAny _ _ ((seqItemAt l k >>= fun r => pure (r.map (k, ·))) >>= _) _ _ s
  refine wpAny_bind (wpAny_bind (wpAny_seqItemAt ho rfl (wpAny_pure ?_)))
  rw [hx]
  show wpAny _ _ (setSeqItemAt l k v >>= _) _ _ s
  have key : ∃ n', (s.heap.update l (Obj.mapSeq (·.setIfInBounds k v))).get? l = some (lst (xs.set k v) n') := by
    have := Heap.get?_update_self (Obj.mapSeq (·.setIfInBounds k v)) ho rfl
    rw [this]
    refine ⟨if (((fun x : Array Value => x.setIfInBounds k v) xs.toArray).size == xs.toArray.size) = true then n else n + 1, ?_⟩
    show some ({ cls := _, dict := _, data := .seq (xs.toArray.setIfInBounds k v) _, slots := _ } : Obj) = _
    have e1 : xs.toArray.setIfInBounds k v = (xs.set k v).toArray := by simp
    dsimp only
    generalize (if ((xs.toArray.setIfInBounds k v).size == xs.toArray.size) = true then n else n + 1) = N
    rw [e1]
  obtain ⟨n', hn'⟩ := key
  have fin := h _ n' hn' fun b o q e => (Heap.get?_update_other _ _ (fun z : l = b => q z.symm)).trans e
  refine wpAny_bind (wpAny_setSeqItemAt ho rfl ?_)
  first
    | exact wpAny_bind (wpAny_pure (wpAny_pure ⟨.none, rfl, wpAny_pure fin⟩))
    | exact wpAny_pure ⟨.none, rfl, wpAny_pure fin⟩
end
end Mine
end

/-! part Nl -/
section
open PySem PySem.W PyProof.Rows PySem.Calls PySem.SeqAt
set_option maxRecDepth 100000
namespace Mine
section
variable {b : Bool} {w : World} {A : Around} {E : Value → Shared → Prop} {s : Shared} {env : Env}

theorem thing_not_null {l : Addr} {k f : Nat} {v : Value} {Q : Bool → Shared → Prop} (hl : s.heap.get? l = some nullObj) (x : Thing w s.heap k f v) (h : Q false s) : wpAny (model prog w) A (isSame v (.ref l)) Q E s := by
  rcases x.sort (A := A) with ⟨d, as, hm, r, ⟨T, id, P⟩, n5, n7⟩ | ⟨rfl, ⟨l', o, rfl, ho, hc, hf, sd⟩, _⟩ | ⟨rfl, ⟨l', o, rfl, ho, hc, hf, sd⟩, _⟩
  · exact (P.same l _ hl (.inr (.inr rfl)) (by decide) _ _ _ _ Q h).1
  · have hne : l' ≠ l := fun e => by rw [e, hl] at ho; cases ho; simp at hc
    exact wpAny_isSame_ref_other' hne ho hl (by decide) h
  · have hne : l' ≠ l := fun e => by rw [e, hl] at ho; cases ho; simp at hc
    exact wpAny_isSame_ref_other' hne ho hl (by decide) h

/-- `v is NULL` -/
theorem is_null_thing {l : Addr} {k f : Nat} {v : Value} {Q : Value → Shared → Prop} (hl : s.heap.get? l = some nullObj) (x : Thing w s.heap k f v) (h : Q (.bool false) s) : wpAny (model prog w) A (compareOp .Is v (.ref l)) Q E s :=
  wpAny_bind (thing_not_null hl x (wpAny_pure h))
theorem is_null_null {l : Addr} {Q : Value → Shared → Prop} (h : Q (.bool true) s) : wpAny (model prog w) A (compareOp .Is (.ref l) (.ref l)) Q E s :=
  wpAny_bind (wpAny_isSame_ref_self (wpAny_pure h))
end
end Mine
end

/-! part Ob -/
section
open PySem PySem.W PyProof.Rows PySem.Calls
set_option maxRecDepth 100000
namespace Mine
theorem ob_mro : mroOf (.type "object") = pure [.type "object"] := by kernel_rfl
theorem ob_lookup_new : typeLookup (.type "object") "__new__" = pure (some (.builtin "object.__new__")) := by rw [typeLookup_type, builtinLookup_eq_fast]; kernel_rfl
theorem ob_slot_init : Slot "object" "__init__" "object.__init__" :=
  .of (owner := "object") (n := "__init__") (by rw [typeLookup_type, builtinLookup_eq_fast]; kernel_rfl) (by decide +kernel) (by decide +kernel) (by decide +kernel)
    (by first | exact .inl (by decide +kernel) | exact .inr (by decide +kernel)) (by rw [isSubtype_type]; kernel_rfl)
theorem ob_called : TypeCalled "object" "object.__new__" "object.__init__" :=
  ⟨by decide +kernel, by decide +kernel, ⟨_, _, ob_mro⟩, madeBy_type ob_mro ob_lookup_new (by decide +kernel), by decide +kernel, by rw [isSubtype_type]; kernel_rfl, ob_slot_init⟩
theorem ob_typeCall : checkTypeCall "object" ⟨[], []⟩ = pure () := by kernel_rfl
theorem ob_newCall : checkBuiltinCall "object.__new__" ⟨[.type "object"], []⟩ = pure () := by kernel_rfl
theorem ob_here : Bind.madeHere "object.__new__" (.type "object") = pure () := by kernel_rfl
theorem ob_isType : isType (.type "object") = pure true := by kernel_rfl
theorem ob_dict : typeHasDict (.type "object") = false := by kernel_rfl
theorem ob_dies : diesByItsTypesDel "object" = false := by kernel_rfl
theorem ob_refuses : ((Manifest.find? "object").elim false (·.mro.any fun t => (Manifest.find? t).elim false (·.noNew))) = false := by kernel_rfl
theorem ob_args (v : Value) : argsOk "object.__init__" ⟨[v], []⟩ := by unfold argsOk; kernel_rfl
section
variable {prog : Program} {w : World} {A : Around} {E : Value → Shared → Prop} {s : Shared}
theorem ob_code {Q₁ : Value → Shared → Prop} (h : Q₁ (.ref s.heap.objs.size) { s with heap := s.heap.push { cls := .type "object" } }) :
    codeAny (model prog w) A (.call (.builtin "object.__new__") ⟨[.type "object"], []⟩) (wants Q₁ E) s := by
  refine codeAny_call_builtin (by decide +kernel) PySem.F.objNew.entry (wpAny_of_eq ob_newCall ?_)
  unfold Builtin.«object.__new__»
  dsimp only
  rw [ob_isType]
  refine wpAny_bind (wpAny_pure ?_)
  simp only [Bool.not_true, Bool.false_eq_true, if_false]
  rw [if_neg (by rw [ob_refuses]; exact Bool.false_ne_true)]
  rw [ob_here]
  refine wpAny_bind (wpAny_pure ?_)
  rw [if_neg (by simp)]
  rw [if_neg (by rw [ob_dict]; exact Bool.false_ne_true)]
  refine wpAny_bind (wpAny_pure ?_)
  rw [ob_dies]
  unfold newObj newObjAsIs
  dsimp only
  refine wpAny_bind (wpAny_bind (wpAny_alloc (wpAny_pure ?_)))
  rw [if_neg Bool.false_ne_true]
  exact wpAny_pure h
theorem object_new {Q : Value → Shared → Prop} (h : ∀ h' tk r, (∀ b o, s.heap.get? b = some o → h'.get? b = some o) → s.heap.get? r = none → h'.get? r = some { cls := .type "object" } → Q (.ref r) { s with heap := h', toks := tk }) :
    wpAny (model prog w) A (call (.type "object") []) Q E s := by
  refine callType_codes (Q₁ := fun obj s₁ => obj = .ref s.heap.objs.size ∧ s₁ = { s with heap := s.heap.push { cls := .type "object" } }) ob_called ob_typeCall PySem.F.entry_object_init (ob_code ⟨rfl, rfl⟩) ?_
  rintro obj s₁ ⟨rfl, rfl⟩
  have hget : (s.heap.push { cls := .type "object" }).get? s.heap.objs.size = some { cls := .type "object" } := Heap.get?_push_size _ rfl
  refine ⟨⟨_, hget, rfl⟩, ob_args _, ?_⟩
  unfold Builtin.«object.__init__»
  dsimp only
  rw [if_neg (by simp)]
  refine wpAny_pure ⟨rfl, ?_⟩
  refine h _ _ _ (fun b o e => Heap.get?_push_of_some _ e) ?_ hget
  cases e : s.heap.get? s.heap.objs.size with
  | none => rfl
  | some o => exact absurd (Heap.lt_size e) (Nat.lt_irrefl _)

variable {b : Bool} {env : Env}
/-- a call of a type by its name, without arguments -/
theorem X_Call_mach0 {f : Value} {x : Str} {np pos : Pos} {Q : Value → Shared → Prop} (hf : keeperOf f = pure .machine)
    (hn : ∀ (Q' : Value → Shared → Prop), Q' f s → wpAny (model prog w) A (eval (.Name x np) env) Q' E s)
    (h : wpC b (model prog w) A (call f []) Q E s) :
    wpC b (model prog w) A (eval (.Call (.Name x np) [] [] pos) env) Q E s := by
  show wpC b _ A (do callWith pos (← eval (.Name x np) env) [] (backTo pos (starEach [] env)) (backToKw pos (keywordEach [] env))) Q E s
  refine wpC_bindA (hn _ ?_)
  show wpC b _ A (callWith pos f [] [] []) Q E s
  unfold callWith
  refine wpC_bind (wpC_holding (wpC_of (evalArgs_nil3 ?_)))
  refine wpC_bind (wpC_standAt ?_)
  simp only [List.any_nil, Bool.or_false]
  refine wpC_bind (wpC_eq hf (wpC_pure ?_))
  exact wpC_bind (wpC_mono h (fun r s₂ hr => wpC_bindA (wpAny_holding (wpAny_point (wpC_pure hr)))) fun _ _ x => x)

/-- a call whose keeper is found by a look -/
theorem X_Call_looks {f : Value} {x : Str} {np pos : Pos} {e : PySem.Expr} {rest : List PySem.Expr} {Q : Value → Shared → Prop}
    (hn : ∀ (Q' : Value → Shared → Prop), Q' f s → wpAny (model prog w) A (eval (.Name x np) env) Q' E s)
    (h : wpC b (model prog w) A (spliced (backTo pos (starEach (e :: rest) env))) (fun vs s₁ => Looks (model prog w) s₁.heap (keeperOf f) .machine ∧ wpC b (model prog w) A (call f vs) Q E s₁) E s)
    (he : starEach (e :: rest) env = (false, eval e env) :: starEach rest env := by rfl) (hplain : (backTo pos (starEach rest env)).any (·.1) = false := by rfl) :
    wpC b (model prog w) A (eval (.Call (.Name x np) (e :: rest) [] pos) env) Q E s := by
  show wpC b _ A (do callWith pos (← eval (.Name x np) env) [] (backTo pos (starEach (e :: rest) env)) (backToKw pos (keywordEach [] env))) Q E s
  refine wpC_bindA (hn _ ?_)
  have hp : (backTo pos (starEach (e :: rest) env)).any (·.1) = false := by
    rw [he]; show (false || (backTo pos (starEach rest env)).any (·.1)) = false; rw [hplain]; rfl
  show wpC b _ A (callWith pos f [] (backTo pos (starEach (e :: rest) env)) []) Q E s
  unfold callWith
  refine wpC_bind (wpC_holding ?_)
  have ha : wpC b (model prog w) A (evalArgs f true (backTo pos (starEach (e :: rest) env)) []) (fun a s₁ => a.kw = [] ∧ Looks (model prog w) s₁.heap (keeperOf f) .machine ∧ wpC b (model prog w) A (call f a.pos) Q E s₁) E s := by
    rw [he] at h ⊢
    unfold evalArgs
    show wpC b _ A (spliced ((false, eval e env) :: backTo pos (starEach rest env)) >>= _) _ E s
    refine wpC_bind (wpC_mono h (fun vs s₁ h₁ => ?_) fun _ _ e => e)
    refine wpC_holding ?_
    exact wpC_bind (wpC_pure (wpC_bind (wpC_pure (wpC_pure ⟨rfl, h₁⟩))))
  refine wpC_mono ha (fun a s₁ h₁ => wpC_bind (wpC_standAt ?_)) fun _ _ e => e
  obtain ⟨hkw, hl, hc⟩ := h₁
  simp only [hp, List.any_nil, Bool.or_false]
  refine wpC_bindA (hl.here ?_)
  rw [hkw]
  exact wpC_bind (wpC_mono hc (fun r s₂ hr => wpC_bindA (wpAny_holding (wpAny_point (wpC_pure hr)))) fun _ _ x => x)
end
end Mine
end

/-! part Ht -/
section
open PySem PySem.W PyProof.Rows PySem.Calls
set_option maxRecDepth 100000
namespace Mine

/-- the items `xs` are the things `vs` of the pairs `ps`, but where `c` says so they are the bare object `N` -/
structure Msk (N : Addr) (vs : List Value) (ps : List (Nat × Nat)) (c : Nat → Nat → Bool) (xs : List Value) : Prop where
  len : xs.length = ps.length
  at' : ∀ j p, ps[j]? = some p → xs[j]? = if c j p.1 then some (.ref N) else vs[j]?

theorem Msk.congr {N : Addr} {vs xs : List Value} {ps : List (Nat × Nat)} {c c' : Nat → Nat → Bool} (M : Msk N vs ps c xs) (h : ∀ j p, ps[j]? = some p → c j p.1 = c' j p.1) : Msk N vs ps c' xs :=
  ⟨M.len, fun j p hp => by rw [M.at' j p hp, h j p hp]⟩
theorem Msk.set {N : Addr} {vs xs : List Value} {ps : List (Nat × Nat)} {c : Nat → Nat → Bool} (M : Msk N vs ps c xs) {i : Nat} (hi : i < ps.length) : Msk N vs ps (fun j k => c j k || j == i) (xs.set i (.ref N)) := by
  refine ⟨by rw [List.length_set]; exact M.len, fun j p hp => ?_⟩
  have hl := M.len
  by_cases q : j = i
  · subst q
    rw [List.getElem?_set_self (by omega)]
    simp
  · rw [List.getElem?_set_ne (fun z => q z.symm), M.at' j p hp]
    have : (j == i) = false := by simpa using q
    rw [this, Bool.or_false]

/-- hidden: the kinds seen, and kind `k` between `a` and `b` -/
def hides (seen : Nat → Bool) (k a b : Nat) (j k' : Nat) : Bool := seen k' || (decide (a ≤ j) && decide (j < b) && (k' == k))
theorem Msk.start {N : Addr} {vs xs : List Value} {ps : List (Nat × Nat)} {seen : Nat → Bool} {k a : Nat} (M : Msk N vs ps (fun _ => seen) xs) : Msk N vs ps (hides seen k a a) xs :=
  M.congr fun j p _ => by
    unfold hides
    have : (decide (a ≤ j) && decide (j < a)) = false := by
      by_cases q : a ≤ j
      · simp [q, Nat.not_lt.mpr q]
      · simp [q]
    rw [this]; simp
theorem Msk.turn {N : Addr} {vs xs : List Value} {ps : List (Nat × Nat)} {seen : Nat → Bool} {k a j : Nat} {p : Nat × Nat} (M : Msk N vs ps (hides seen k a j) xs) (ha : a ≤ j) (hp : ps[j]? = some p) :
    Msk N vs ps (hides seen k a (j + 1)) (if p.1 == k then xs.set j (.ref N) else xs) := by
  have hj := (List.getElem?_eq_some_iff.mp hp).1
  cases hk : p.1 == k with
  | true =>
    rw [if_pos rfl]
    refine (M.set hj).congr fun i q hq => ?_
    unfold hides
    by_cases e : i = j
    · subst e
      rw [hp] at hq; cases hq
      simp [hk, ha]
    · have e1 : (i == j) = false := by simpa using e
      have e2 : decide (i < j) = decide (i < j + 1) := by
        rw [decide_eq_decide]; omega
      rw [e1, e2, Bool.or_false]
  | false =>
    rw [if_neg Bool.false_ne_true]
    refine M.congr fun i q hq => ?_
    unfold hides
    by_cases e : i = j
    · subst e
      rw [hp] at hq; cases hq
      simp [hk]
    · have e2 : decide (i < j) = decide (i < j + 1) := by
        rw [decide_eq_decide]; omega
      rw [e2]

section
variable {b : Bool} {w : World} {A : Around} {E : Value → Shared → Prop} {s : Shared} {R : Result → Shared → Prop} {env : Env}

theorem hit_turn {L : PySem.Expr} {X j elem c NU : Str} {q1 q2 q3 q4 q5 q6 q7 q8 q9 q10 q11 : Pos} {Q : Flow → Shared → Prop} {B : Heap} {m : Str → Option Value} {l₁ l₂ : List (Addr × Obj)} {hid : List Addr} {xA N : Addr} {xs : List Value} {n k f jn cn : Nat} {ev v : Value} {tj tc : Tok} {hit : Bool}
    (S : Fm w B env.locals m (l₁ ++ (xA, lst xs n) :: l₂) hid s.heap) (hu : A.units + 70 < cLine)
    (mX : m X = some (.ref xA)) (mj : m j = some (.int (jn : Int) tj)) (me : m elem = some ev) (mN : m NU = some (.ref N)) (mc : m c = some (.int (cn : Int) tc))
    (hN : B.get? N = some nullObj) (he : Thing w B k f ev) (hv : (v = .ref N ∧ hit = false) ∨ ∃ k' f', Thing w B k' f' v ∧ hit = (k' == k))
    (hjl : jn < xs.length) (hz : xs.length ≤ 1000)
    (hL : ∀ Q' : Value → Shared → Prop, Q' v s → wpAny (model prog w) A (eval L env) Q' E s)
    (h : ∀ h' tk n' m', Fm w B env.locals m' (l₁ ++ (xA, lst (if hit then xs.set jn (.ref N) else xs) n') :: l₂) hid h' → (∀ x, x ≠ c → m' x = m x) → (∃ t, m' c = some (.int ((if hit then cn + 1 else cn : Nat) : Int) t)) → Q .next { s with heap := h', toks := tk })
    (hk : env.scope.kind = .function) (kX : env.kindOf X = some .local) (kj : env.kindOf j = some .local) (ke : env.kindOf elem = some .local) (kc : env.kindOf c = some .local) (kN : env.kindOf NU = some .local)
    (dX : (X == ("__debug__" : Str)) = false := by decide) (dj : (j == ("__debug__" : Str)) = false := by decide) (de : (elem == ("__debug__" : Str)) = false := by decide) (dN : (NU == ("__debug__" : Str)) = false := by decide)
    (cX : X ≠ c := by decide) (cj : j ≠ c := by decide) (cN : NU ≠ c := by decide) :
    wpC b (model prog w) A (exec (.If (.Compare L [.Eq] [.Name elem q1] q2) [.AugAssign (.Name c q3) .Add (.Constant (.int 1) 0 q4) q5, .Assign [.Subscript (.Name X q6) (.Name j q7) q8] (.Name NU q9) q10] [] q11) env) Q E s := by
  refine X_If ?_
  refine X_isTrue_Compare1 ?_
  refine wpC_of (hL _ ?_)
  refine wpC_of (nm_loc S.st.ns me ?_ hk ke de)
  have cmp : ∀ Q' : Value → Shared → Prop, Q' (.bool hit) s → wpAny (model prog w) A (compareOp .Eq v ev) Q' E s := by
    intro Q' q
    show wpAny _ _ (richCompare .Eq v ev) _ _ _
    rcases hv with ⟨rfl, rfl⟩ | ⟨k', f', ht, rfl⟩
    · exact null_eq (S.st.keep _ _ hN) (he.keeps S.st.keep) hu q
    · exact thing_eq (ht.keeps S.st.keep) (he.keeps S.st.keep) hu q
  refine cmp _ ?_
  refine wpAny_truthy_bool ?_
  cases hit with
  | false =>
    simp only [Bool.false_eq_true, if_false]
    exact wpC_execs_nil (h s.heap s.toks n m S (fun _ _ => rfl) ⟨tc, mc⟩)
  | true =>
    simp only [if_true]
    refine wpC_execs_cons ?_
    refine wpC_of ?_
    refine wpAny_AugAssign_Name ?_
    refine wpAny_loadName_local hk kc S.st.ns mc ?_
    refine wpAny_Constant_int ?_
    refine PySem.AutoIntOps.iadd_0 ?_
    refine wpAny_storeName_local kc S.st.ns (fun h₁ hns₁ sb₁ => ?_) ?_
    · have S₁ := S.store hns₁ (fun b o q e => sb₁.extBut b o q e)
      dsimp only
      refine wpC_execs_cons ?_
      refine wpC_of ?_
      refine wpAny_Assign_Subscript ?_
      refine nm_loc S₁.st.ns (v := .ref N) (by simp only [cN, if_false]; exact mN) ?_ hk kN dN
      refine nm_loc S₁.st.ns (v := .ref xA) (by simp only [cX, if_false]; exact mX) ?_ hk kX dX
      refine nm_loc S₁.st.ns (v := .int jn tj) (by simp only [cj, if_false]; exact mj) ?_ hk kj dj
      have hx := (S₁.st.mem (xA, lst xs n) (by simp)).1
      refine set_at hx hjl hz fun h₂ n₂ ho₂ k₂ => ?_
      have S₂ := S₁.upd ho₂ k₂
      refine wpC_execs_nil ?_
      refine h h₂ _ n₂ _ S₂ (fun x hx => by simp only [hx, if_false]) ⟨_, by simp only [if_true]; rfl⟩
    · rw [hk]; rfl
end
end Mine
end

/-! part Ru -/
section
open PySem PySem.W PyProof.Rows PySem.Calls
set_option maxRecDepth 100000
namespace Mine
theorem bi_enum (w : World) : nsIn (KF w) mainGlobals "enumerate" = some none := rfl
theorem bi_range (w : World) : nsIn (KF w) mainGlobals "range" = some none := rfl
section
variable {b : Bool} {w : World} {A : Around} {E : Value → Shared → Prop} {s : Shared} {R : Result → Shared → Prop} {env : Env}

theorem count_turn {ps : List (Nat × Nat)} {k a i : Nat} {p : Nat × Nat} (hp : ps[a + i]? = some p) :
    ((ps.drop a).take (i + 1)).countP (fun x => x.1 == k) = if p.1 == k then ((ps.drop a).take i).countP (fun x => x.1 == k) + 1 else ((ps.drop a).take i).countP (fun x => x.1 == k) := by
  have e : (ps.drop a)[i]? = some p := by rw [List.getElem?_drop]; exact hp
  rw [List.take_add_one, e, List.countP_append]
  cases h : p.1 == k <;> simp [h]

theorem range_hits {X j elem c NU lo hi : Str} {q1 q2 q3 q4 q5 q6 q7 q8 q9 q10 q11 r1 r2 r3 r4 r5 r6 r7 r8 r9 : Pos} {Q : Flow → Shared → Prop} {B : Heap} {m : Str → Option Value} {l₁ l₂ : List (Addr × Obj)} {xA N : Addr} {vs xs : List Value} {n k f a : Nat} {ev : Value} {ti th tc : Tok} {ps : List (Nat × Nat)} {seen : Nat → Bool}
    (hh : A.handled = none) (S : Fm w B env.locals m (l₁ ++ (xA, lst xs n) :: l₂) [] s.heap) (hu : A.units + 70 < cLine)
    (mX : m X = some (.ref xA)) (ml : m lo = some (.int (a : Int) ti)) (mh : m hi = some (.int (ps.length : Int) th)) (me : m elem = some ev) (mN : m NU = some (.ref N)) (mc : m c = some (.int 0 tc))
    (hN : B.get? N = some nullObj) (he : Thing w B k f ev) (hvs : All2 B (ps.map (thP w)) vs) (M : Msk N vs ps (fun _ => seen) xs) (hs : seen k = false) (ha : a ≤ ps.length) (hz : ps.length ≤ 1000)
    (h : ∀ h' tk n' m' xs', Fm w B env.locals m' (l₁ ++ (xA, lst xs' n') :: l₂) [] h' → (∀ x, x ≠ j → x ≠ c → m' x = m x) → (∃ t, m' c = some (.int (((ps.drop a).countP (fun x => x.1 == k) : Nat) : Int) t)) →
      Msk N vs ps (fun j' k' => seen k' || (decide (a ≤ j') && (k' == k))) xs' → Q .next { s with heap := h', toks := tk })
    (hk : env.scope.kind = .function) (kX : env.kindOf X = some .local) (kj : env.kindOf j = some .local) (ke : env.kindOf elem = some .local) (kc : env.kindOf c = some .local) (kN : env.kindOf NU = some .local) (kl : env.kindOf lo = some .local) (kh : env.kindOf hi = some .local)
    (kr : env.kindOf "range" = some .globalImplicit) (hg : env.globals = mainGlobals) (hb : env.builtins = builtinsNs)
    (dX : (X == ("__debug__" : Str)) = false := by decide) (dj : (j == ("__debug__" : Str)) = false := by decide) (de : (elem == ("__debug__" : Str)) = false := by decide) (dN : (NU == ("__debug__" : Str)) = false := by decide)
    (dl : (lo == ("__debug__" : Str)) = false := by decide) (dh : (hi == ("__debug__" : Str)) = false := by decide)
    (cX : X ≠ c := by decide) (cj : j ≠ c := by decide) (cN : NU ≠ c := by decide) (ce : elem ≠ c := by decide) (jX : X ≠ j := by decide) (je : elem ≠ j := by decide) (jN : NU ≠ j := by decide) (cj' : c ≠ j := by decide) :
    wpC b (model prog w) A (exec (.For (.Name j r1) (.Call (.Name "range" r2) [.Name lo r3, .Name hi r4] [] r5)
      [.If (.Compare (.Subscript (.Name X r6) (.Name j r7) r8) [.Eq] [.Name elem q1] q2) [.AugAssign (.Name c q3) .Add (.Constant (.int 1) 0 q4) q5, .Assign [.Subscript (.Name X q6) (.Name j q7) q8] (.Name NU q9) q10] [] q11] [] r9) env) Q E s := by
  refine X_For_range hh a (ps.length - a) (fun i B' m' mu' => B' = B ∧ (∀ x, x ≠ j → x ≠ c → m' x = m x) ∧ (∃ t, m' c = some (.int ((((ps.drop a).take i).countP (fun x => x.1 == k) : Nat) : Int) t)) ∧
    ∃ xs' n', mu' = l₁ ++ (xA, lst xs' n') :: l₂ ∧ Msk N vs ps (hides seen k a (a + i)) xs') ?_
  refine X_Call_mach (f := .type "range") rfl ?_ ?_
  · intro Q' q
    exact nm_bi S.gdh (bi_range w) rfl (by decide) q hk kr hg hb
  refine X_items_cons ?_
  refine wpC_of (nm_loc S.st.ns ml ?_ hk kl dl)
  refine X_items_cons ?_
  refine wpC_of (nm_loc S.st.ns mh ?_ hk kh dh)
  refine X_items_nil ?_
  refine wpC_of (call_range_2 ?_)
  have kp : Keeps s.heap (s.heap.push { cls := .type "range", data := .fields #[.int a ti, .int ps.length th, .int 1 s.toks] }) := fun b o e => Heap.get?_push_of_some _ e
  have hlen := M.len
  refine ⟨_, ti, th, s.toks, B, m, _, rfl, ?_, by omega, S.grow kp, ⟨rfl, fun _ _ _ => rfl, ⟨tc, by simpa using mc⟩, xs, n, rfl, M.start⟩, ?_, ?_⟩
  · have e : ((a + (ps.length - a) : Nat) : Int) = (ps.length : Int) := by omega
    rw [e]
    exact Heap.get?_push_size _ rfl
  · rintro i B' m' mu' It o tk h₁ tk' hi kB ⟨rfl, hm, ⟨t, hc⟩, xs', n', rfl, M'⟩ S'
    refine wpC_of ?_
    refine wpAny_assign_Name ?_
    refine wpAny_storeName_local kj S'.st.ns (fun h₂ hns₂ sb₂ => ?_) ?_
    · have S₂ := S'.store hns₂ (fun b o q e => sb₂.extBut b o q e)
      have hai : a + i < ps.length := by omega
      obtain ⟨p, hp⟩ : ∃ p, ps[a + i]? = some p := ⟨_, List.getElem?_eq_getElem hai⟩
      have hl' := M'.len
      obtain ⟨v, hv, pv⟩ := all2_get hvs (show (ps.map (thP w))[a + i]? = some (thP w p) by rw [List.getElem?_map, hp]; rfl)
      have hat := M'.at' _ p hp
      have hx := (S₂.st.mem (xA, lst xs' n') (by simp)).1
      have hhid : hides seen k a (a + i) (a + i) p.1 = seen p.1 := by unfold hides; simp
      rw [hhid] at hat
      obtain ⟨v', hv', hcase⟩ : ∃ v', xs'[a + i]? = some v' ∧ ((v' = .ref N ∧ (p.1 == k) = false) ∨ ∃ k' f', Thing w B' k' f' v' ∧ (p.1 == k) = (k' == k)) := by
        cases hsp : seen p.1 with
        | true =>
          rw [hsp, if_pos rfl] at hat
          refine ⟨_, hat, .inl ⟨rfl, ?_⟩⟩
          cases e : p.1 == k with
          | false => rfl
          | true => rw [eq_of_beq e, hs] at hsp; cases hsp
        | false =>
          rw [hsp, if_neg Bool.false_ne_true, hv] at hat
          exact ⟨_, hat, .inr ⟨p.1, p.2, pv, rfl⟩⟩
      refine wpC_execs_cons ?_
      refine hit_turn (v := v') (hit := p.1 == k) (l₁ := (It, o) :: l₁) (jn := a + i) (k := k) (f := f) S₂ hu (tj := tk) (by simp only [jX, if_false]; rw [hm X jX cX]; exact mX) (by simp only [if_true]) (by simp only [je, if_false]; rw [hm elem je ce]; exact me) (by simp only [jN, if_false]; rw [hm NU jN cN]; exact mN) (by simp only [cj', if_false]; exact hc) hN he hcase (by omega) (by omega) ?_ ?_ hk kX kj ke kc kN dX dj de dN cX cj cN
      · intro Q' q
        refine Subscript_ ?_
        refine nm_loc S₂.st.ns (v := .ref xA) (by simp only [jX, if_false]; rw [hm X jX cX]; exact mX) ?_ hk kX dX
        refine nm_loc S₂.st.ns (v := .int ((a + i : Nat) : Int) tk) (by simp only [if_true]) ?_ hk kj dj
        exact item_list ⟨_, hx, rfl, _, rfl⟩ (by omega) (by omega) (by rw [Int.toNat_natCast, List.getElem?_toArray]; exact hv') q
      · intro h₃ tk₃ n₃ m₃ S₃ hm₃ hc₃
        refine wpC_execs_nil ?_
        refine ⟨B', m₃, _, h₃, tk₃, rfl, fun _ _ e => e, S₃, rfl, fun x x1 x2 => ?_, ?_, _, n₃, rfl, ?_⟩
        · rw [hm₃ x x2]; simp only [x1, if_false]; exact hm x x1 x2
        · rw [count_turn hp]; exact hc₃
        · exact M'.turn (by omega) hp
    · rw [hk]; rfl
  · rintro B' m' mu' h₁ tk kB ⟨rfl, hm, hc, xs', n', rfl, M'⟩ S'
    refine h h₁ tk n' m' xs' S' hm ?_ (M'.congr fun i p hp => ?_)
    · have : (ps.drop a).take (ps.length - a) = ps.drop a := List.take_of_length_le (by simp)
      rw [this] at hc; exact hc
    · unfold hides
      have := (List.getElem?_eq_some_iff.mp hp).1
      have e : decide (i < a + (ps.length - a)) = true := by rw [decide_eq_true_eq]; omega
      rw [e, Bool.and_true]

theorem enum_hits {X j oe elem c NU : Str} {q1 q2 q3 q4 q5 q6 q7 q8 q9 q10 q11 r1 r2 r3 r4 r5 r6 r7 r9 : Pos} {tk0 : Nat} {Q : Flow → Shared → Prop} {B : Heap} {m : Str → Option Value} {l₁ l₂ : List (Addr × Obj)} {xA N : Addr} {vs xs : List Value} {n k f : Nat} {ev : Value} {tc : Tok} {ps : List (Nat × Nat)} {seen : Nat → Bool}
    (hh : A.handled = none) (S : Fm w B env.locals m (l₁ ++ (xA, lst xs n) :: l₂) [] s.heap) (hu : A.units + 70 < cLine)
    (mX : m X = some (.ref xA)) (me : m elem = some ev) (mN : m NU = some (.ref N)) (mc : m c = some (.int 0 tc))
    (hN : B.get? N = some nullObj) (he : Thing w B k f ev) (hvs : All2 B (ps.map (thP w)) vs) (M : Msk N vs ps (fun _ => seen) xs) (hs : seen k = false) (hz : ps.length ≤ 1000)
    (h : ∀ h' tk n' m' xs', Fm w B env.locals m' (l₁ ++ (xA, lst xs' n') :: l₂) [] h' → (∀ x, x ≠ j → x ≠ oe → x ≠ c → m' x = m x) → (∃ t, m' c = some (.int ((ps.countP (fun x => x.1 == k) : Nat) : Int) t)) →
      Msk N vs ps (fun _ k' => seen k' || (k' == k)) xs' → Q .next { s with heap := h', toks := tk })
    (hk : env.scope.kind = .function) (kX : env.kindOf X = some .local) (kj : env.kindOf j = some .local) (ko : env.kindOf oe = some .local) (ke : env.kindOf elem = some .local) (kc : env.kindOf c = some .local) (kN : env.kindOf NU = some .local)
    (kr : env.kindOf "enumerate" = some .globalImplicit) (hg : env.globals = mainGlobals) (hb : env.builtins = builtinsNs)
    (dX : (X == ("__debug__" : Str)) = false := by decide) (dj : (j == ("__debug__" : Str)) = false := by decide) (de : (elem == ("__debug__" : Str)) = false := by decide) (dN : (NU == ("__debug__" : Str)) = false := by decide) (dO : (oe == ("__debug__" : Str)) = false := by decide)
    (cX : X ≠ c := by decide) (cj : j ≠ c := by decide) (cN : NU ≠ c := by decide) (ce : elem ≠ c := by decide) (jX : X ≠ j := by decide) (je : elem ≠ j := by decide) (jN : NU ≠ j := by decide) (cj' : c ≠ j := by decide)
    (oX : X ≠ oe := by decide) (oj : j ≠ oe := by decide) (oN : NU ≠ oe := by decide) (oE : elem ≠ oe := by decide) (oc : c ≠ oe := by decide) :
    wpC b (model prog w) A (exec (.For (.Tuple [.Name j r1, .Name oe r2] tk0 r3) (.Call (.Name "enumerate" r4) [.Name X r5] [] r6)
      [.If (.Compare (.Name oe r7) [.Eq] [.Name elem q1] q2) [.AugAssign (.Name c q3) .Add (.Constant (.int 1) 0 q4) q5, .Assign [.Subscript (.Name X q6) (.Name j q7) q8] (.Name NU q9) q10] [] q11] [] r9) env) Q E s := by
  refine X_For_enum hh ps.length (fun i B' m' mu' => B' = B ∧ (∀ x, x ≠ j → x ≠ oe → x ≠ c → m' x = m x) ∧ (∃ t, m' c = some (.int ((((ps.drop 0).take i).countP (fun x => x.1 == k) : Nat) : Int) t)) ∧
    ∃ xs' n', mu' = l₁ ++ (xA, lst xs' n') :: l₂ ∧ Msk N vs ps (hides seen k 0 i) xs') ?_
  have hx := (S.st.mem (xA, lst xs n) (by simp)).1
  refine X_Call_mach (f := .type "enumerate") rfl ?_ ?_
  · intro Q' q
    exact nm_bi S.gdh (bi_enum w) rfl (by decide) q hk kr hg hb
  refine X_items_cons ?_
  refine wpC_of (nm_loc S.st.ns mX ?_ hk kX dX)
  refine X_items_nil ?_
  refine wpC_of (call_enumerate_list ⟨_, hx, rfl, _, rfl⟩ fun h₁ hE hI hsz kp => ?_)
  have hxl := Heap.lt_size hx
  have nE : s.heap.get? (s.heap.objs.size + 1) = none := by
    cases e : s.heap.get? (s.heap.objs.size + 1) with
    | none => rfl
    | some o => exact absurd (Heap.lt_size e) (Nat.not_lt.mpr (Nat.le_succ _))
  have hS : Fm w B env.locals m (l₁ ++ (xA, lst xs n) :: l₂) [s.heap.objs.size + 1, s.heap.objs.size] h₁ := ((S.hide (none_size fun _ _ e => e)).hide nE).grow kp
  have hlen := M.len
  refine ⟨xA, _, _, B, m, _, rfl, hE, hI, Nat.ne_of_gt (Nat.lt_succ_self _), Nat.ne_of_lt (Nat.lt_succ_of_lt hxl), Nat.ne_of_lt hxl, hS, ⟨rfl, fun _ _ _ _ => rfl, ⟨tc, by simpa using mc⟩, xs, n, rfl, M.start⟩, ?_, ?_, ?_⟩
  · rintro i B' m' mu' h₂ kB ⟨rfl, hm, hc, xs', n', rfl, M'⟩ S'
    exact ⟨_, ⟨_, (S'.st.mem (xA, lst xs' n') (by simp)).1, rfl, _, rfl⟩, by simpa using M'.len⟩
  · rintro i v B' m' mu' ob1 ob2 T tk h₁ tk' hi kB ⟨rfl, hm, ⟨t, hc⟩, xs', n', rfl, M'⟩ S' ⟨items, hit, hsz, hv⟩ hT
    refine wpC_of ?_
    refine assign2 hh hT S'.st.ns kj ko (fun h₂ tk₂ hns₂ k₂ => ?_) (by rw [hk]; rfl)
    have S₂ := S'.store hns₂ k₂
    obtain ⟨p, hp⟩ : ∃ p, ps[i]? = some p := ⟨_, List.getElem?_eq_getElem hi⟩
    have hl' := M'.len
    obtain ⟨u, hu', pu⟩ := all2_get hvs (show (ps.map (thP w))[i]? = some (thP w p) by rw [List.getElem?_map, hp]; rfl)
    have hat := M'.at' _ p hp
    have hx' := (S'.st.mem (xA, lst xs' n') (by simp)).1
    have hvx : xs'[i]? = some v := by
      obtain ⟨o', ho', _, nn, hd'⟩ := hit
      rw [hx'] at ho'; cases ho'
      simp only [lst] at hd'
      injection hd' with hd'
      subst hd'
      simpa using hv
    have hhid : hides seen k 0 i i p.1 = seen p.1 := by unfold hides; simp
    rw [hhid, hvx] at hat
    have hcase : (v = .ref N ∧ (p.1 == k) = false) ∨ ∃ k' f', Thing w B' k' f' v ∧ (p.1 == k) = (k' == k) := by
      cases hsp : seen p.1 with
      | true =>
        rw [hsp, if_pos rfl] at hat
        cases hat
        refine .inl ⟨rfl, ?_⟩
        cases e : p.1 == k with
        | false => rfl
        | true => rw [eq_of_beq e, hs] at hsp; cases hsp
      | false =>
        rw [hsp, if_neg Bool.false_ne_true, hu'] at hat
        cases hat
        exact .inr ⟨p.1, p.2, pu, rfl⟩
    refine wpC_execs_cons ?_
    refine hit_turn (v := v) (hit := p.1 == k) (l₁ := _ :: _ :: l₁) (jn := i) (k := k) (f := f) S₂ hu (tj := tk) (by simp only [jX, oX, if_false]; rw [hm X jX oX cX]; exact mX) (by simp only [oj, if_true, if_false]) (by simp only [je, oE, if_false]; rw [hm elem je oE ce]; exact me) (by simp only [jN, oN, if_false]; rw [hm NU jN oN cN]; exact mN) (by simp only [cj', oc, if_false]; exact hc) hN he hcase (by omega) (by omega) ?_ ?_ hk kX kj ke kc kN dX dj de dN cX cj cN
    · intro Q' q
      exact nm_loc S₂.st.ns (v := v) (by simp only [if_true]) q hk ko dO
    · intro h₃ tk₃ n₃ m₃ S₃ hm₃ hc₃
      refine wpC_execs_nil ?_
      refine ⟨B', m₃, _, h₃, tk₃, rfl, fun _ _ e => e, S₃, rfl, fun x x1 x2 x3 => ?_, ?_, _, n₃, rfl, ?_⟩
      · rw [hm₃ x x3]; simp only [x1, x2, if_false]; exact hm x x1 x2 x3
      · rw [count_turn (a := 0) (by simpa using hp)]; exact hc₃
      · exact M'.turn (by omega) hp
  · rintro B' m' mu' h₁ tk kB ⟨rfl, hm, hc, xs', n', rfl, M'⟩ S'
    refine h h₁ tk n' m' xs' S' hm ?_ (M'.congr fun i p hp => ?_)
    · have : (ps.drop 0).take ps.length = ps := by simp
      rw [this] at hc; exact hc
    · unfold hides
      have := (List.getElem?_eq_some_iff.mp hp).1
      simp [this]
end
end Mine
end

/-! part Mt -/
section
open PySem PySem.W PyProof.Rows PySem.Calls
set_option maxRecDepth 100000
namespace Mine
abbrev CRow := Nat × Nat × Nat × Nat
/-- a Mismatch, new since `H`; its thing stands in `C` -/
def mmP (w : World) (C H : Heap) (r : CRow) : HP := fun h v => ∃ x d e t1 t2, v = .ref x ∧ h.get? x = some { cls := .ref 150, dict := some d, data := .seq #[.int r.1 t1, .int r.2.1 t2, e] } ∧ H.get? x = none ∧ Thing w C r.2.2.1 r.2.2.2 e
theorem mono_mm (w : World) (C H : Heap) (r : CRow) : Mono (mmP w C H r) := fun _ _ _ k ⟨x, d, e, t1, t2, ev, hx, hn, ht⟩ => ⟨x, d, e, t1, t2, ev, k _ _ hx, hn, ht⟩
def cdaStep (c1 c2 : Nat → Nat) (st : List CRow × List Nat) (x : Nat × Nat) : List CRow × List Nat :=
  if st.2.contains x.1 then st else (if c1 x.1 != c2 x.1 then st.1 ++ [(c1 x.1, c2 x.1, x.1, x.2)] else st.1, st.2 ++ [x.1])
def cdaOf (got want : List (Nat × Nat)) : List CRow := ((got ++ want).foldl (cdaStep (cnt got) (cnt want)) ([], [])).1
theorem own_mm (w : World) : nsIn (KF w) mainGlobals "_Mismatch" = some (some (.ref 150)) := rfl

section
variable {b : Bool} {w : World} {A : Around} {E : Value → Shared → Prop} {s : Shared} {R : Result → Shared → Prop} {env : Env}
theorem mm_turn {e1 e2 : PySem.Expr} {p1 p2 p3 p4 p5 p6 p7 p8 p9 p10 : Pos} {Q : Flow → Shared → Prop} {B : Heap} {m : Str → Option Value} {l₁ l₂ : List (Addr × Obj)} {rA : Addr} {rs : List Value} {n c1 c2 k f : Nat} {ev : Value}
    (S : Fm w B env.locals m (l₁ ++ (rA, lst rs n) :: l₂) [] s.heap) (hr : A.depth + 1 < recursionLimit) (hz : rs.length ≤ 1000)
    (mr : m "result" = some (.ref rA)) (me : m "elem" = some ev) {C H : Heap} (he : Thing w C k f ev) (kH : Keeps H s.heap)
    (h1 : ∀ (tk : Nat) (Q' : Value → Shared → Prop), (∀ t tk', Q' (.int (c1 : Int) t) { s with toks := tk' }) → wpAny (model prog w) A (eval e1 env) Q' E { s with toks := tk })
    (h2 : ∀ (tk : Nat) (Q' : Value → Shared → Prop), (∀ t tk', Q' (.int (c2 : Int) t) { s with toks := tk' }) → wpAny (model prog w) A (eval e2 env) Q' E { s with toks := tk })
    (h : ∀ h' tk x n' B', Keeps B B' → mmP w C H (c1, c2, k, f) B' x → Fm w B' env.locals (fun z => if z = "diff" then some x else m z) (l₁ ++ (rA, lst (rs ++ [x]) n') :: l₂) [] h' → Q .next { s with heap := h', toks := tk })
    (hk : env.scope.kind = .function) (kd : env.kindOf "diff" = some .local) (kr : env.kindOf "result" = some .local) (ke : env.kindOf "elem" = some .local) (km : env.kindOf "_Mismatch" = some .globalImplicit) (hg : env.globals = mainGlobals)
    (hs : swapsWith (.Call (.Name "_Mismatch" p2) [e1, e2, .Name "elem" p3] [] p4) (some (.Name "diff" p1)) p5.line env = pure false := by rfl)
    (hi : interactive env = false := by rfl) (hs2 : swapsWith (.Call (.Attribute (.Name "result" p6) "append" p7) [.Name "diff" p8] [] p9) none p10.line env = pure false := by rfl)
    (hfew : ((backTo p9 (starEach [.Name "diff" p8] env)).all (fun x => !x.1) && (backToKw p9 (keywordEach [] env)).all (fun x => x.1.isSome) && decide ([PySem.Expr.Name "diff" p8].length + ([] : List Keyword).length + (if ([] : List Keyword).isEmpty then 0 else 1) < 30)) = true := by rfl)
    (hline : (p7.endLine == p9.line) = true := by rfl)
    (he1 : starEach [e1, e2, .Name "elem" p3] env = (false, eval e1 env) :: starEach [e2, .Name "elem" p3] env := by rfl) (he2 : starEach [e2, .Name "elem" p3] env = (false, eval e2 env) :: starEach [.Name "elem" p3] env := by rfl)
    (hpl : (backTo p4 (starEach [e2, .Name "elem" p3] env)).any (·.1) = false := by rfl) :
    wpC b (model prog w) A (execs [.Assign [.Name "diff" p1] (.Call (.Name "_Mismatch" p2) [e1, e2, .Name "elem" p3] [] p4) p5, .Expr (.Call (.Attribute (.Name "result" p6) "append" p7) [.Name "diff" p8] [] p9) p10] env) Q E s := by
  have hrow := (S.st.mem (rA, lst rs n) (by simp)).1
  refine wpC_execs_cons ?_
  refine X_Assign_Name ?_ hs
  refine X_Call_looks (f := .ref 150) ?_ ?_ he1 hpl
  · intro Q' q
    exact nm_own S.gdh (own_mm w) q hk km hg
  refine X_items_cons ?_ he1
  refine wpC_of (h1 s.toks _ fun t1 tk1 => ?_)
  refine X_items_cons ?_ he2
  refine wpC_of (h2 tk1 _ fun t2 tk2 => ?_)
  refine X_items_cons ?_
  refine wpC_of (nm_loc S.st.ns me ?_ hk ke)
  refine X_items_nil ?_
  refine ⟨pk11 S.gdh.K, ?_⟩
  refine wpC_of (any_of (wpC_call ?_))
  refine mm_spec (s := { s with toks := tk2 }) S.gdh hr ?_
  intro h₁ tk₃ x d k₁ hx hn
  dsimp only
  have S₁ := S.grow k₁
  refine wpAny_storeName_local kd S₁.st.ns (fun h₂ hns₂ sb₂ => ?_) (by rw [hk]; rfl)
  have S₂ := S₁.store hns₂ (fun b o q e => sb₂.extBut b o q e)
  have hrow₂ := (S₂.st.mem (rA, lst rs n) (by simp)).1
  refine wpC_execs_cons ?_
  refine wpC_of ?_
  refine X_append S₂.st.ns (by simp only [show ("result" : Str) ≠ "diff" from by decide, if_false]; exact mr) hrow₂ hz ?_ hk kr rfl hi hs2 hfew hline
  refine nm_loc S₂.st.ns (v := .ref x) (by simp only [if_true]) ?_ hk kd
  refine ⟨hrow₂, fun h₃ hq₃ k₃ => ?_⟩
  have S₃ := S₂.upd hq₃ k₃
  have hxL : x ≠ env.locals := fun q => by
    obtain ⟨o', _, _, e, _⟩ := S.st.ns
    rw [← q, hn] at e; cases e
  have hxr : x ≠ rA := fun q => by rw [q, hrow] at hn; cases hn
  have hx₃ := k₃ _ _ hxr (sb₂.extBut _ _ hxL hx)
  have hcl := S₃.calm_at hx₃ hxL (fun q => by
    have q' : x ∈ (l₁ ++ (rA, lst rs n) :: l₂).map (·.1) := by simpa using q
    obtain ⟨p, hp, rfl⟩ := List.mem_map.mp q'
    rw [(S.st.mem p hp).1] at hn; cases hn) (fun q => (nomatch q))
  refine wpC_execs_nil ?_
  refine h h₃ _ (.ref x) _ _ S₃.calms ⟨x, d, ev, t1, t2, rfl, hcl, ?_, he⟩ S₃.rebase
  cases e : H.get? x with
  | none => rfl
  | some o => rw [kH _ _ e] at hn; cases hn

/-- the kinds seen -/
theorem cda_seen (c1 c2 : Nat → Nat) (k : Nat) : ∀ (l : List (Nat × Nat)) (st : List CRow × List Nat), (l.foldl (cdaStep c1 c2) st).2.contains k = (st.2.contains k || l.any (·.1 == k))
  | [], st => by simp
  | x :: l, st => by
    rw [List.foldl_cons, cda_seen c1 c2 k l, List.any_cons, ← Bool.or_assoc]
    congr 1
    unfold cdaStep
    cases h : st.2.contains x.1 with
    | true =>
      rw [if_pos rfl]
      cases e : x.1 == k with
      | true => rw [← eq_of_beq e, h]; rfl
      | false => rw [Bool.or_false]
    | false =>
      rw [if_neg Bool.false_ne_true]
      show (st.2 ++ [x.1]).contains k = _
      rw [Bool.eq_iff_iff]
      simp only [List.contains_iff_mem, List.mem_append, List.mem_singleton, Bool.or_eq_true, beq_iff_eq]
      constructor <;> (rintro (q | q) <;> simp [q])
theorem cnt_none {ps : List (Nat × Nat)} {k : Nat} (h : ps.any (·.1 == k) = false) : cnt ps k = 0 := by
  unfold cnt
  rw [List.countP_eq_zero]
  intro x hx hk
  rw [List.any_eq_false] at h
  exact h x hx hk
theorem cnt_drop {ps : List (Nat × Nat)} {k i : Nat} (h : (ps.take i).any (·.1 == k) = false) : (ps.drop i).countP (fun x => x.1 == k) = cnt ps k := by
  have := cnt_none h
  have e : cnt ps k = cnt (ps.take i) k + cnt (ps.drop i) k := by
    unfold cnt
    rw [← List.countP_append, List.take_append_drop]
  rw [this, Nat.zero_add] at e
  exact e.symm
end
end Mine
end

/-! part F6 -/
section
open PySem PySem.W PyProof.Rows PySem.Calls
set_option maxRecDepth 100000
namespace Mine
/-- the rows told and the kinds seen behind the first `i` -/
def cdaAt (got want : List (Nat × Nat)) (i : Nat) : List CRow × List Nat := ((got ++ want).take i).foldl (cdaStep (cnt got) (cnt want)) ([], [])
theorem cdaAt_seen (got want : List (Nat × Nat)) (i k : Nat) : (cdaAt got want i).2.contains k = ((got ++ want).take i).any (·.1 == k) := by
  unfold cdaAt
  rw [cda_seen]; rfl
theorem cdaAt_succ {got want : List (Nat × Nat)} {i : Nat} {x : Nat × Nat} (hx : (got ++ want)[i]? = some x) : cdaAt got want (i + 1) = cdaStep (cnt got) (cnt want) (cdaAt got want i) x := by
  unfold cdaAt
  rw [List.take_add_one, hx, List.foldl_append]; rfl
theorem contains_snoc (l : List Nat) (a k : Nat) : (l ++ [a]).contains k = (l.contains k || (k == a)) := by
  rw [Bool.eq_iff_iff]
  simp only [List.contains_iff_mem, List.mem_append, List.mem_singleton, Bool.or_eq_true, beq_iff_eq]

section
variable {b : Bool} {w : World} {A : Around} {E : Value → Shared → Prop} {s : Shared} {R : Result → Shared → Prop} {env : Env}

/-- what stands before turn `i` of the first loop -/
def J1 (w : World) (C H : Heap) (got want : List (Nat × Nat)) (gi wi : List Value) (N sA tA rA : Addr) (i : Nat) (B : Heap) (m : Str → Option Value) (mu : List (Addr × Obj)) : Prop :=
  ∃ ss ts rs ns nt nr tm tn, mu = [(rA, lst rs nr), (tA, lst ts nt), (sA, lst ss ns)] ∧ m "s" = some (.ref sA) ∧ m "t" = some (.ref tA) ∧ m "m" = some (.int (got.length : Int) tm) ∧ m "n" = some (.int (want.length : Int) tn) ∧
    m "NULL" = some (.ref N) ∧ m "result" = some (.ref rA) ∧ Msk N gi got (fun _ k => (cdaAt got want i).2.contains k) ss ∧ Msk N wi want (fun _ k => (cdaAt got want i).2.contains k) ts ∧ All2 B ((cdaAt got want i).1.map (mmP w C H)) rs ∧ rs.length ≤ i

theorem keep_things {w : World} {B B' : Heap} {ps : List (Nat × Nat)} {vs : List Value} (k : Keeps B B') (h : All2 B (ps.map (thP w)) vs) : All2 B' (ps.map (thP w)) vs :=
  all2_keeps (fun P hP => by obtain ⟨x, _, rfl⟩ := List.mem_map.mp hP; exact mono_Thing w _ _) k h
theorem keep_rows {w : World} {C H B B' : Heap} {ps : List CRow} {vs : List Value} (k : Keeps B B') (h : All2 B (ps.map (mmP w C H)) vs) : All2 B' (ps.map (mmP w C H)) vs :=
  all2_keeps (fun P hP => by obtain ⟨x, _, rfl⟩ := List.mem_map.mp hP; exact mono_mm w C H _) k h

/-- what stands before turn `i` of the second loop -/
def J2 (w : World) (C H : Heap) (got want : List (Nat × Nat)) (wi : List Value) (N tA rA : Addr) (i : Nat) (B : Heap) (m : Str → Option Value) (mu : List (Addr × Obj)) : Prop :=
  ∃ ts rs nt nr tn l₂, mu = (rA, lst rs nr) :: (tA, lst ts nt) :: l₂ ∧ m "t" = some (.ref tA) ∧ m "n" = some (.int (want.length : Int) tn) ∧
    m "NULL" = some (.ref N) ∧ m "result" = some (.ref rA) ∧ Msk N wi want (fun _ k => (cdaAt got want (got.length + i)).2.contains k) ts ∧ All2 B ((cdaAt got want (got.length + i)).1.map (mmP w C H)) rs ∧ rs.length ≤ got.length + i

theorem Msk.zero {N : Addr} {B : Heap} {w : World} {ps : List (Nat × Nat)} {vs : List Value} (h : All2 B (ps.map (thP w)) vs) : Msk N vs ps (fun _ _ => false) vs :=
  ⟨by have := all2_len h; simpa using this.symm, fun j p hp => by simp⟩

/-- a loop over `enumerate(X)` -/
theorem X_For_enumOf {elts : List PySem.Expr} {kk : Nat} {tpos r4 r5 r6 pos : Pos} {X : Str} {body : List Stmt} {Q : Flow → Shared → Prop} (hh : A.handled = none) (n : Nat) (J : Nat → Heap → (Str → Option Value) → List (Addr × Obj) → Prop)
    {B : Heap} {m : Str → Option Value} {mu : List (Addr × Obj)} {xA : Addr} {items₀ : Array Value} (S : Fm w B env.locals m mu [] s.heap) (mX : m X = some (.ref xA)) (hl : s.heap.IsList xA items₀) (j0 : J 0 B m mu)
    (size : ∀ i B' m' mu' h, Keeps B B' → J i B' m' mu' → (∃ hid, Fm w B' env.locals m' mu' hid h) → ∃ items, h.IsList xA items ∧ items.size = n)
    (turn : ∀ i v B' m' mu' En oE It oI T tk0 h tk, i < n → Keeps B B' → J i B' m' mu' → Fm w B' env.locals m' ((En, oE) :: (It, oI) :: mu') [] h → (∃ items, h.IsList xA items ∧ items.size = n ∧ items[i]? = some v) → h.IsTuple T #[.int i tk0, v] →
        wpC b (model prog w) A (assign (.Tuple elts kk tpos) env (.ref T)) (fun _ s₂ => wpC b (model prog w) A (execs body env) (fun f s₃ => match f with
        | .next | .cont => ∃ B'' m'' mu'' h'' tk'', s₃ = { s with heap := h'', toks := tk'' } ∧ Keeps B' B'' ∧ Fm w B'' env.locals m'' ((En, oE) :: (It, oI) :: mu'') [] h'' ∧ J (i + 1) B'' m'' mu''
        | _ => False) (fun _ _ => False) s₂) (fun _ _ => False) { s with heap := h, toks := tk })
    (post : ∀ B' m' mu' h tk, Keeps B B' → J n B' m' mu' → Fm w B' env.locals m' mu' [] h → Q .next { s with heap := h, toks := tk })
    (hk : env.scope.kind = .function := by rfl) (kX : env.kindOf X = some .local := by rfl) (kr : env.kindOf "enumerate" = some .globalImplicit := by rfl) (hg : env.globals = mainGlobals := by rfl) (hb : env.builtins = builtinsNs := by rfl) (dX : (X == ("__debug__" : Str)) = false := by decide)
    (he : starEach [PySem.Expr.Name X r5] env = (false, eval (.Name X r5) env) :: starEach [] env := by rfl) (hs : ∀ x, foldedSetIterable (.Call (.Name "enumerate" r4) [.Name X r5] [] r6) env x = pure x := by intro _; rfl) :
    wpC b (model prog w) A (exec (.For (.Tuple elts kk tpos) (.Call (.Name "enumerate" r4) [.Name X r5] [] r6) body [] pos) env) Q E s := by
  refine X_For_enum hh n J ?_ hs
  refine X_Call_mach (f := .type "enumerate") rfl ?_ ?_ he
  · intro Q' q
    exact nm_bi S.gdh (bi_enum w) rfl (by decide) q hk kr hg hb
  refine X_items_cons ?_ he
  refine wpC_of (nm_loc S.st.ns mX ?_ hk kX dX)
  refine X_items_nil ?_
  refine wpC_of (call_enumerate_list hl fun h₁ hE hI hsz kp => ?_)
  obtain ⟨ox, hox, _⟩ := id hl
  have hxl := Heap.lt_size hox
  have nE : s.heap.get? (s.heap.objs.size + 1) = none := by
    cases e : s.heap.get? (s.heap.objs.size + 1) with
    | none => rfl
    | some o => exact absurd (Heap.lt_size e) (Nat.not_lt.mpr (Nat.le_succ _))
  have hS : Fm w B env.locals m mu [s.heap.objs.size + 1, s.heap.objs.size] h₁ := ((S.hide (none_size fun _ _ e => e)).hide nE).grow kp
  refine ⟨xA, _, _, B, m, mu, rfl, hE, hI, Nat.ne_of_gt (Nat.lt_succ_self _), Nat.ne_of_lt (Nat.lt_succ_of_lt hxl), Nat.ne_of_lt hxl, hS, j0, ?_, ?_, ?_⟩
  · intro i B' m' mu' h k j S'
    exact size i B' m' mu' h k j ⟨_, S'⟩
  · intro i v B' m' mu' oE oI T tk0 h tk hi k j S' hit hT
    exact turn i v B' m' mu' _ oE _ oI T tk0 h tk hi k j S' hit hT
  · intro B' m' mu' h tk k j S'
    exact post B' m' mu' h tk k j S'
end
end Mine
end

/-! part F7 -/
section
open PySem PySem.W PyProof.Rows PySem.Calls
set_option maxRecDepth 100000
namespace Mine
section
variable {b : Bool} {w : World} {A : Around} {E : Value → Shared → Prop} {s : Shared} {R : Result → Shared → Prop} {env : Env}
theorem bi_list (w : World) : nsIn (KF w) mainGlobals "list" = some none := rfl
theorem bi_object (w : World) : nsIn (KF w) mainGlobals "object" = some none := rfl

/-- `list(x)` for a local `x` that is a list -/
theorem X_list_of {x : Str} {np p1 pos : Pos} {a : Addr} {xs : List Value} {m : Str → Option Value} {Q : Value → Shared → Prop} (G : Gd w s.heap) (hn : s.heap.Ns env.locals m) (hm : m x = some (.ref a)) (ha : s.heap.IsList a xs.toArray) (hz : xs.length ≤ 1000)
    (h : ∀ h' r n, Keeps s.heap h' → s.heap.get? r = none → h'.get? r = some (lst xs n) → Q (.ref r) { s with heap := h' })
    (hk : env.scope.kind = .function := by rfl) (hx : env.kindOf x = some .local := by rfl) (hl : env.kindOf "list" = some .globalImplicit := by rfl) (hg : env.globals = mainGlobals := by rfl) (hb : env.builtins = builtinsNs := by rfl) (hd : (x == ("__debug__" : Str)) = false := by decide)
    (he : starEach [PySem.Expr.Name x p1] env = (false, eval (.Name x p1) env) :: starEach [] env := by rfl) :
    wpC b (model prog w) A (eval (.Call (.Name "list" np) [.Name x p1] [] pos) env) Q E s := by
  refine X_Call_mach (f := .type "list") rfl ?_ ?_ he
  · intro Q' q
    exact nm_bi G (bi_list w) rfl (by decide) q hk hl hg hb
  refine X_items_cons ?_ he
  refine wpC_of (nm_loc hn hm ?_ hk hx hd)
  refine X_items_nil ?_
  obtain ⟨o, ho, hc, n, hdt⟩ := ha
  refine wpC_of (call_list_seq a (.inl rfl) ho hc hdt (fun h' c' k hr => ?_) (by rw [sizeLine_eq]; simp; omega))
  exact h h' _ c' k (none_size fun _ _ e => e) hr

/-- `len(x)` for a local `x` that is a list -/
theorem X_len_of {x : Str} {np p1 pos : Pos} {a : Addr} {xs : List Value} {m : Str → Option Value} {Q : Value → Shared → Prop} (G : Gd w s.heap) (hn : s.heap.Ns env.locals m) (hm : m x = some (.ref a)) (ha : s.heap.IsList a xs.toArray) (hz : xs.length ≤ 1000)
    (h : ∀ t tk, Q (.int xs.length t) { s with toks := tk })
    (hk : env.scope.kind = .function := by rfl) (hx : env.kindOf x = some .local := by rfl) (hl : env.kindOf "len" = some .globalImplicit := by rfl) (hg : env.globals = mainGlobals := by rfl) (hb : env.builtins = builtinsNs := by rfl) (hd : (x == ("__debug__" : Str)) = false := by decide)
    (he : starEach [PySem.Expr.Name x p1] env = (false, eval (.Name x p1) env) :: starEach [] env := by rfl) :
    wpC b (model prog w) A (eval (.Call (.Name "len" np) [.Name x p1] [] pos) env) Q E s := by
  refine X_Call_mach (f := .builtin "len") rfl ?_ ?_ he
  · intro Q' q
    exact nm_bi G (bi_len w) rfl (by decide) q hk hl hg hb
  refine X_items_cons ?_ he
  refine wpC_of (nm_loc hn hm ?_ hk hx hd)
  refine X_items_nil ?_
  refine wpC_of (call_len_list ha (by simp; omega) ?_)
  have := h (s.toks + 1) (s.toks + 1 + 1)
  simpa using this

theorem cda_spec (G : Gd w s.heap) (hh : A.handled = none) (hr : A.depth + 2 < recursionLimit) (hu : A.units + 110 < cLine) {ga wa : Addr} {gi wi : List Value} {got want : List (Nat × Nat)} (hgL : s.heap.IsList ga gi.toArray) (hwL : s.heap.IsList wa wi.toArray)
    {C : Heap} (kC : Keeps C s.heap) (hgC : All2 C (got.map (thP w)) gi) (hwC : All2 C (want.map (thP w)) wi) (hgl : got.length ≤ 100) (hwl : want.length ≤ 100)
    (h : ∀ h' tk a ys nn, h'.get? a = some (lst ys nn) → s.heap.get? a = none → All2 h' ((cdaOf got want).map (mmP w C s.heap)) ys → Keeps s.heap h' → R (.ok (.ret (.ref a))) { s with heap := h', toks := tk }) :
    codeC b (model prog w) A (.call (.ref 160) ⟨[.ref ga, .ref wa], []⟩) R s := by
  refine code_fn (binds := [("actual", .ref ga), ("expected", .ref wa)]) G (fn_cda w) rfl (by omega) (fun _ _ => BindsTo.of_eq (by rfl)) ?_ ?_
  · intro x hx
    simp only [List.mem_cons, List.not_mem_nil, or_false] at hx
    rcases hx with rfl | rfl <;> rfl
  intro h₁ hns hk
  have S₁ := Fm.start G hns hk
  have hgA := keep_things kC hgC
  have hwA := keep_things kC hwC
  refine wpC_execs_cons ?_
  refine wpC_of ?_
  refine wpAny_Expr_any ?_
  refine wpAny_Constant_str ?_
  dsimp only
  refine wpC_execs_cons ?_
  refine X_Assign2_sw hh ?_
  refine X_Tuple ?_
  refine X_items_cons ?_
  have hgz : gi.length = got.length := by have := all2_len hgA; simpa using this.symm
  have hwz : wi.length = want.length := by have := all2_len hwA; simpa using this.symm
  refine X_list_of S₁.gdh S₁.st.ns rfl (isL_keeps hgL hk) (by omega) fun h₂ sA n₂ k₂ ns hs => ?_
  have S₂ := S₁.new ns (fun q => nomatch q) hs k₂
  refine X_items_cons ?_
  refine X_list_of S₂.gdh S₂.st.ns rfl (isL_keeps hwL fun b o e => k₂ _ _ (hk _ _ e)) (by omega) fun h₃ tA n₃ k₃ nt ht => ?_
  have S₃ := S₂.new nt (fun q => nomatch q) ht k₃
  refine X_items_nil ?_
  refine ⟨by show (2 : Nat) ≤ sizeLine; rw [sizeLine_eq]; omega, ?_⟩
  refine ⟨_, _, _, _, rfl, ⟨_, Heap.get?_push_size _ rfl, rfl, _, rfl⟩, (S₃.grow fun b o e => Heap.get?_push_of_some _ e).st.ns, ?_⟩
  intro h₄ tk₄ hns₄ k₄
  have S₄ := (S₃.grow fun b o e => Heap.get?_push_of_some _ e).store hns₄ k₄
  dsimp only
  refine wpC_execs_cons ?_
  refine X_Assign2_sw hh ?_
  refine X_Tuple ?_
  refine X_items_cons ?_
  refine X_len_of S₄.gdh S₄.st.ns rfl ⟨_, (S₄.st.mem (sA, lst gi n₂) (by simp)).1, rfl, _, rfl⟩ (by omega) fun t1 tk5 => ?_
  refine X_items_cons ?_
  refine X_len_of S₄.gdh S₄.st.ns rfl ⟨_, (S₄.st.mem (tA, lst wi n₃) (by simp)).1, rfl, _, rfl⟩ (by omega) fun t2 tk6 => ?_
  refine X_items_nil ?_
  refine ⟨by show (2 : Nat) ≤ sizeLine; rw [sizeLine_eq]; omega, ?_⟩
  refine ⟨_, _, _, _, rfl, ⟨_, Heap.get?_push_size _ rfl, rfl, _, rfl⟩, (S₄.grow fun b o e => Heap.get?_push_of_some _ e).st.ns, ?_⟩
  intro h₅ tk₅ hns₅ k₅
  have S₅ := (S₄.grow fun b o e => Heap.get?_push_of_some _ e).store hns₅ k₅
  dsimp only
  refine wpC_execs_cons ?_
  refine X_Assign_Name ?_
  refine X_Call_mach0 (f := .type "object") rfl ?_ ?_
  · intro Q' q
    exact nm_bi S₅.gdh (bi_object w) rfl (by decide) q
  refine wpC_of (object_new fun h₆ tk₆ N k₆ nN hN => ?_)
  have S₆ := (S₅.grow k₆).rebase
  have hNb := S₅.calm_new k₆ nN (fun q => (nomatch q)) hN
  have kB₆ : Keeps s.heap (calmer _ _ [] h₆) := (S₅.grow k₆).calms
  dsimp only
  refine wpAny_storeName_local rfl S₆.st.ns fun h₇ hns₇ sb₇ => ?_
  have S₇ := S₆.store hns₇ (fun b o q e => sb₇.extBut b o q e)
  dsimp only
  refine wpC_execs_cons ?_
  refine X_Assign_Name ?_
  refine wpC_of (wpAny_List ?_)
  refine wpAny_items_nil ?_
  refine ⟨Nat.zero_le _, ?_⟩
  have S₈ := S₇.new (none_size (fun _ _ e => e)) (fun q => (nomatch q)) (Heap.get?_push_size h₇ (o := lst [] 0) rfl) (fun b o e => Heap.get?_push_of_some _ e)
  refine wpAny_storeName_local rfl S₈.st.ns fun h₉ hns₉ sb₉ => ?_
  have S₉ := S₈.store hns₉ (fun b o q e => sb₉.extBut b o q e)
  dsimp only
  have hgA₀ := keep_things kB₆ hgA
  have hwA₀ := keep_things kB₆ hwA
  refine wpC_execs_cons ?_
  refine X_For_enumOf hh got.length (J1 w C s.heap got want gi wi N sA tA h₇.objs.size) (xA := sA) S₉ rfl ⟨_, (S₉.st.mem (sA, lst gi n₂) (by simp)).1, rfl, _, rfl⟩ ⟨gi, wi, [], n₂, n₃, 0, t1, t2, rfl, rfl, rfl, by rw [← hgz]; rfl, by rw [← hwz]; rfl, rfl, rfl, Msk.zero hgA₀, Msk.zero hwA₀, .nil, Nat.zero_le _⟩ ?_ ?_ ?_
  · rintro i B' m' mu' h kB ⟨ss, ts, rs, ns, nt, nr, tm, tn, rfl, ms, mt, mm, mn, mN, mr, Ms, Mt, hrs, lr⟩ ⟨hid, S'⟩
    exact ⟨_, ⟨_, (S'.st.mem (sA, lst ss ns) (by simp)).1, rfl, _, rfl⟩, by simpa using Ms.len⟩
  · rintro i v B' m' mu' En oE It oI T tk0 h₁₀ tk₁₀ hi kB ⟨ss, ts, rs, ns, nt, nr, tm, tn, rfl, ms, mt, mm, mn, mN, mr, Ms, Mt, hrs, lr⟩ S' ⟨items, hit, hsz, hv⟩ hT
    obtain ⟨x, hx⟩ : ∃ x, got[i]? = some x := ⟨_, List.getElem?_eq_getElem hi⟩
    have hxa : (got ++ want)[i]? = some x := by rw [List.getElem?_append_left hi]; exact hx
    have hvx : ss[i]? = some v := by
      have hx' := (S'.st.mem (sA, lst ss ns) (by simp)).1
      obtain ⟨o', ho', _, nn, hd'⟩ := hit
      rw [hx'] at ho'; cases ho'
      injection hd' with hd'
      subst hd'
      simpa using hv
    have hat := Ms.at' i x hx
    rw [hvx] at hat
    have KK : Keeps s.heap (calmer _ _ [] h₆) := kB₆
    have hN' := kB _ _ hNb
    have hgA' := keep_things kB hgA₀
    have hwA' := keep_things kB hwA₀
    refine wpC_of ?_
    refine assign2 hh hT S'.st.ns rfl rfl (fun h₁₁ tk₁₁ hns₁₁ k₁₁ => ?_)
    have S₁ := S'.store hns₁₁ k₁₁
    have hss := (S₁.st.mem (sA, lst ss ns) (by simp)).1
    refine wpC_execs_cons ?_
    refine X_If ?_
    refine X_isTrue_Compare1 ?_
    refine wpC_of (nm_loc S₁.st.ns rfl ?_ rfl rfl)
    refine wpC_of (nm_loc S₁.st.ns mN ?_ rfl rfl)
    have hnext := cdaAt_succ hxa
    cases hsn : (cdaAt got want i).2.contains x.1 with
    | true =>
      rw [hsn, if_pos rfl] at hat
      cases hat
      refine is_null_null ?_
      refine wpAny_truthy_bool ?_
      simp only [if_true]
      refine wpC_execs_cons ?_
      refine wpC_of ?_
      refine wpAny_Continue ?_
      dsimp only
      have hst : cdaAt got want (i + 1) = cdaAt got want i := by rw [hnext]; unfold cdaStep; rw [hsn, if_pos rfl]
      refine ⟨B', _, _, h₁₁, _, rfl, fun _ _ e => e, S₁, ss, ts, rs, ns, nt, nr, tm, tn, rfl, ms, mt, mm, mn, mN, mr, ?_, ?_, ?_, by omega⟩
      · rw [hst]; exact Ms
      · rw [hst]; exact Mt
      · rw [hst]; exact hrs
    | false =>
      rw [hsn, if_neg Bool.false_ne_true] at hat
      obtain ⟨u, hu', pv⟩ := all2_get hgA' (show (got.map (thP w))[i]? = some (thP w x) by rw [List.getElem?_map, hx]; rfl)
      rw [hu'] at hat
      cases hat
      obtain ⟨u₀, hu₀, pv₀⟩ := all2_get hgC (show (got.map (thP w))[i]? = some (thP w x) by rw [List.getElem?_map, hx]; rfl)
      rw [hu'] at hu₀; cases hu₀
      refine is_null_thing (S₁.st.keep _ _ hN') (pv.keeps S₁.st.keep) ?_
      refine wpAny_truthy_bool ?_
      simp only [Bool.false_eq_true, if_false]
      refine wpC_execs_nil ?_
      refine wpC_execs_cons ?_
      refine wpC_of ?_
      refine wpAny_Assign_two ?_
      refine wpAny_Constant_int ?_
      refine wpAny_assign_Name ?_
      refine wpAny_storeName_local rfl S₁.st.ns fun h₁₂ hns₁₂ sb₁₂ => ?_
      have S₂ := S₁.store hns₁₂ (fun b o q e => sb₁₂.extBut b o q e)
      refine wpAny_assign_Name ?_
      refine wpAny_storeName_local rfl S₂.st.ns fun h₁₃ hns₁₃ sb₁₃ => ?_
      have S₃ := S₂.store hns₁₃ (fun b o q e => sb₁₃.extBut b o q e)
      dsimp only
      refine wpC_execs_cons ?_
      refine range_hits (l₁ := [(En, oE), (It, oI), (h₇.objs.size, lst rs nr), (tA, lst ts nt)]) (l₂ := []) hh S₃ (by show A.units + 3 + 70 < cLine; omega) ms rfl mm rfl mN rfl hN' pv hgA' Ms hsn (by omega) (by omega) ?_ rfl rfl rfl rfl rfl rfl rfl rfl rfl rfl rfl
      intro h₁₄ tk₁₄ n₁₄ m₁₄ ss' S₄ hm₁₄ hc₁₄ Ms'
      dsimp only
      refine wpC_execs_cons ?_
      refine enum_hits (l₁ := [(En, oE), (It, oI), (h₇.objs.size, lst rs nr)]) (l₂ := [(sA, lst ss' n₁₄)]) hh S₄ (by show A.units + 3 + 70 < cLine; omega) ((hm₁₄ _ (by decide) (by decide)).trans mt) (hm₁₄ _ (by decide) (by decide)) ((hm₁₄ _ (by decide) (by decide)).trans mN) (hm₁₄ _ (by decide) (by decide)) hN' pv hwA' Mt hsn (by omega) ?_ rfl rfl rfl rfl rfl rfl rfl rfl rfl rfl
      intro h₁₅ tk₁₅ n₁₅ m₁₅ ts' S₅' hm₁₅ hc₁₅ Mt'
      dsimp only
      have kseen : ∀ {j' : Nat} {p : Nat × Nat}, got[j']? = some p → (p.1 == x.1) = true → i ≤ j' := by
        intro j' p hp hpk
        refine Nat.le_of_not_lt fun hlt => ?_
        have : (cdaAt got want i).2.contains x.1 = true := by
          rw [cdaAt_seen, List.any_eq_true]
          refine ⟨p, ?_, hpk⟩
          refine List.mem_of_getElem? (i := j') ?_
          rw [List.getElem?_take_of_lt (by omega), List.getElem?_append_left (by omega)]
          exact hp
        rw [this] at hsn; cases hsn
      have hany : (got.take i).any (·.1 == x.1) = false := by
        rw [cdaAt_seen] at hsn
        rw [List.take_append_of_le_length (by omega)] at hsn
        exact hsn
      rw [cnt_drop hany] at hc₁₄
      obtain ⟨tcs, hcs⟩ := hc₁₄
      obtain ⟨tct, hct⟩ := hc₁₅
      have hcs' : m₁₅ "cnt_s" = some (.int ((cnt got x.1 : Nat) : Int) tcs) := (hm₁₅ _ (by decide) (by decide) (by decide)).trans hcs
      have hct' : m₁₅ "cnt_t" = some (.int ((cnt want x.1 : Nat) : Int) tct) := hct
      have me' : m₁₅ "elem" = some v := (hm₁₅ _ (by decide) (by decide) (by decide)).trans (hm₁₄ _ (by decide) (by decide))
      have nm : ∀ y : Str, y ≠ "j" → y ≠ "other_elem" → y ≠ "cnt_t" → y ≠ "cnt_s" → y ≠ "elem" → y ≠ "i" → m₁₅ y = m' y := fun y y1 y2 y3 y4 y5 y6 => by
        rw [hm₁₅ y y1 y2 y3, hm₁₄ y y1 y4]
        show (if y = "cnt_t" then _ else if y = "cnt_s" then _ else if y = "elem" then _ else if y = "i" then _ else m' y) = _
        rw [if_neg y3, if_neg y4, if_neg y5, if_neg y6]
      have hst : cdaAt got want (i + 1) = (if cnt got x.1 != cnt want x.1 then (cdaAt got want i).1 ++ [(cnt got x.1, cnt want x.1, x.1, x.2)] else (cdaAt got want i).1, (cdaAt got want i).2 ++ [x.1]) := by
        rw [hnext]; unfold cdaStep; rw [hsn, if_neg Bool.false_ne_true]
      have Ms₂ : Msk N gi got (fun _ k => (cdaAt got want (i + 1)).2.contains k) ss' := Ms'.congr fun j' p hp => by
        rw [hst, contains_snoc]
        cases hpk : p.1 == x.1 with
        | false => simp
        | true => rw [show decide (i ≤ j') = true from decide_eq_true (kseen hp hpk)]; rfl
      have Mt₂ : Msk N wi want (fun _ k => (cdaAt got want (i + 1)).2.contains k) ts' := Mt'.congr fun j' p hp => by
        rw [hst, contains_snoc]
      refine wpC_execs_cons ?_
      refine X_If ?_
      refine X_isTrue_Compare1 ?_
      refine wpC_of (nm_loc S₅'.st.ns hcs' ?_ rfl rfl)
      refine wpC_of (nm_loc S₅'.st.ns hct' ?_ rfl rfl)
      refine ne_int ?_
      refine wpAny_truthy_bool ?_
      have hbe : (((cnt got x.1 : Nat) : Int) != (cnt want x.1 : Int)) = (cnt got x.1 != cnt want x.1) := by
        rw [Bool.eq_iff_iff]; simp only [bne_iff_ne, ne_eq]; omega
      rw [hbe]
      cases hne : cnt got x.1 != cnt want x.1 with
      | false =>
        simp only [Bool.false_eq_true, if_false]
        refine wpC_execs_nil ?_
        refine wpC_execs_nil ?_
        refine ⟨B', m₁₅, _, h₁₅, tk₁₅, rfl, fun _ _ e => e, S₅', ss', ts', rs, n₁₄, n₁₅, nr, tm, tn, rfl, ?_, ?_, ?_, ?_, ?_, ?_, Ms₂, Mt₂, ?_, by omega⟩
        · rw [nm _ (by decide) (by decide) (by decide) (by decide) (by decide) (by decide)]; exact ms
        · rw [nm _ (by decide) (by decide) (by decide) (by decide) (by decide) (by decide)]; exact mt
        · rw [nm _ (by decide) (by decide) (by decide) (by decide) (by decide) (by decide)]; exact mm
        · rw [nm _ (by decide) (by decide) (by decide) (by decide) (by decide) (by decide)]; exact mn
        · rw [nm _ (by decide) (by decide) (by decide) (by decide) (by decide) (by decide)]; exact mN
        · rw [nm _ (by decide) (by decide) (by decide) (by decide) (by decide) (by decide)]; exact mr
        · rw [hst, hne]; exact hrs
      | true =>
        simp only [if_true]
        refine mm_turn (l₁ := [(En, oE), (It, oI)]) (c1 := cnt got x.1) (c2 := cnt want x.1) S₅' (by show A.depth + 1 + 1 < recursionLimit; omega) (by omega) ((nm _ (by decide) (by decide) (by decide) (by decide) (by decide) (by decide)).trans mr) me' pv₀ (fun b o q => S₅'.st.keep _ _ (kB _ _ (KK _ _ q))) ?_ ?_ ?_ rfl rfl rfl rfl rfl rfl
        · intro tk Q' q
          exact nm_loc S₅'.st.ns hcs' (q _ _) rfl rfl
        · intro tk Q' q
          exact nm_loc S₅'.st.ns hct' (q _ _) rfl rfl
        intro h₁₆ tk₁₆ y n₁₆ B₁₆ kB₁₆ hy S₆'
        refine wpC_execs_nil ?_
        refine ⟨B₁₆, _, _, h₁₆, tk₁₆, rfl, kB₁₆, S₆', ss', ts', rs ++ [y], n₁₄, n₁₅, n₁₆, tm, tn, rfl, ?_, ?_, ?_, ?_, ?_, ?_, Ms₂, Mt₂, ?_, ?_⟩
        · exact (nm "s" (by decide) (by decide) (by decide) (by decide) (by decide) (by decide)).trans ms
        · exact (nm "t" (by decide) (by decide) (by decide) (by decide) (by decide) (by decide)).trans mt
        · exact (nm "m" (by decide) (by decide) (by decide) (by decide) (by decide) (by decide)).trans mm
        · exact (nm "n" (by decide) (by decide) (by decide) (by decide) (by decide) (by decide)).trans mn
        · exact (nm "NULL" (by decide) (by decide) (by decide) (by decide) (by decide) (by decide)).trans mN
        · exact (nm "result" (by decide) (by decide) (by decide) (by decide) (by decide) (by decide)).trans mr
        · rw [hst, hne, if_pos rfl, List.map_append]
          exact all2_append (keep_rows kB₁₆ hrs) (.cons hy .nil)
        · rw [List.length_append]; simp only [List.length_cons, List.length_nil]; omega
  · rintro B₂ m₂ mu₂ h₂₀ tk₂₀ kB₂ ⟨ss, ts, rs, ns', nt', nr, tm, tn, rfl, ms, mt, mm, mn, mN, mr, Ms, Mt, hrs, lr⟩ S₂₀
    have hN₂ := kB₂ _ _ hNb
    have hwA₂ := keep_things kB₂ hwA₀
    dsimp only
    refine wpC_execs_cons ?_
    refine X_For_enumOf hh want.length (J2 w C s.heap got want wi N tA h₇.objs.size) (xA := tA) S₂₀ mt ⟨_, (S₂₀.st.mem (tA, lst ts nt') (by simp)).1, rfl, _, rfl⟩ ⟨ts, rs, nt', nr, tn, [(sA, lst ss ns')], rfl, mt, mn, mN, mr, Mt, hrs, lr⟩ ?_ ?_ ?_
    · rintro i B' m' mu' h kB ⟨ts, rs, nt, nr, tn, l₂, rfl, mt, mn, mN, mr, Mt, hrs, lr⟩ ⟨hid, S'⟩
      exact ⟨_, ⟨_, (S'.st.mem (tA, lst ts nt) (by simp)).1, rfl, _, rfl⟩, by simpa using Mt.len⟩
    · rintro i v B' m' mu' En oE It oI T tk0 h₁₀ tk₁₀ hi kB ⟨ts, rs, nt, nr, tn, l₂, rfl, mt, mn, mN, mr, Mt, hrs, lr⟩ S' ⟨items, hit, hsz, hv⟩ hT
      obtain ⟨x, hx⟩ : ∃ x, want[i]? = some x := ⟨_, List.getElem?_eq_getElem hi⟩
      have hxa : (got ++ want)[got.length + i]? = some x := by rw [List.getElem?_append_right (by omega), Nat.add_sub_cancel_left]; exact hx
      have hvx : ts[i]? = some v := by
        have hx' := (S'.st.mem (tA, lst ts nt) (by simp)).1
        obtain ⟨o', ho', _, nn, hd'⟩ := hit
        rw [hx'] at ho'; cases ho'
        injection hd' with hd'
        subst hd'
        simpa using hv
      have hat := Mt.at' i x hx
      rw [hvx] at hat
      have KK : Keeps s.heap B₂ := fun b o q => kB₂ _ _ (kB₆ _ _ q)
      have hN' := kB _ _ hN₂
      have hwA' := keep_things kB hwA₂
      refine wpC_of ?_
      refine assign2 hh hT S'.st.ns rfl rfl (fun h₁₁ tk₁₁ hns₁₁ k₁₁ => ?_)
      have S₁ := S'.store hns₁₁ k₁₁
      refine wpC_execs_cons ?_
      refine X_If ?_
      refine X_isTrue_Compare1 ?_
      refine wpC_of (nm_loc S₁.st.ns rfl ?_ rfl rfl)
      refine wpC_of (nm_loc S₁.st.ns mN ?_ rfl rfl)
      have hnext := cdaAt_succ hxa
      cases hsn : (cdaAt got want (got.length + i)).2.contains x.1 with
      | true =>
        rw [hsn, if_pos rfl] at hat
        cases hat
        refine is_null_null ?_
        refine wpAny_truthy_bool ?_
        simp only [if_true]
        refine wpC_execs_cons ?_
        refine wpC_of ?_
        refine wpAny_Continue ?_
        dsimp only
        have hst : cdaAt got want (got.length + (i + 1)) = cdaAt got want (got.length + i) := by rw [← Nat.add_assoc, hnext]; unfold cdaStep; rw [hsn, if_pos rfl]
        refine ⟨B', _, _, h₁₁, _, rfl, fun _ _ e => e, S₁, ts, rs, nt, nr, tn, l₂, rfl, mt, mn, mN, mr, ?_, ?_, by omega⟩
        · rw [hst]; exact Mt
        · rw [hst]; exact hrs
      | false =>
        rw [hsn, if_neg Bool.false_ne_true] at hat
        obtain ⟨u, hu', pv⟩ := all2_get hwA' (show (want.map (thP w))[i]? = some (thP w x) by rw [List.getElem?_map, hx]; rfl)
        rw [hu'] at hat
        cases hat
        obtain ⟨u₀, hu₀, pv₀⟩ := all2_get hwC (show (want.map (thP w))[i]? = some (thP w x) by rw [List.getElem?_map, hx]; rfl)
        rw [hu'] at hu₀; cases hu₀
        refine is_null_thing (S₁.st.keep _ _ hN') (pv.keeps S₁.st.keep) ?_
        refine wpAny_truthy_bool ?_
        simp only [Bool.false_eq_true, if_false]
        refine wpC_execs_nil ?_
        refine wpC_execs_cons ?_
        refine X_Assign_Name ?_
        refine wpC_of (wpAny_Constant_int ?_)
        refine wpAny_storeName_local rfl S₁.st.ns fun h₁₃ hns₁₃ sb₁₃ => ?_
        have S₃ := S₁.store hns₁₃ (fun b o q e => sb₁₃.extBut b o q e)
        dsimp only
        refine wpC_execs_cons ?_
        refine range_hits (l₁ := [(En, oE), (It, oI), (h₇.objs.size, lst rs nr)]) (l₂ := l₂) hh S₃ (by show A.units + 3 + 70 < cLine; omega) mt rfl mn rfl mN rfl hN' pv hwA' Mt hsn (by omega) (by omega) ?_ rfl rfl rfl rfl rfl rfl rfl rfl rfl rfl rfl
        intro h₁₅ tk₁₅ n₁₅ m₁₅ ts' S₅' hm₁₅ hc₁₅ Mt'
        dsimp only
        have etake : (got ++ want).take (got.length + i) = got ++ want.take i := by rw [List.take_append, List.take_of_length_le (Nat.le_add_right _ _), Nat.add_sub_cancel_left]
        have hany : got.any (·.1 == x.1) = false ∧ (want.take i).any (·.1 == x.1) = false := by
          rw [cdaAt_seen, etake, List.any_append, Bool.or_eq_false_iff] at hsn
          exact hsn
        have kseen : ∀ {j' : Nat} {p : Nat × Nat}, want[j']? = some p → (p.1 == x.1) = true → i ≤ j' := by
          intro j' p hp hpk
          refine Nat.le_of_not_lt fun hlt => ?_
          have := hany.2
          rw [List.any_eq_false] at this
          exact this p (List.mem_of_getElem? (i := j') (by rw [List.getElem?_take_of_lt hlt]; exact hp)) hpk
        rw [cnt_drop hany.2] at hc₁₅
        obtain ⟨tct, hct⟩ := hc₁₅
        have hct' : m₁₅ "cnt_t" = some (.int ((cnt want x.1 : Nat) : Int) tct) := hct
        have me' : m₁₅ "elem" = some v := hm₁₅ _ (by decide) (by decide)
        have nm : ∀ y : Str, y ≠ "j" → y ≠ "cnt_t" → y ≠ "elem" → y ≠ "i" → m₁₅ y = m' y := fun y y1 y3 y5 y6 => by
          rw [hm₁₅ y y1 y3]
          show (if y = "cnt_t" then _ else if y = "elem" then _ else if y = "i" then _ else m' y) = _
          rw [if_neg y3, if_neg y5, if_neg y6]
        have h0 : cnt got x.1 = 0 := cnt_none hany.1
        have h1 : 0 < cnt want x.1 := by
          unfold cnt
          rw [List.countP_pos_iff]
          exact ⟨x, List.mem_of_getElem? hx, by simp⟩
        have hne : (cnt got x.1 != cnt want x.1) = true := by rw [bne_iff_ne]; omega
        have hst : cdaAt got want (got.length + (i + 1)) = ((cdaAt got want (got.length + i)).1 ++ [(0, cnt want x.1, x.1, x.2)], (cdaAt got want (got.length + i)).2 ++ [x.1]) := by
          rw [← Nat.add_assoc, hnext]; unfold cdaStep; rw [hsn, if_neg Bool.false_ne_true, hne, if_pos rfl, h0]
        have Mt₂ : Msk N wi want (fun _ k => (cdaAt got want (got.length + (i + 1))).2.contains k) ts' := Mt'.congr fun j' p hp => by
          rw [hst, contains_snoc]
          cases hpk : p.1 == x.1 with
          | false => simp
          | true => rw [show decide (i ≤ j') = true from decide_eq_true (kseen hp hpk)]; rfl
        refine mm_turn (l₁ := [(En, oE), (It, oI)]) (c1 := 0) (c2 := cnt want x.1) S₅' (by show A.depth + 1 + 1 < recursionLimit; omega) (by omega) ((nm _ (by decide) (by decide) (by decide) (by decide)).trans mr) me' pv₀ (fun b o q => S₅'.st.keep _ _ (kB _ _ (KK _ _ q))) ?_ ?_ ?_ rfl rfl rfl rfl rfl rfl
        · intro tk Q' q
          exact wpAny_Constant_int (q _ _)
        · intro tk Q' q
          exact nm_loc S₅'.st.ns hct' (q _ _) rfl rfl
        intro h₁₆ tk₁₆ y n₁₆ B₁₆ kB₁₆ hy S₆'
        refine ⟨B₁₆, _, _, h₁₆, tk₁₆, rfl, kB₁₆, S₆', ts', rs ++ [y], n₁₅, n₁₆, tn, l₂, rfl, ?_, ?_, ?_, ?_, Mt₂, ?_, ?_⟩
        · exact (nm "t" (by decide) (by decide) (by decide) (by decide)).trans mt
        · exact (nm "n" (by decide) (by decide) (by decide) (by decide)).trans mn
        · exact (nm "NULL" (by decide) (by decide) (by decide) (by decide)).trans mN
        · exact (nm "result" (by decide) (by decide) (by decide) (by decide)).trans mr
        · rw [hst, List.map_append]
          exact all2_append (keep_rows kB₁₆ hrs) (.cons hy .nil)
        · rw [List.length_append]; simp only [List.length_cons, List.length_nil]; omega
    · rintro B₃ m₃ mu₃ h₃₀ tk₃₀ kB₃ ⟨ts, rs, nt, nr, tn, l₂, rfl, mt, mn, mN, mr, Mt, hrs, lr⟩ S₃₀
      dsimp only
      refine wpC_execs_cons ?_
      refine X_Return ?_
      refine wpC_of (nm_loc S₃₀.st.ns mr ?_ rfl rfl)
      have hr := (S₃₀.st.mem (h₇.objs.size, lst rs nr) (by simp)).1
      have hrn : s.heap.get? h₇.objs.size = none := none_size fun b o q => S₇.st.keep _ _ (kB₆ _ _ q)
      have e : cdaAt got want (got.length + want.length) = (got ++ want).foldl (cdaStep (cnt got) (cnt want)) ([], []) := by
        unfold cdaAt
        rw [List.take_of_length_le (by simp)]
      rw [e] at hrs
      exact h h₃₀ _ _ rs nr hr hrn (keep_rows S₃₀.st.keep hrs) fun b o q => S₃₀.st.keep _ _ (kB₃ _ _ (kB₂ _ _ (kB₆ _ _ q)))
end
end Mine
end

/-! part Ex -/
section
open PySem PySem.W PyProof.Rows PySem.Calls
set_option maxRecDepth 100000
namespace Mine
section
variable {b : Bool} {w : World} {A : Around} {E : Value → Shared → Prop} {s : Shared} {R : Result → Shared → Prop} {env : Env}

theorem remove_go {l : Addr} {v : Value} {k f n : Nat} {xs : List Value} {ps : List (Nat × Nat)} {B : Heap} (hh : A.handled = none) (hu : A.units + 80 < cLine) (ho : s.heap.get? l = some (lst xs n)) (kB : Keeps B s.heap) (hps : All2 B (ps.map (thP w)) xs) (hv : Thing w B k f v) (hz : xs.length ≤ 1000)
    (yes : ∀ preP q sufP pre x suf, ps = preP ++ q :: sufP → preP.any (·.1 == k) = false → (q.1 == k) = true → xs = pre ++ x :: suf → pre.length = preP.length → ∀ h', h'.get? l = some (lst (pre ++ suf) (n + 1)) → (∀ b o, b ≠ l → s.heap.get? b = some o → h'.get? b = some o) → R (.ok (.ret .none)) { s with heap := h' })
    (no : ps.any (·.1 == k) = false → ∀ h' tk e, Heap.NewExc s.heap h' e "ValueError" → R (.error (.ref e)) { s with heap := h', toks := tk }) :
    ∀ (suf pre : List Value) (sufP preP : List (Nat × Nat)), xs = pre ++ suf → ps = preP ++ sufP → pre.length = preP.length → preP.any (·.1 == k) = false → codeAny (model prog w) A (.builtin "list.remove.loop" ⟨[.ref l, v, rawInt (pre.length : Int)], []⟩) R s := by
  have hlen : xs.length = ps.length := by have := all2_len hps; simpa using this.symm
  intro suf
  induction suf with
  | nil =>
    intro pre sufP preP hx hp hl hno
    have hs : sufP = [] := by
      have h1 : xs.length = pre.length := by rw [hx]; simp
      have h2 : ps.length = preP.length + sufP.length := by rw [hp]; simp
      exact List.length_eq_zero_iff.mp (by omega)
    subst hs
    rw [List.append_nil] at hp hx
    subst hp hx
    refine codeAny_builtin PySem.MeetsSeq.entry_remove_loop ?_
    rw [Around.under_plainId PySem.MeetsSeq.plain_remove_loop _]
    obtain ⟨hp, g, d, tk, os⟩ := s
    unfold Builtin.«list.remove.loop»
    wp_walk using wpAny_loadPart' ho
    have hi : xs.toArray[((xs.length : Nat) : Int).toNat]? = none := by simp
    rw [hi]
    wp_walk
    exact_raiseError plainExc_ValueError hh (no hno)
  | cons x suf ih =>
    intro pre sufP preP hx hp hl hno
    cases sufP with
    | nil =>
      have h1 : xs.length = pre.length + (suf.length + 1) := by rw [hx]; simp
      have h2 : ps.length = preP.length := by rw [hp]; simp
      omega
    | cons q sufP =>
    have hxi : xs[pre.length]? = some x := by rw [hx]; simp
    have hqi : ps[pre.length]? = some q := by rw [hp, hl]; simp
    obtain ⟨v', hv', pv⟩ := all2_get hps (show (ps.map (thP w))[pre.length]? = some (thP w q) by rw [List.getElem?_map, hqi]; rfl)
    rw [hxi] at hv'; cases hv'
    refine codeAny_builtin PySem.MeetsSeq.entry_remove_loop ?_
    rw [Around.under_plainId PySem.MeetsSeq.plain_remove_loop _]
    obtain ⟨hp', g, d, tk, os⟩ := s
    unfold Builtin.«list.remove.loop»
    wp_walk using wpAny_loadPart' ho
    have hi : xs.toArray[((pre.length : Nat) : Int).toNat]? = some x := by simpa using hxi
    rw [hi]
    refine wpAny_bind (thing_eqBool (pv.keeps kB) (hv.keeps kB) (by show A.units + 1 + 70 < cLine; omega) ?_)
    cases hq : q.1 == k with
    | true =>
      simp only [if_true]
      have e0 : (((pre.length : Nat) : Int)).toNat = pre.length := by simp
      rw [e0]
      have e1 : xs.toArray.eraseIdxIfInBounds pre.length = (pre ++ suf).toArray := by
        rw [hx, List.eraseIdxIfInBounds_toArray, List.eraseIdx_append_of_length_le (Nat.le_refl _), Nat.sub_self]; rfl
      have hl2 : (pre ++ suf).length + 1 = xs.length := by rw [hx]; simp only [List.length_append, List.length_cons]; omega
      have key : (hp'.update l (Obj.mapSeq fun x => x.eraseIdxIfInBounds pre.length)).get? l = some (lst (pre ++ suf) (n + 1)) := by
        have := Heap.get?_update_self (h := hp') (Obj.mapSeq fun x => x.eraseIdxIfInBounds pre.length) ho rfl
        rw [this]
        show some ({ cls := _, dict := _, data := .seq (xs.toArray.eraseIdxIfInBounds pre.length) (if (xs.toArray.eraseIdxIfInBounds pre.length).size == xs.toArray.size then n else n + 1), slots := _ } : Obj) = _
        rw [e1]
        have e2 : ((pre ++ suf).toArray.size == xs.toArray.size) = false := by
          simp only [List.size_toArray, beq_eq_false_iff_ne]; omega
        rw [e2]; rfl
      show wpAny _ _ (updateSeq l (fun x => x.eraseIdxIfInBounds pre.length) >>= fun _ => ret .none) _ _ _
      refine wpAny_bind (wpAny_updateSeq ho rfl (wpAny_pure ?_) (by rw [sizeLine_eq]; simp; omega) (by rw [e1, sizeLine_eq]; simp only [List.size_toArray]; omega))
      exact yes preP q sufP pre x suf hp hno hq hx hl _ key fun b o q' e => (Heap.get?_update_other _ _ (fun z : l = b => q' z.symm)).trans e
    | false =>
      simp only [Bool.false_eq_true, if_false]
      have e2 : (((pre.length : Nat) : Int) + 1) = (((pre ++ [x]).length : Nat) : Int) := by simp
      rw [e2]
      refine wpAny_pure ⟨plainId_quiet PySem.MeetsSeq.plain_remove_loop _, ?_⟩
      exact ih (pre ++ [x]) sufP (preP ++ [q]) (by rw [hx]; simp) (by rw [hp]; simp) (by simp [hl]) (by rw [List.any_append, hno]; simp [hq])

/-- `l.remove(v)` of things -/
theorem remove_at {l : Addr} {v : Value} {k f n : Nat} {xs : List Value} {ps : List (Nat × Nat)} {B : Heap} {Q : Value → Shared → Prop} (hh : A.handled = none) (hu : A.units + 90 < cLine) (ho : s.heap.get? l = some (lst xs n)) (kB : Keeps B s.heap) (hps : All2 B (ps.map (thP w)) xs) (hv : Thing w B k f v) (hz : xs.length ≤ 1000)
    (yes : ∀ preP q sufP pre x suf, ps = preP ++ q :: sufP → preP.any (·.1 == k) = false → (q.1 == k) = true → xs = pre ++ x :: suf → pre.length = preP.length → ∀ h', h'.get? l = some (lst (pre ++ suf) (n + 1)) → (∀ b o, b ≠ l → s.heap.get? b = some o → h'.get? b = some o) → Q .none { s with heap := h' })
    (no : ps.any (·.1 == k) = false → ∀ h' tk e, Heap.NewExc s.heap h' e "ValueError" → E (.ref e) { s with heap := h', toks := tk }) :
    wpAny (model prog w) A (call (.builtin "list.remove") [.ref l, v]) Q E s := by
  refine wpAny_call (codeAny_call_builtin F.slot_list_remove.plain F.entry_list_remove (F.slot_list_remove.check _ _ _ _ _ _ _ _ ⟨_, ho, rfl⟩ (F.args_list_remove_2 _ _) ?_))
  obtain ⟨hp, g, d, tk, os⟩ := s
  unfold Builtin.«list.remove»
  wp_walk using wpAny_loadPart' ho
  exact ⟨plainId_quiet PySem.MeetsSeq.plain_remove_loop _, remove_go (A := A) (R := fun r s' => match r with | .ok (.ret v) => Q v s' | .ok _ => False | .error e => E e s') (ps := ps) hh (by omega) ho kB hps hv hz yes no xs [] ps [] rfl rfl rfl rfl⟩

/-- the last item is taken -/
theorem pop_at {l : Addr} {n : Nat} {xs : List Value} {x : Value} {pos : Pos} {Q : Value → Shared → Prop} (ho : s.heap.get? l = some (lst (xs ++ [x]) n)) (hz : xs.length ≤ 900)
    (h : ∀ h', h'.get? l = some (lst xs (n + 1)) → (∀ b o, b ≠ l → s.heap.get? b = some o → h'.get? b = some o) → Q x { s with heap := h' }) :
    wpAny (model prog w) A (callWith pos (.builtin "list.pop") [.ref l] [] []) Q E s := by
  have hs : (xs ++ [x]).toArray.size = xs.length + 1 := by simp
  refine PySem.P.pop_list (items := (xs ++ [x]).toArray) (n := n) (y := x) ho (by rw [hs]; simp) ?_ (by rw [sizeLine_eq, hs]; omega)
  have e1 : (xs ++ [x]).toArray.eraseIdxIfInBounds ((xs ++ [x]).toArray.size - 1) = xs.toArray := by
    rw [hs, List.eraseIdxIfInBounds_toArray, Nat.add_sub_cancel, List.eraseIdx_append_of_length_le (Nat.le_refl _), Nat.sub_self]; simp
  refine h _ ?_ fun b o q' e => (Heap.get?_update_other _ _ (fun z : l = b => q' z.symm)).trans e
  have := Heap.get?_update_self (h := s.heap) (Obj.mapSeq fun y => y.eraseIdxIfInBounds ((xs ++ [x]).toArray.size - 1)) ho rfl
  rw [this]
  show some ({ cls := _, dict := _, data := .seq ((xs ++ [x]).toArray.eraseIdxIfInBounds ((xs ++ [x]).toArray.size - 1)) (if ((xs ++ [x]).toArray.eraseIdxIfInBounds ((xs ++ [x]).toArray.size - 1)).size == (xs ++ [x]).toArray.size then n else n + 1), slots := _ } : Obj) = _
  rw [e1, hs]
  have e2 : (xs.toArray.size == xs.length + 1) = false := by simp
  rw [e2]; rfl

/-- the frames on the stack, up to their slots -/
def Kin (outs : List Addr) (h h' : Heap) : Prop := ∀ b ∈ outs, ∀ o, h.get? b = some o → ∃ sl, h'.get? b = some { o with slots := sl }
theorem Kin.refl (outs : List Addr) (h : Heap) : Kin outs h h := fun _ _ o e => ⟨o.slots, e⟩
theorem Kin.trans {outs : List Addr} {h₁ h₂ h₃ : Heap} (x : Kin outs h₁ h₂) (y : Kin outs h₂ h₃) : Kin outs h₁ h₃ := fun b hb o e =>
  let ⟨_, e₁⟩ := x b hb o e; let ⟨sl, e₂⟩ := y b hb _ e₁; ⟨sl, e₂⟩
theorem Kin.of {outs : List Addr} {h h' : Heap} (k : ∀ b ∈ outs, ∀ o, h.get? b = some o → h'.get? b = some o) : Kin outs h h' := fun b hb o e => ⟨o.slots, k b hb o e⟩
theorem funFrames_kin {base h h' : Heap} : ∀ {l : List Env}, h.FunFrames base l → Kin (l.filterMap (·.frame)) h h' → h'.FunFrames base l
  | [], _, _ => trivial
  | env :: l, ⟨hk, ⟨L, o, hf, hn, ho, hd⟩, hr⟩, k => by
    rw [List.filterMap_cons, hf] at k
    obtain ⟨sl, e⟩ := k L (List.mem_cons_self ..) o ho
    exact ⟨hk, ⟨L, _, hf, hn, e, hd⟩, funFrames_kin hr fun b hb => k b (List.mem_cons_of_mem _ hb)⟩
theorem funFrames_fresh {base h : Heap} : ∀ {l : List Env}, h.FunFrames base l → ∀ b ∈ l.filterMap (·.frame), base.get? b = none := fun hl _ hb => (hl.mem hb).1
theorem bi_ValueError (w : World) : nsIn (KF w) mainGlobals "ValueError" = some none := rfl

/-- an exception of the frame's own is caught -/
theorem caught_new {outer : List Env} {L e : Addr} {np pos : Pos} {b₀ : Stmt} {suite : List Stmt} {rest : List ExceptHandler} {Q : Flow → Shared → Prop} {h : Heap} (G : Gd w (hideAll h ((env :: outer).filterMap (·.frame))))
    (hfr : A.frames = some (env :: outer)) (hf : env.frame = some L) {base : Heap} (hl : h.FunFrames base (env :: outer)) (hx : Heap.NewExc h s.heap e "ValueError")
    (k : ∀ h', (∀ b o, b ∉ (env :: outer).filterMap (·.frame) → h.get? b = some o → h'.get? b = some o) → Kin ((env :: outer).filterMap (·.frame)) h h' →
      wpAny (model prog w) (A.mark (some (.ref e))) (execs (b₀ :: suite) env) Q (notedBy (model prog w) (A.mark (some (.ref e))) env (cameBackBy (model prog w) A env E)) { s with heap := h' })
    (hk : env.scope.kind = .function := by rfl) (hvx : env.kindOf "ValueError" = some .globalImplicit := by rfl) (hg : env.globals = mainGlobals := by rfl) (hb : env.builtins = builtinsNs := by rfl) :
    wpAny (model prog w) A (noteFrame (.ref e) env) (fun _ s₂ => wpAny (model prog w) A (setFlight (.ref e) none) (fun _ s₃ => wpAny (model prog w) A (handleBy (.ref e) env (.ExceptHandler (some (.Name "ValueError" np)) none (b₀ :: suite) pos :: rest)) Q E s₃) E s₂) E s := by
  have kb : ∀ b o, (hideAll h ((env :: outer).filterMap (·.frame))).get? b = some o → s.heap.get? b = some o := fun b o q => hx.keeps _ _ (of_hideAll _ q)
  have hl' : h.FunFrames (hideAll h ((env :: outer).filterMap (·.frame))) (env :: outer) := funFrames_hide hl fun en he a ha => List.mem_filterMap.mpr ⟨en, he, ha⟩
  have hl₁ : s.heap.FunFrames (hideAll h ((env :: outer).filterMap (·.frame))) (env :: outer) := hl'.of_keeps fun b o q _ => ⟨o, hx.keeps _ _ q, rfl⟩
  obtain ⟨ob, t, he, hcl, hd⟩ := hx.there
  have hen : (hideAll h ((env :: outer).filterMap (·.frame))).get? e = none := by
    cases q : (hideAll h ((env :: outer).filterMap (·.frame))).get? e with
    | none => rfl
    | some o => rw [← of_hideAll _ q, hx.new] 
  unfold noteFrame
  simp only [hf]
  refine wpAny_bind (wpAny_field he hd (x := .none) rfl ?_)
  rw [if_neg (by decide)]
  refine wpAny_newEntry hfr hl₁ hf he kb hen hd (by simp) fun h₁ left => ?_
  obtain ⟨st, ff, ⟨oe, vs, T, oT, ts, he₁, hc₁, hd₁, hv₁, hT0, hTe, hT₁, hdT, h3⟩, sl⟩ := left
  have G₁ := G.keeps st
  rw [hcl] at hc₁
  refine wpAny_handleBy_builtin (X := "ValueError") (T := "ValueError") (b := true) PySem.F.isExc_ValueError PySem.F.notTuple_ValueError (by rw [isSubtype_type]; kernel_rfl) ?_
  refine nm_bi G₁ (bi_ValueError w) rfl (by decide) ?_ hk hvx hg hb
  refine ⟨rfl, ⟨_, he₁, hc₁⟩, ?_⟩
  simp only [if_true]
  refine wpAny_setFlight_none he₁ hd₁ hv₁ hT₁ hdT (Array.getElem?_eq_some_iff.mp h3).1 ?_
  refine k _ ?_ ?_
  · intro b o hb ho
    have := st b o (hideAll_get _ ho hb)
    refine (Heap.get?_update_other _ _ fun z : T = b => ?_).trans this
    have q := hideAll_get _ ho hb
    rw [← z, hT0] at q; cases q
  · intro b hb o ho
    obtain ⟨_, o', ho', hnf⟩ := hl.mem hb
    rw [ho] at ho'; cases ho'
    obtain ⟨sl', e'⟩ := sl b o (hx.keeps _ _ ho) hnf
    refine ⟨sl', (Heap.get?_update_other _ _ fun z : T = b => ?_).trans e'⟩
    rw [← z, hT₁] at e'
    injection e' with e'
    exact hnf ts (by rw [e'] at hdT; exact hdT)
end
end Mine
end

/-! part U1 -/
section
open PySem PySem.W PyProof.Rows PySem.Calls
set_option maxRecDepth 100000
namespace Mine
section
variable {b : Bool} {w : World} {A : Around} {E : Value → Shared → Prop} {s : Shared} {R : Result → Shared → Prop} {env : Env}

theorem Fm.caught {B : Heap} {L : Addr} {m : Str → Option Value} {mu : List (Addr × Obj)} {hid : List Addr} {h h' : Heap} (S : Fm w B L m mu hid h) (k : ∀ b o, b ∉ L :: hid → h.get? b = some o → h'.get? b = some o) (kin : Kin (L :: hid) h h') : Fm w B L m mu hid h' := by
  have nin : ∀ {b : Addr}, b ≠ L → b ∉ hid → b ∉ L :: hid := fun h1 h2 q => by
    rcases List.mem_cons.mp q with q | q
    · exact h1 q
    · exact h2 q
  refine ⟨⟨S.st.gd, fun b o e => k b o (nin (fun q => ?_) fun q => ?_) (S.st.keep b o e), ?_, S.st.off, fun p hp => ⟨k _ _ (nin (S.st.mem p hp).2.1 (S.hm p hp)) (S.st.mem p hp).1, (S.st.mem p hp).2⟩, S.st.nd⟩, S.hb, S.hL, S.hm⟩
  · rw [q, S.st.off] at e; cases e
  · rw [S.hb b q] at e; cases e
  · obtain ⟨o, es, ep, e, r⟩ := S.st.ns
    obtain ⟨sl, e'⟩ := kin L (List.mem_cons_self ..) o e
    exact ⟨_, es, ep, e', r⟩

theorem eraseP_split {p : Nat × Nat → Bool} {pre : List (Nat × Nat)} {q : Nat × Nat} {suf : List (Nat × Nat)} (h : pre.any p = false) (hq : p q = true) : (pre ++ q :: suf).eraseP p = pre ++ suf := by
  induction pre with
  | nil => simp [hq]
  | cons x pre ih =>
    rw [List.any_cons, Bool.or_eq_false_iff] at h
    rw [List.cons_append, List.eraseP_cons_of_neg (by rw [h.1]; exact Bool.false_ne_true), ih h.2]; rfl
theorem eraseP_none {p : Nat × Nat → Bool} {ps : List (Nat × Nat)} (h : ps.any p = false) : ps.eraseP p = ps := by
  induction ps with
  | nil => rfl
  | cons x pre ih =>
    rw [List.any_cons, Bool.or_eq_false_iff] at h
    rw [List.eraseP_cons_of_neg (by rw [h.1]; exact Bool.false_ne_true), ih h.2]
theorem all2_split {h : Heap} {Ps Qs : List HP} {P : HP} {us vs : List Value} {u : Value} (x : All2 h (Ps ++ P :: Qs) (us ++ u :: vs)) (hl : us.length = Ps.length) : All2 h (Ps ++ Qs) (us ++ vs) := by
  have h1 := all2_take Ps.length x
  have h2 := all2_drop (Ps.length + 1) x
  rw [List.take_left' rfl, ← hl, List.take_left' rfl] at h1
  have e1 : (Ps ++ P :: Qs).drop (Ps.length + 1) = Qs := by
    rw [List.drop_append]; simp
  have e2 : (us ++ u :: vs).drop (Ps.length + 1) = vs := by
    rw [← hl, List.drop_append]; simp
  rw [e1, e2] at h2
  exact all2_append h1 h2

theorem uld_try {outer : List Env} {p1 p2 p3 p4 p5 p6 p7 p8 p9 p10 p11 p12 p13 : Pos} {Q : Flow → Shared → Prop} {B : Heap} {m : Str → Option Value} {l₂ : List (Addr × Obj)} {aA mA : Addr} {as ms : List Value} {an mn k f : Nat} {v : Value} {ps : List (Nat × Nat)}
    (hh : A.handled = none) (hu : A.units + 90 < cLine) (S : Fm w B env.locals m ((mA, lst ms mn) :: (aA, lst as an) :: l₂) (outer.filterMap (·.frame)) s.heap) (hfr : A.frames = some (env :: outer)) (hff : s.heap.FunFrames B outer)
    (mact : m "actual" = some (.ref aA)) (mit : m "item" = some v) (mmi : m "missing" = some (.ref mA)) (hps : All2 B (ps.map (thP w)) as) (hv : Thing w B k f v) (hz : as.length ≤ 1000) (hz2 : ms.length ≤ 1000)
    (h : ∀ h' tk as' ms' an' mn', All2 B ((ps.eraseP (·.1 == k)).map (thP w)) as' → ms' = (if ps.any (·.1 == k) then ms else ms ++ [v]) → Fm w B env.locals m ((mA, lst ms' mn') :: (aA, lst as' an') :: l₂) (outer.filterMap (·.frame)) h' → Kin (outer.filterMap (·.frame)) s.heap h' → Q .next { s with heap := h', toks := tk })
    (hf : env.frame = some env.locals := by rfl) (hk : env.scope.kind = .function := by rfl) (ka : env.kindOf "actual" = some .local := by rfl) (ki : env.kindOf "item" = some .local := by rfl) (km : env.kindOf "missing" = some .local := by rfl) (kv : env.kindOf "ValueError" = some .globalImplicit := by rfl) (hg : env.globals = mainGlobals := by rfl) (hb : env.builtins = builtinsNs := by rfl)
    (hi : interactive env = false := by rfl) (hs1 : swapsWith (.Call (.Attribute (.Name "actual" p1) "remove" p2) [.Name "item" p3] [] p4) none p5.line env = pure false := by rfl) (hs2 : swapsWith (.Call (.Attribute (.Name "missing" p7) "append" p8) [.Name "item" p9] [] p10) none p11.line env = pure false := by rfl)
    (hfew1 : ((backTo p4 (starEach [.Name "item" p3] env)).all (fun x => !x.1) && (backToKw p4 (keywordEach [] env)).all (fun x => x.1.isSome) && decide ([PySem.Expr.Name "item" p3].length + ([] : List Keyword).length + (if ([] : List Keyword).isEmpty then 0 else 1) < 30)) = true := by rfl)
    (hfew2 : ((backTo p10 (starEach [.Name "item" p9] env)).all (fun x => !x.1) && (backToKw p10 (keywordEach [] env)).all (fun x => x.1.isSome) && decide ([PySem.Expr.Name "item" p9].length + ([] : List Keyword).length + (if ([] : List Keyword).isEmpty then 0 else 1) < 30)) = true := by rfl)
    (hl1 : (p2.endLine == p4.line) = true := by rfl) (hl2 : (p8.endLine == p10.line) = true := by rfl) (he1 : starEach [PySem.Expr.Name "item" p3] env = (false, eval (.Name "item" p3) env) :: starEach [] env := by rfl) :
    wpAny (model prog w) A (exec (.Try [.Expr (.Call (.Attribute (.Name "actual" p1) "remove" p2) [.Name "item" p3] [] p4) p5] [.ExceptHandler (some (.Name "ValueError" p6)) none [.Expr (.Call (.Attribute (.Name "missing" p7) "append" p8) [.Name "item" p9] [] p10) p11] p12] [] [] p13) env) Q E s := by
  refine wpAny_Try_except ?_
  refine wpAny_execs_cons ?_
  refine wpAny_Expr_any ?_ hi hs1
  refine wpAny_Call_method (T := "list") (id := "list.remove") rfl hfew1 hl1 PySem.F.plainAttrs_list F.slot_list_remove F.type_list_remove ?_
  have ha := (S.st.mem (aA, lst as an) (by simp)).1
  refine nm_loc S.st.ns mact ?_ hk ka
  refine ⟨⟨_, ha, rfl⟩, ?_, ?_⟩
  · intro a ea
    cases ea
    exact ⟨_, ha, rfl⟩
  refine callWith_builtin (by rw [he1]; rfl) ?_
  refine evalArgs_items ?_ he1
  refine wpAny_items_cons ?_ he1
  refine nm_loc S.st.ns mit ?_ hk ki
  refine wpAny_items_nil ?_
  refine remove_at hh hu ha S.st.keep hps hv hz ?_ ?_
  · intro preP q sufP pre x suf hp hno hq hx hl h₁ ho k₁
    have S₁ : Fm w B env.locals m ((mA, lst ms mn) :: (aA, lst (pre ++ suf) (an + 1)) :: l₂) (outer.filterMap (·.frame)) h₁ := Fm.upd (l₁ := [(mA, lst ms mn)]) S ho k₁
    refine wpAny_execs_nil ?_
    refine wpAny_execs_nil ?_
    have hany : ps.any (·.1 == k) = true := by rw [hp, List.any_append, List.any_cons, hq]; simp
    refine h h₁ _ (pre ++ suf) ms _ _ ?_ (by rw [hany]; rfl) S₁ (Kin.of fun b hb o e => k₁ b o (fun z => ?_) e)
    · rw [hp, eraseP_split hno hq, List.map_append]
      rw [hp, hx, List.map_append, List.map_cons] at hps
      exact all2_split hps (by simpa using hl)
    · exact S.hm (aA, lst as an) (by simp) (by rw [← z]; exact hb)
  · intro hno h₁ tk₁ e hx
    have hL : (env :: outer).filterMap (·.frame) = env.locals :: outer.filterMap (·.frame) := by rw [List.filterMap_cons, hf]
    refine caught_new (h := s.heap) (base := B) (L := env.locals) ?_ hfr hf (Heap.FunFrames.cons (by rw [hk]; decide) hf S.st.ns S.st.off hff) hx ?_ hk kv hg hb
    · rw [hL]
      refine S.st.gd.keeps fun b o q => hideAll_get _ (S.st.keep _ _ q) fun z => ?_
      rcases List.mem_cons.mp z with z | z
      · rw [z, S.st.off] at q; cases q
      · rw [S.hb b z] at q; cases q
    · intro h₂ k₂ kin₂
      rw [hL] at k₂ kin₂
      have S₂ := S.caught k₂ kin₂
      have hm₂ := (S₂.st.mem (mA, lst ms mn) (by simp)).1
      refine wpAny_execs_cons ?_
      refine X_append S₂.st.ns mmi hm₂ hz2 ?_ hk km rfl hi hs2 hfew2 hl2
      refine nm_loc S₂.st.ns mit ?_ hk ki
      refine ⟨hm₂, fun h₃ hq₃ k₃ => ?_⟩
      have S₃ : Fm w B env.locals m ((mA, lst (ms ++ [v]) (mn + 1)) :: (aA, lst as an) :: l₂) (outer.filterMap (·.frame)) h₃ := Fm.upd (l₁ := []) S₂ hq₃ k₃
      refine wpAny_execs_nil ?_
      refine h h₃ _ as (ms ++ [v]) _ _ ?_ (by rw [hno]; rfl) S₃ ?_
      · rw [eraseP_none hno]; exact hps
      · refine Kin.trans (fun b hb o e => kin₂ b (List.mem_cons_of_mem _ hb) o e) (Kin.of fun b hb o e => k₃ b o (fun z => ?_) e)
        exact S₂.hm (mA, lst ms mn) (by simp) (by rw [← z]; exact hb)
end
end Mine
end

/-! part U2 -/
section
open PySem PySem.W PyProof.Rows PySem.Calls
set_option maxRecDepth 100000
namespace Mine
abbrev Pr := Nat × Nat
/-- two lists: what is missing, what is left; the first list comes last item first -/
def uldGo : List Pr → List Pr → List Pr → List Pr × List Pr
  | [], as, ms => (ms, as)
  | x :: es, as, ms => uldGo es (as.eraseP (·.1 == x.1)) (if as.any (·.1 == x.1) then ms else ms ++ [x])
/-- one list as both -/
def oneGo : Nat → List Pr → List Pr → List Pr
  | 0, _, ms => ms
  | _ + 1, [], ms => ms
  | n + 1, x :: r, ms => oneGo n (r.reverse.eraseP (·.1 == x.1)).reverse (if r.reverse.any (·.1 == x.1) then ms else ms ++ [x])

theorem all2_snoc {h : Heap} {Ps : List HP} {P : HP} {vs : List Value} (x : All2 h (Ps ++ [P]) vs) : ∃ us u, vs = us ++ [u] ∧ All2 h Ps us ∧ P h u := by
  have h1 := all2_take Ps.length x
  have h2 := all2_drop Ps.length x
  rw [List.take_left' rfl] at h1
  rw [List.drop_left' rfl] at h2
  generalize e : vs.drop Ps.length = ws at h2
  cases h2 with
  | cons p q =>
    cases q with
    | nil => exact ⟨_, _, by rw [← e, List.take_append_drop], h1, p⟩

theorem Fm.startB {w : World} {B h₀ h : Heap} {m : Str → Option Value} {mu : List (Addr × Obj)} {outs : List Addr} (G : Gd w B) (kB : Keeps B h₀) (hns : h.Ns h₀.objs.size m) (hk : Keeps h₀ h)
    (hmu : ∀ p ∈ mu, h₀.get? p.1 = some p.2 ∧ B.get? p.1 = none) (nd : (mu.map (·.1)).Nodup) (ho : ∀ b ∈ outs, B.get? b = none ∧ h₀.get? b ≠ none) (hd : ∀ p ∈ mu, p.1 ∉ outs) : Fm w B h₀.objs.size m mu outs h := by
  have hlt : ∀ {b : Addr} {o : Obj}, h₀.get? b = some o → b ≠ h₀.objs.size := fun e => Nat.ne_of_lt (Heap.lt_size e)
  refine ⟨⟨G, fun b o e => hk _ _ (kB _ _ e), hns, none_size kB, fun p hp => ⟨hk _ _ (hmu p hp).1, hlt (hmu p hp).1, (hmu p hp).2⟩, nd⟩, fun b hb => (ho b hb).1, fun q => ?_, hd⟩
  exact (ho _ q).2 (none_size fun _ _ e => e)
section
variable {b : Bool} {w : World} {A : Around} {E : Value → Shared → Prop} {s : Shared} {R : Result → Shared → Prop} {env : Env}

theorem uld_spec2 {envs : List Env} {B : Heap} (G : Gd w B) (kB : Keeps B s.heap) (hh : A.handled = none) (hr : A.depth < recursionLimit) (hu : A.units + 110 < cLine) (hfr : A.frames = some envs) (hff : s.heap.FunFrames B envs)
    {eA aA : Addr} {es as : List Value} {en an : Nat} {rP aP : List Pr} (he : s.heap.get? eA = some (lst es en)) (ha : s.heap.get? aA = some (lst as an)) (hB1 : B.get? eA = none) (hB2 : B.get? aA = none) (hne : aA ≠ eA) (ho1 : eA ∉ envs.filterMap (·.frame)) (ho2 : aA ∉ envs.filterMap (·.frame))
    (hes : All2 B (rP.reverse.map (thP w)) es) (has : All2 B (aP.map (thP w)) as) (hez : rP.length ≤ 200) (haz : aP.length ≤ 200)
    (h : ∀ h' tk T mA ms mn en' as' an', h'.IsTuple T #[.ref mA, .ref aA] → h'.get? mA = some (lst ms mn) → h'.get? eA = some (lst [] en') → h'.get? aA = some (lst as' an') → All2 B ((uldGo rP aP []).1.map (thP w)) ms → All2 B ((uldGo rP aP []).2.map (thP w)) as' →
      Keeps B h' → Kin (envs.filterMap (·.frame)) s.heap h' → R (.ok (.ret (.ref T))) { s with heap := h', toks := tk }) :
    codeC b (model prog w) A (.call (.ref 79) ⟨[.ref eA, .ref aA], []⟩) R s := by
  have G₀ := G.keeps kB
  refine code_fn (binds := [("expected", .ref eA), ("actual", .ref aA)]) G₀ (fn_uld w) rfl hr (fun _ _ => BindsTo.of_eq (by rfl)) ?_ ?_
  · intro x hx
    simp only [List.mem_cons, List.not_mem_nil, or_false] at hx
    rcases hx with rfl | rfl <;> rfl
  intro h₁ hns hk
  have hfr' : (A.deeper (envF 5 "unorderable_list_difference" 79 78 s.heap.objs.size)).frames = some (envF 5 "unorderable_list_difference" 79 78 s.heap.objs.size :: envs) := Around.frames_deeper hfr
  have S₁ := Fm.startB (mu := [(aA, lst as an), (eA, lst es en)]) (outs := envs.filterMap (·.frame)) G kB hns hk (by
    intro p hp
    simp only [List.mem_cons, List.not_mem_nil, or_false] at hp
    rcases hp with rfl | rfl
    · exact ⟨ha, hB2⟩
    · exact ⟨he, hB1⟩) (by simpa using hne) (fun b hb => by
    obtain ⟨h1, o, h2, _⟩ := hff.mem hb
    exact ⟨h1, by rw [h2]; simp⟩) (by
    intro p hp
    simp only [List.mem_cons, List.not_mem_nil, or_false] at hp
    rcases hp with rfl | rfl
    · exact ho2
    · exact ho1)
  have kin₁ : Kin (envs.filterMap (·.frame)) s.heap h₁ := Kin.of fun b _ o e => hk b o e
  refine wpC_execs_cons ?_
  refine wpC_of ?_
  refine wpAny_Expr_any ?_
  refine wpAny_Constant_str ?_
  dsimp only
  refine wpC_execs_cons ?_
  refine X_Assign_Name ?_
  refine wpC_of (wpAny_List ?_)
  refine wpAny_items_nil ?_
  refine ⟨Nat.zero_le _, ?_⟩
  have nn : h₁.get? h₁.objs.size = none := none_size (fun _ _ e => e)
  have p1 : Keeps h₁ (h₁.push (lst [] 0)) := fun b o e => Heap.get?_push_of_some _ e
  have mA0 : h₁.objs.size ∉ envs.filterMap (·.frame) := fun q => by
    obtain ⟨_, o, ho, _⟩ := hff.mem q
    rw [hk _ _ ho] at nn; cases nn
  have S₂ := S₁.new nn mA0 (Heap.get?_push_size h₁ (o := lst [] 0) rfl) p1
  have kin₂ : Kin (envs.filterMap (·.frame)) s.heap (h₁.push (lst [] 0)) := kin₁.trans (Kin.of fun b _ o e => p1 b o e)
  refine wpAny_storeName_local rfl S₂.st.ns fun h₃ hns₃ sb₃ => ?_
  have S₃ := S₂.store hns₃ (fun b o q e => sb₃.extBut b o q e)
  have kin₃ : Kin (envs.filterMap (·.frame)) s.heap h₃ := kin₂.trans (Kin.of fun b hb o e => sb₃.extBut b o (fun z => by rw [z] at hb; exact S₂.hL hb) e)
  dsimp only
  refine wpC_execs_cons ?_
  refine wpC_of ?_
  refine wpAny_While ?_
  refine codeAny_whileLoop (fun c s' => ∃ h tk m es' as' ms' en' an' mn' rP' aP' mP', s' = { s with heap := h, toks := tk } ∧ Fm w B s.heap.objs.size m [(h₁.objs.size, lst ms' mn'), (aA, lst as' an'), (eA, lst es' en')] (envs.filterMap (·.frame)) h ∧
    m "expected" = some (.ref eA) ∧ m "actual" = some (.ref aA) ∧ m "missing" = some (.ref h₁.objs.size) ∧ All2 B (rP'.reverse.map (thP w)) es' ∧ All2 B (aP'.map (thP w)) as' ∧ All2 B (mP'.map (thP w)) ms' ∧ c = rP'.length ∧ rP'.length + mP'.length ≤ 200 ∧ aP'.length ≤ 200 ∧
    uldGo rP' aP' mP' = uldGo rP aP [] ∧ Kin (envs.filterMap (·.frame)) s.heap h) ?_ rP.length ⟨h₃, _, _, es, as, [], en, an, 0, rP, aP, [], rfl, S₃, rfl, rfl, rfl, hes, has, .nil, rfl, by simpa using hez, haz, rfl, kin₃⟩
  rintro c s' ⟨h₄, tk₄, m, es', as', ms', en', an', mn', rP', aP', mP', rfl, S₄, m1, m2, m3, hes', has', hms', rfl, hz1, hz2, hgo, kin₄⟩
  have he₄ := (S₄.st.mem (eA, lst es' en') (by simp)).1
  have ha₄ := (S₄.st.mem (aA, lst as' an') (by simp)).1
  have hm₄ := (S₄.st.mem (h₁.objs.size, lst ms' mn') (by simp)).1
  have le : es'.length = rP'.length := by have := all2_len hes'; simpa using this.symm
  have la : as'.length = aP'.length := by have := all2_len has'; simpa using this.symm
  have lm : ms'.length = mP'.length := by have := all2_len hms'; simpa using this.symm
  refine any_of (X_isTrue_value (b := false) ?_)
  refine wpC_of (nm_loc S₄.st.ns m1 ?_ rfl rfl)
  refine wpAny_truthy_list ⟨_, he₄, rfl, _, rfl⟩ (by simp; omega) ?_
  cases rP' with
  | nil =>
    have hnil : es' = [] := List.length_eq_zero_iff.mp le
    subst hnil
    have e0 : (!(([] : List Value).toArray.isEmpty)) = false := rfl
    rw [e0]
    simp only [Bool.false_eq_true, if_false]
    refine wpAny_execs_nil ?_
    dsimp only
    refine wpC_execs_cons ?_
    refine X_Return ?_
    refine X_Tuple ?_
    refine X_items_cons ?_
    refine wpC_of (nm_loc S₄.st.ns m3 ?_ rfl rfl)
    refine X_items_cons ?_
    refine wpC_of (nm_loc S₄.st.ns m2 ?_ rfl rfl)
    refine X_items_nil ?_
    refine ⟨by show (2 : Nat) ≤ sizeLine; rw [sizeLine_eq]; omega, ?_⟩
    have p2 : Keeps h₄ (h₄.push { cls := .type "tuple", data := .seq [Value.ref h₁.objs.size, .ref aA].toArray }) := fun b o e => Heap.get?_push_of_some _ e
    have hgo' : uldGo rP aP [] = (mP', aP') := hgo.symm
    refine h _ _ h₄.objs.size h₁.objs.size ms' mn' en' as' an' ⟨_, Heap.get?_push_size _ rfl, rfl, _, rfl⟩ (p2 _ _ hm₄) (p2 _ _ he₄) (p2 _ _ ha₄) ?_ ?_ (fun b o e => p2 _ _ (S₄.st.keep _ _ e)) (kin₄.trans (Kin.of fun b _ o e => p2 b o e))
    · rw [hgo']; exact hms'
    · rw [hgo']; exact has'
  | cons x r =>
    rw [List.reverse_cons, List.map_append] at hes'
    obtain ⟨us, v, rfl, hus, pv⟩ := all2_snoc hes'
    have e0 : (!((us ++ [v]).toArray.isEmpty)) = true := by simp
    rw [e0]
    simp only [if_true]
    refine wpAny_execs_cons ?_
    refine any_of (X_Assign_Name (b := false) ?_)
    refine wpC_of ?_
    refine wpAny_Call_method (T := "list") (id := "list.pop") rfl (by rfl) (by rfl) PySem.F.plainAttrs_list F.slot_list_pop F.type_list_pop ?_
    refine nm_loc S₄.st.ns m1 ?_ rfl rfl
    refine ⟨⟨_, he₄, rfl⟩, ?_, ?_⟩
    · intro a ea
      cases ea
      exact ⟨_, he₄, rfl⟩
    simp only [List.length_append, List.length_cons, List.length_nil] at le hz1
    refine pop_at he₄ (by omega) fun h₅ ho₅ k₅ => ?_
    have S₅ : Fm w B s.heap.objs.size m [(h₁.objs.size, lst ms' mn'), (aA, lst as' an'), (eA, lst us (en' + 1))] (envs.filterMap (·.frame)) h₅ := Fm.upd (l₁ := [(h₁.objs.size, lst ms' mn'), (aA, lst as' an')]) S₄ ho₅ k₅
    have kin₅ := kin₄.trans (Kin.of fun b hb o e => k₅ b o (fun z => S₄.hm (eA, lst (us ++ [v]) en') (by simp) (by rw [← z]; exact hb)) e)
    refine wpAny_storeName_local rfl S₅.st.ns fun h₆ hns₆ sb₆ => ?_
    have S₆ := S₅.store hns₆ (fun b o q e => sb₆.extBut b o q e)
    have kin₆ := kin₅.trans (Kin.of fun b hb o e => sb₆.extBut b o (fun z => by rw [z] at hb; exact S₅.hL hb) e)
    dsimp only
    refine wpAny_execs_cons ?_
    refine uld_try (outer := envs) (ps := aP') (k := x.1) (f := x.2) hh (by show A.units + 3 + 90 < cLine; omega) S₆ hfr' (funFrames_kin hff kin₆) m2 rfl m3 has' pv (by omega) (by omega) ?_
    intro h₇ tk₇ as₇ ms₇ an₇ mn₇ has₇ hms₇ S₇ kin₇
    refine wpAny_execs_nil ?_
    refine ⟨r.length, by simp, h₇, tk₇, _, us, as₇, ms₇, _, an₇, mn₇, r, aP'.eraseP (·.1 == x.1), if aP'.any (·.1 == x.1) then mP' else mP' ++ [x], rfl, S₇, m1, m2, m3, hus, has₇, ?_, rfl, ?_, ?_, hgo, kin₆.trans kin₇⟩
    · rw [hms₇]
      cases aP'.any (·.1 == x.1) with
      | true => exact hms'
      | false =>
        rw [if_neg Bool.false_ne_true, if_neg Bool.false_ne_true, List.map_append]
        exact all2_append hms' (.cons pv .nil)
    · cases aP'.any (·.1 == x.1) <;> simp <;> omega
    · exact Nat.le_trans (List.length_eraseP_le) hz2
end
end Mine
end

/-! part U3 -/
section
open PySem PySem.W PyProof.Rows PySem.Calls
set_option maxRecDepth 100000
namespace Mine
section
variable {b : Bool} {w : World} {A : Around} {E : Value → Shared → Prop} {s : Shared} {R : Result → Shared → Prop} {env : Env}

theorem oneGo_nil (n : Nat) (ms : List Pr) : oneGo n [] ms = ms := by cases n <;> rfl

theorem uld_spec1 {envs : List Env} {B : Heap} (G : Gd w B) (kB : Keeps B s.heap) (hh : A.handled = none) (hr : A.depth < recursionLimit) (hu : A.units + 110 < cLine) (hfr : A.frames = some envs) (hff : s.heap.FunFrames B envs)
    {aA : Addr} {as : List Value} {an : Nat} {rP : List Pr} (ha : s.heap.get? aA = some (lst as an)) (hB2 : B.get? aA = none) (ho2 : aA ∉ envs.filterMap (·.frame))
    (has : All2 B (rP.reverse.map (thP w)) as) (hez : rP.length ≤ 200)
    (h : ∀ h' tk T mA ms mn an', h'.IsTuple T #[.ref mA, .ref aA] → h'.get? mA = some (lst ms mn) → h'.get? aA = some (lst [] an') → All2 B ((oneGo rP.length rP []).map (thP w)) ms →
      Keeps B h' → Kin (envs.filterMap (·.frame)) s.heap h' → R (.ok (.ret (.ref T))) { s with heap := h', toks := tk }) :
    codeC b (model prog w) A (.call (.ref 79) ⟨[.ref aA, .ref aA], []⟩) R s := by
  have G₀ := G.keeps kB
  refine code_fn (binds := [("expected", .ref aA), ("actual", .ref aA)]) G₀ (fn_uld w) rfl hr (fun _ _ => BindsTo.of_eq (by rfl)) ?_ ?_
  · intro x hx
    simp only [List.mem_cons, List.not_mem_nil, or_false] at hx
    rcases hx with rfl | rfl <;> rfl
  intro h₁ hns hk
  have hfr' : (A.deeper (envF 5 "unorderable_list_difference" 79 78 s.heap.objs.size)).frames = some (envF 5 "unorderable_list_difference" 79 78 s.heap.objs.size :: envs) := Around.frames_deeper hfr
  have S₁ := Fm.startB (mu := [(aA, lst as an)]) (outs := envs.filterMap (·.frame)) G kB hns hk (by
    intro p hp
    simp only [List.mem_cons, List.not_mem_nil, or_false] at hp
    subst hp
    exact ⟨ha, hB2⟩) (by simp) (fun b hb => by
    obtain ⟨h1, o, h2, _⟩ := hff.mem hb
    exact ⟨h1, by rw [h2]; simp⟩) (by
    intro p hp
    simp only [List.mem_cons, List.not_mem_nil, or_false] at hp
    subst hp
    exact ho2)
  have kin₁ : Kin (envs.filterMap (·.frame)) s.heap h₁ := Kin.of fun b _ o e => hk b o e
  refine wpC_execs_cons ?_
  refine wpC_of ?_
  refine wpAny_Expr_any ?_
  refine wpAny_Constant_str ?_
  dsimp only
  refine wpC_execs_cons ?_
  refine X_Assign_Name ?_
  refine wpC_of (wpAny_List ?_)
  refine wpAny_items_nil ?_
  refine ⟨Nat.zero_le _, ?_⟩
  have nn : h₁.get? h₁.objs.size = none := none_size (fun _ _ e => e)
  have p1 : Keeps h₁ (h₁.push (lst [] 0)) := fun b o e => Heap.get?_push_of_some _ e
  have mA0 : h₁.objs.size ∉ envs.filterMap (·.frame) := fun q => by
    obtain ⟨_, o, ho, _⟩ := hff.mem q
    rw [hk _ _ ho] at nn; cases nn
  have S₂ := S₁.new nn mA0 (Heap.get?_push_size h₁ (o := lst [] 0) rfl) p1
  have kin₂ : Kin (envs.filterMap (·.frame)) s.heap (h₁.push (lst [] 0)) := kin₁.trans (Kin.of fun b _ o e => p1 b o e)
  refine wpAny_storeName_local rfl S₂.st.ns fun h₃ hns₃ sb₃ => ?_
  have S₃ := S₂.store hns₃ (fun b o q e => sb₃.extBut b o q e)
  have kin₃ : Kin (envs.filterMap (·.frame)) s.heap h₃ := kin₂.trans (Kin.of fun b hb o e => sb₃.extBut b o (fun z => by rw [z] at hb; exact S₂.hL hb) e)
  dsimp only
  refine wpC_execs_cons ?_
  refine wpC_of ?_
  refine wpAny_While ?_
  refine codeAny_whileLoop (fun c s' => ∃ h tk m as' ms' an' mn' rP' mP', s' = { s with heap := h, toks := tk } ∧ Fm w B s.heap.objs.size m [(h₁.objs.size, lst ms' mn'), (aA, lst as' an')] (envs.filterMap (·.frame)) h ∧
    m "expected" = some (.ref aA) ∧ m "actual" = some (.ref aA) ∧ m "missing" = some (.ref h₁.objs.size) ∧ All2 B (rP'.reverse.map (thP w)) as' ∧ All2 B (mP'.map (thP w)) ms' ∧ rP'.length ≤ c ∧ rP'.length + mP'.length ≤ 200 ∧
    oneGo c rP' mP' = oneGo rP.length rP [] ∧ Kin (envs.filterMap (·.frame)) s.heap h) ?_ rP.length ⟨h₃, _, _, as, [], an, 0, rP, [], rfl, S₃, rfl, rfl, rfl, has, .nil, Nat.le_refl _, by simpa using hez, rfl, kin₃⟩
  rintro c s' ⟨h₄, tk₄, m, as', ms', an', mn', rP', mP', rfl, S₄, m1, m2, m3, has', hms', hc, hz1, hgo, kin₄⟩
  have ha₄ := (S₄.st.mem (aA, lst as' an') (by simp)).1
  have hm₄ := (S₄.st.mem (h₁.objs.size, lst ms' mn') (by simp)).1
  have le : as'.length = rP'.length := by have := all2_len has'; simpa using this.symm
  have lm : ms'.length = mP'.length := by have := all2_len hms'; simpa using this.symm
  refine any_of (X_isTrue_value (b := false) ?_)
  refine wpC_of (nm_loc S₄.st.ns m1 ?_ rfl rfl)
  refine wpAny_truthy_list ⟨_, ha₄, rfl, _, rfl⟩ (by simp; omega) ?_
  cases rP' with
  | nil =>
    have hnil : as' = [] := List.length_eq_zero_iff.mp le
    subst hnil
    have e0 : (!(([] : List Value).toArray.isEmpty)) = false := rfl
    rw [e0]
    simp only [Bool.false_eq_true, if_false]
    refine wpAny_execs_nil ?_
    dsimp only
    refine wpC_execs_cons ?_
    refine X_Return ?_
    refine X_Tuple ?_
    refine X_items_cons ?_
    refine wpC_of (nm_loc S₄.st.ns m3 ?_ rfl rfl)
    refine X_items_cons ?_
    refine wpC_of (nm_loc S₄.st.ns m2 ?_ rfl rfl)
    refine X_items_nil ?_
    refine ⟨by show (2 : Nat) ≤ sizeLine; rw [sizeLine_eq]; omega, ?_⟩
    have p2 : Keeps h₄ (h₄.push { cls := .type "tuple", data := .seq [Value.ref h₁.objs.size, .ref aA].toArray }) := fun b o e => Heap.get?_push_of_some _ e
    rw [oneGo_nil] at hgo
    refine h _ _ h₄.objs.size h₁.objs.size ms' mn' an' ⟨_, Heap.get?_push_size _ rfl, rfl, _, rfl⟩ (p2 _ _ hm₄) (p2 _ _ ha₄) ?_ (fun b o e => p2 _ _ (S₄.st.keep _ _ e)) (kin₄.trans (Kin.of fun b _ o e => p2 b o e))
    rw [← hgo]; exact hms'
  | cons x r =>
    rw [List.reverse_cons, List.map_append] at has'
    obtain ⟨us, v, rfl, hus, pv⟩ := all2_snoc has'
    have e0 : (!((us ++ [v]).toArray.isEmpty)) = true := by simp
    rw [e0]
    simp only [if_true]
    refine wpAny_execs_cons ?_
    refine any_of (X_Assign_Name (b := false) ?_)
    refine wpC_of ?_
    refine wpAny_Call_method (T := "list") (id := "list.pop") rfl (by rfl) (by rfl) PySem.F.plainAttrs_list F.slot_list_pop F.type_list_pop ?_
    refine nm_loc S₄.st.ns m1 ?_ rfl rfl
    refine ⟨⟨_, ha₄, rfl⟩, ?_, ?_⟩
    · intro a ea
      cases ea
      exact ⟨_, ha₄, rfl⟩
    simp only [List.length_append, List.length_cons, List.length_nil] at le hz1
    refine pop_at ha₄ (by omega) fun h₅ ho₅ k₅ => ?_
    have S₅ : Fm w B s.heap.objs.size m [(h₁.objs.size, lst ms' mn'), (aA, lst us (an' + 1))] (envs.filterMap (·.frame)) h₅ := Fm.upd (l₁ := [(h₁.objs.size, lst ms' mn')]) S₄ ho₅ k₅
    have kin₅ := kin₄.trans (Kin.of fun b hb o e => k₅ b o (fun z => S₄.hm (aA, lst (us ++ [v]) an') (by simp) (by rw [← z]; exact hb)) e)
    refine wpAny_storeName_local rfl S₅.st.ns fun h₆ hns₆ sb₆ => ?_
    have S₆ := S₅.store hns₆ (fun b o q e => sb₆.extBut b o q e)
    have kin₆ := kin₅.trans (Kin.of fun b hb o e => sb₆.extBut b o (fun z => by rw [z] at hb; exact S₅.hL hb) e)
    dsimp only
    refine wpAny_execs_cons ?_
    refine uld_try (outer := envs) (ps := r.reverse) (k := x.1) (f := x.2) hh (by show A.units + 3 + 90 < cLine; omega) S₆ hfr' (funFrames_kin hff kin₆) m2 rfl m3 hus pv (by omega) (by omega) ?_
    intro h₇ tk₇ as₇ ms₇ an₇ mn₇ has₇ hms₇ S₇ kin₇
    refine wpAny_execs_nil ?_
    rw [List.length_cons] at hc
    have hc' : 0 < c := by omega
    obtain ⟨c', rfl⟩ : ∃ c', c = c' + 1 := ⟨c - 1, by omega⟩
    have hle := List.length_eraseP_le (l := r.reverse) (p := fun y : Pr => y.1 == x.1)
    rw [List.length_reverse] at hle
    refine ⟨c', by omega, h₇, tk₇, _, as₇, ms₇, an₇, mn₇, (r.reverse.eraseP (·.1 == x.1)).reverse, if r.reverse.any (·.1 == x.1) then mP' else mP' ++ [x], rfl, S₇, m1, m2, m3, ?_, ?_, ?_, ?_, hgo, kin₆.trans kin₇⟩
    · rw [List.reverse_reverse]; exact has₇
    · rw [hms₇]
      cases r.reverse.any (·.1 == x.1) with
      | true => exact hms'
      | false =>
        rw [if_neg Bool.false_ne_true, if_neg Bool.false_ne_true, List.map_append]
        exact all2_append hms' (.cons pv .nil)
    · rw [List.length_reverse]; omega
    · rw [List.length_reverse]
      cases r.reverse.any (·.1 == x.1)
      · simp only [Bool.false_eq_true, if_false, List.length_append, List.length_cons, List.length_nil]; omega
      · simp only [if_true]; omega
end
end Mine
end

/-! part Un -/
section
open PySem PySem.W PyProof.Rows PySem.Calls
set_option maxRecDepth 100000
namespace Mine
theorem ti_kind : builtinKind "tuple.__iter__" = some .slot := by kernel_rfl
theorem ti_split : splitId "tuple.__iter__" = some ("tuple", "__iter__") := by decide +kernel
section
variable {b : Bool} {w : World} {A : Around} {E : Value → Shared → Prop} {s : Shared} {R : Result → Shared → Prop} {env : Env}

/-- an object of the class Mismatch -/
def MmAt (h : Heap) (x : Addr) (items : Array Value) : Prop := ∃ d n, h.get? x = some { cls := .ref 150, dict := some d, data := .seq items n }
theorem MmAt.at' {h h' : Heap} {x : Addr} {items : Array Value} (m : MmAt h x items) (k : ∀ o, h.get? x = some o → h'.get? x = some o) : MmAt h' x items := let ⟨d, n, e⟩ := m; ⟨d, n, k _ e⟩
theorem MmAt.type {h : Heap} {x : Addr} {items : Array Value} (m : MmAt h x items) : Looks (model prog w) h (typeOf (.ref x)) (.ref 150) := let ⟨_, _, e⟩ := m; (Looks.ld (part := none) e).andThen .now
theorem MmAt.iter {h : Heap} {x : Addr} {items : Array Value} (m : MmAt h x items) (X : (KF w).In h) : Looks (model prog w) h (specialOf (.ref x) "__iter__") (some (.builtin "tuple.__iter__")) := m.type.andThen (pk12 X)

theorem mm_chk {x : Addr} {items : Array Value} (m : MmAt s.heap x items) (X : (KF w).In s.heap) : ∀ (Q' : Unit → Shared → Prop), Q' () s → wpAny (model prog w) A.in1 (checkBuiltinCall "tuple.__iter__" ⟨[.ref x], []⟩) Q' E s := fun Q' q =>
  @check_slot (model prog w) A.in1 E s "tuple.__iter__" "tuple" "__iter__" (.ref x) [] [] Q' ti_kind ti_split (m.type.andThen (pk4 X)) (F.args_tuple_iter_1 _) q
theorem mm_body {x : Addr} {Q : Value → Shared → Prop} (h : Q (.ref s.heap.objs.size) { s with heap := s.heap.push { cls := .type "tuple_iterator", data := .fields #[.ref x, .int 0 0] } }) :
    wpC false (model prog w) A (Builtin.«tuple.__iter__» ⟨[.ref x], []⟩) (fun fin s' => ∃ v, fin = .done (.ret v) ∧ Q v s') E s := by
  refine wpC_of ?_
  show wpAny _ _ (newFields "tuple_iterator" [.ref x, rawInt 0] >>= fun v => ret v) _ _ s
  exact wpAny_bind (wpAny_newObj_type (wpAny_pure ⟨_, rfl, h⟩))
theorem mm_call_iter {x : Addr} {items : Array Value} {Q : Value → Shared → Prop} (m : MmAt s.heap x items) (X : (KF w).In s.heap)
    (h : Q (.ref s.heap.objs.size) { s with heap := s.heap.push { cls := .type "tuple_iterator", data := .fields #[.ref x, .int 0 0] } }) : wpAny (model prog w) A (call (.builtin "tuple.__iter__") [.ref x]) Q E s := by
  have body := mm_body (w := w) (A := A.in1) (E := E) (x := x) (Q := Q) h
  have key := X_call_builtin (b := false) (id := "tuple.__iter__") (args := [.ref x]) (bt := Builtin.«tuple.__iter__») (Q := Q) F.slot_tuple_iter.plain (fun e => nomatch e) F.entry_tuple_iter (mm_chk m X) body
  exact any_of key

theorem mm_pyIter {x : Addr} {items : Array Value} {Q : Value → Shared → Prop} (m : MmAt s.heap x items) (X : (KF w).In s.heap)
    (h : Q (.ref s.heap.objs.size) { s with heap := s.heap.push { cls := .type "tuple_iterator", data := .fields #[.ref x, .int 0 0] } }) : wpAny (model prog w) A (pyIter (.ref x)) Q E s := by
  unfold pyIter
  refine wpAny_bind ((m.iter X).here ?_)
  dsimp only
  unfold callSpecialIfBoundUnlessNone? bindSpecialIfBound?
  refine wpAny_bind (wpAny_holding (wpAny_bind (wpAny_bind ((m.iter X).here ?_))))
  dsimp only
  rw [F.slot_tuple_iter.bind]
  refine wpAny_bind (wpAny_askSetting (wpAny_ite ?_))
  have fin : ∀ {Q' : Option Value → Shared → Prop} {refuse : Sem Value}, Q' (some (.ref s.heap.objs.size)) { s with heap := s.heap.push { cls := .type "tuple_iterator", data := .fields #[.ref x, .int 0 0] } } →
      wpAny (model prog w) A (if (Value.builtin "tuple.__iter__" == Value.none) = true then (refuse >>= fun v => pure (some v)) else (call (.builtin "tuple.__iter__") [.ref x] >>= fun v => pure (some v))) Q' E s := fun q => by
    rw [if_neg (by simp)]
    exact wpAny_bind (mm_call_iter m X (wpAny_pure q))
  have last : wpAny (model prog w) A (specialOf (.ref s.heap.objs.size) "__next__") (fun r s' => ∃ f, r = some f ∧ Q (.ref s.heap.objs.size) s') E { s with heap := s.heap.push { cls := .type "tuple_iterator", data := .fields #[.ref x, .int 0 0] } } :=
    wpAny_specialOf (T := "tuple_iterator") ⟨_, Heap.get?_push_size _ rfl, rfl⟩ F.slot_tuple_iterator_next.lookup ⟨_, rfl, h⟩
  split
  · refine wpAny_bind (wpAny_pure (wpAny_pure (fin ?_)))
    refine wpAny_bind (wpAny_mono last (fun r s' h' => ?_) fun _ _ e => e)
    obtain ⟨f, rfl, q⟩ := h'
    exact wpAny_pure q
  · refine wpAny_tryCatch (wpAny_bind (wpAny_pure (wpAny_pure (fin ?_))))
    refine wpAny_bind (wpAny_mono last (fun r s' h' => ?_) fun _ _ e => e)
    obtain ⟨f, rfl, q⟩ := h'
    exact wpAny_pure q

/-- an item of a walk over a Mismatch -/
theorem mm_next {it x : Addr} {i : Nat} {items : Array Value} {y : Value} {Q : Option Value → Shared → Prop} (hit : s.heap.IsTupleIter it x i) (m : MmAt s.heap x items) (hy : items[i]? = some y)
    (h : ∀ h', h'.IsTupleIter it x (i + 1) → Heap.SameBut it s.heap h' → Q (some y) { s with heap := h' }) : wpAny (model prog w) A (pyNext (.ref it)) Q E s := by
  obtain ⟨o, ho, hc, hd⟩ := id hit
  obtain ⟨d, n, hx⟩ := m
  have body : wpAny (model prog w) A.in1 (Builtin.«tuple_iterator.__next__» ⟨[.ref it], []⟩) (fun fin s' => ∃ v, fin = .done (.ret v) ∧ Q (some v) s') (fun _ _ => False) s := by
    show wpAny _ _ (field (.ref it) 0 >>= _) _ _ s
    refine wpAny_bind (wpAny_field ho hd (x := .ref x) rfl ?_)
    rw [if_neg (by simp)]
    refine wpAny_bind (wpAny_field ho hd (x := .int i 0) rfl ?_)
    refine wpAny_bind (wpAny_seqItems hx rfl ?_)
    simp only [Int.toNat_natCast, hy]
    refine wpAny_bind (wpAny_setField ho hd (by simp) (wpAny_pure ⟨y, rfl, h _ ?_ (Heap.SameBut.update ..)⟩))
    exact ⟨_, Heap.get?_update_self _ ho (Obj.isFreed_of_fields (Obj.data_mapFields hd _)), (Obj.cls_mapFields ..).trans hc, by rw [Obj.data_mapFields hd]; simp [rawInt]⟩
  unfold pyNext
  refine wpAny_bind (wpAny_attempt (wpAny_callSpecial?_slot (name := Str.ofString "__next__") hit.typeIs F.slot_tuple_iterator_next (wpAny_call_entry F.slot_tuple_iterator_next hit.typeIs F.entry_tuple_iterator_next ?_ (F.args_tuple_iterator_next_1 _))))
  refine wpAny_mono body (fun fin s' h' => ?_) fun e s' h' => ?_
  · obtain ⟨v, rfl, q⟩ := h'
    exact ⟨v, rfl, wpAny_pure q⟩
  · exact h'.elim

/-- the end of a walk over a Mismatch -/
theorem mm_end {it x : Addr} {i : Nat} {items : Array Value} {Q : Option Value → Shared → Prop} (hh : A.handled = none) (hit : s.heap.IsTupleIter it x i) (m : MmAt s.heap x items) (hy : items[i]? = none)
    (h : ∀ h', Heap.ExtBut it s.heap h' → Q none { s with heap := h' }) : wpAny (model prog w) A (pyNext (.ref it)) Q E s := by
  obtain ⟨o, ho, hc, hd⟩ := id hit
  obtain ⟨d, n, hx⟩ := m
  have body : wpAny (model prog w) A.in1 (Builtin.«tuple_iterator.__next__» ⟨[.ref it], []⟩) (fun _ _ => False) (fun e s' => ∃ h', Heap.ExtBut it s.heap h' ∧ s' = { s with heap := h' } ∧ s'.TypeIs e "StopIteration") s := by
    show wpAny _ _ (field (.ref it) 0 >>= _) _ _ s
    refine wpAny_bind (wpAny_field ho hd (x := .ref x) rfl ?_)
    rw [if_neg (by simp)]
    refine wpAny_bind (wpAny_field ho hd (x := .int i 0) rfl ?_)
    refine wpAny_bind (wpAny_seqItems hx rfl ?_)
    simp only [Int.toNat_natCast, hy]
    refine wpAny_bind (wpAny_rule (wpAny_bind (wpAny_setField ho hd (by simp) ?_)))
    show wpAny _ _ (newExc (.type "StopIteration") [] >>= raiseNew) _ _ _
    refine wpAny_bind ?_
    simp only [newExc, newTuple]
    refine wpAny_bind (wpAny_newObj_type ?_ (by size_fits))
    refine wpAny_bind (m := firstArgMember _ _) (wpAny_of_eq (a := Value.none) (by first | rfl | (simp only [firstArgMember]; rfl)) ?_)
    refine wpAny_newObj_type ?_ (by size_fits)
    refine wpAny_raiseNew_none (A := A.in1) hh ?_
    exact ⟨_, (((Heap.SameBut.update ..).extBut.push _).push _), rfl, ⟨_, Heap.get?_push_size _ rfl, rfl⟩⟩
  unfold pyNext
  refine wpAny_bind (wpAny_attempt (wpAny_callSpecial?_slot (name := Str.ofString "__next__") hit.typeIs F.slot_tuple_iterator_next (wpAny_call_entry F.slot_tuple_iterator_next hit.typeIs F.entry_tuple_iterator_next ?_ (F.args_tuple_iterator_next_1 _))))
  refine wpAny_mono body (fun fin s' h' => h'.elim) fun e s' h' => ?_
  obtain ⟨h₁, hx₁, rfl, ht⟩ := h'
  refine wpAny_bind (wpAny_isInstance (T := "StopIteration") (b := true) ht isSubtype_stop ?_)
  exact wpAny_pure (h _ hx₁)

/-- a Mismatch of three items is unpacked -/
theorem mm_unpack {x : Addr} {a1 a2 a3 : Value} {Q : List Value → Shared → Prop} (hh : A.handled = none) (m : MmAt s.heap x #[a1, a2, a3]) (X : (KF w).In s.heap)
    (h : ∀ h', (∀ b o, s.heap.get? b = some o → h'.get? b = some o) → Q [a1, a2, a3] { s with heap := h' }) : wpAny (model prog w) A (unpackItems (.ref x) 3 none) Q E s := by
  have hne : x ≠ s.heap.objs.size := let ⟨_, _, e⟩ := m; Nat.ne_of_lt (Heap.lt_size e)
  unfold unpackItems notIterableAtAll
  refine wpAny_bind (wpAny_bind ((m.iter X).here (wpAny_pure ?_)))
  simp only [Bool.false_eq_true, if_false]
  refine wpAny_bind (wpAny_holding (mm_pyIter m X ?_))
  have kp : ∀ b o, s.heap.get? b = some o → (s.heap.push { cls := .type "tuple_iterator", data := .fields #[.ref x, .int 0 0] }).get? b = some o := fun b o e => Heap.get?_push_of_some _ e
  refine wpAny_bind (wpAny_holding ?_)
  show wpAny _ _ (draw (.ref s.heap.objs.size) (0 + 1 + 1 + 1)) _ _ _
  simp only [draw]
  refine wpAny_bind (mm_next (i := 0) (y := a1) ⟨_, Heap.get?_push_size _ rfl, rfl, rfl⟩ (m.at' fun o e => kp _ _ e) rfl fun h₁ i₁ s₁ => ?_)
  have m₁ : MmAt h₁ x #[a1, a2, a3] := m.at' fun o e => s₁.extBut _ o hne (kp _ _ e)
  refine wpAny_bind (wpAny_holding (wpAny_bind (mm_next (i := 1) (y := a2) i₁ m₁ rfl fun h₂ i₂ s₂ => ?_)))
  have m₂ : MmAt h₂ x #[a1, a2, a3] := m₁.at' fun o e => s₂.extBut _ o hne e
  refine wpAny_bind (wpAny_holding (wpAny_bind (mm_next (i := 2) (y := a3) i₂ m₂ rfl fun h₃ i₃ s₃ => ?_)))
  have m₃ : MmAt h₃ x #[a1, a2, a3] := m₂.at' fun o e => s₃.extBut _ o hne e
  refine wpAny_bind (wpAny_holding (wpAny_pure (wpAny_pure (wpAny_pure (wpAny_pure ?_)))))
  rw [if_neg (by simp)]
  refine wpAny_bind (wpAny_holding (mm_end hh i₃ m₃ rfl fun h₄ e₄ => ?_))
  simp only [Option.isSome_none, Bool.false_eq_true, if_false]
  refine wpAny_pure (h h₄ fun b o e => ?_)
  have hb : b ≠ s.heap.objs.size := Nat.ne_of_lt (Heap.lt_size e)
  exact e₄ b o hb (s₃.extBut b o hb (s₂.extBut b o hb (s₁.extBut b o hb (kp _ _ e))))

/-- three names take the items of a Mismatch -/
theorem mm_assign3 {x y z : Str} {p1 p2 p3 : Pos} {k : Nat} {pos : Pos} {t : Addr} {v1 v2 v3 : Value} {m : Str → Option Value} {Q : Unit → Shared → Prop} (hh : A.handled = none) (X : (KF w).In s.heap) (ht : MmAt s.heap t #[v1, v2, v3]) (hn : s.heap.Ns env.locals m)
    (hx : env.kindOf x = some .local) (hy : env.kindOf y = some .local) (hz : env.kindOf z = some .local)
    (h : ∀ h' tk, h'.Ns env.locals (fun u => if u = z then some v3 else if u = y then some v2 else if u = x then some v1 else m u) → (∀ b o, b ≠ env.locals → s.heap.get? b = some o → h'.get? b = some o) → Q () { s with heap := h', toks := tk })
    (hp : (env.scope.kind == .class || (env.scope.kind == .module && env.locals != env.globals)) = false := by rfl) :
    wpAny (model prog w) A (assign (.Tuple [.Name x p1, .Name y p2, .Name z p3] k pos) env (.ref t)) Q E s := by
  rw [arm_assign_Tuple]
  refine wpAny_bind (wpAny_standAt ?_)
  unfold unpack
  rw [show (assignEach [PySem.Expr.Name x p1, .Name y p2, .Name z p3] env).length = 3 from rfl, show (assignEach [PySem.Expr.Name x p1, .Name y p2, .Name z p3] env).findIdx? (·.1) = none from rfl]
  refine wpAny_bind (wpAny_holding (mm_unpack hh ht X fun h₁ k₁ => ?_))
  refine wpAny_assignInOrder_more ?_
  show wpAny _ _ (assign (.Name x p1) env v1) _ _ _
  refine wpAny_assign_Name (wpAny_storeName_local hx (hn.keeps k₁) (fun h₂ n₂ e₂ => ?_) hp)
  refine wpAny_assignInOrder_more ?_
  show wpAny _ _ (assign (.Name y p2) env v2) _ _ _
  refine wpAny_assign_Name (wpAny_storeName_local hy n₂ (fun h₃ n₃ e₃ => ?_) hp)
  refine wpAny_assignInOrder_more ?_
  show wpAny _ _ (assign (.Name z p3) env v3) _ _ _
  refine wpAny_assign_Name (wpAny_storeName_local hz n₃ (fun h₄ n₄ e₄ => ?_) hp)
  exact wpAny_assignInOrder_none (h h₄ _ n₄ fun b o q e => e₄.extBut b o q (e₃.extBut b o q (e₂.extBut b o q (k₁ _ _ e))))
end
end Mine
end

/-! part Cp -/
section
open PySem PySem.W PyProof.Rows PySem.Calls PySem.SeqAt
set_option maxRecDepth 100000
namespace Mine
theorem nameOf_ok (k f : Nat) : PyData.strOk (nameOf k f) = true := by
  unfold nameOf
  split <;> decide +kernel
def rowD (r : Row) : PyData := .tuple [.int r.1, .int r.2.1, .str r.2.2]
def strD (z : Str) : PyData := .str z
theorem rowD_of {h : Heap} {v : Value} {r : Row} (x : rowP r h v) : RdP (rowD r) h v := by
  obtain ⟨a, items, rfl, ⟨o, ho, hc, n, hd⟩, ha⟩ := x
  generalize e : items.toList = l at ha
  cases ha with
  | cons p1 q1 =>
  cases q1 with
  | cons p2 q2 =>
  cases q2 with
  | cons p3 q3 =>
  cases q3
  obtain ⟨as1, r1⟩ := p1
  obtain ⟨as2, r2⟩ := p2
  obtain ⟨as3, r3⟩ := p3
  exact ⟨_, .tuple ho hc hd (by rw [e]; exact .cons r1 (.cons r2 (.cons r3 .nil)))⟩
theorem reads_map {h : Heap} {α : Type} {D : α → PyData} {P : α → HP} (hP : ∀ x v, P x h v → RdP (D x) h v) : ∀ {xs : List α} {vs : List Value}, All2 h (xs.map P) vs → ∃ as, ReadsAll h vs (xs.map D) as
  | [], _, .nil => ⟨_, .nil⟩
  | x :: xs, _ :: _, .cons p q => by
    obtain ⟨as, r⟩ := hP x _ p
    obtain ⟨bs, rs⟩ := reads_map hP q
    exact ⟨_, .cons r rs⟩
theorem lay_all {α : Type} {D : α → PyData} (hD : ∀ x, (D x).canLay0 = true) : ∀ xs : List α, PyData.canLayAll0 (xs.map D) = true
  | [] => rfl
  | x :: xs => by rw [List.map_cons]; unfold PyData.canLayAll0; rw [hD x, lay_all hD xs]; rfl
theorem depth_all {α : Type} {D : α → PyData} (hD : ∀ x, (D x).depth ≤ 9) : ∀ xs : List α, PyData.depthAll (xs.map D) ≤ 9
  | [] => by simp [PyData.depthAll]
  | x :: xs => by
    rw [List.map_cons]; unfold PyData.depthAll
    have h1 := hD x
    have h2 := depth_all hD xs
    omega
theorem lay_row (x : Row) (h : PyData.strOk x.2.2 = true) : (rowD x).canLay0 = true := by
  unfold rowD
  simp [PyData.canLay0, PyData.canLayAll0, h]
theorem depth_row (x : Row) : (rowD x).depth ≤ 9 := by
  unfold rowD
  simp [PyData.depth, PyData.depthAll]
section
variable {b : Bool} {w : World} {A : Around} {E : Value → Shared → Prop} {s : Shared} {R : Result → Shared → Prop} {env : Env}
theorem eq_lists {α : Type} {D : α → PyData} {P : α → HP} {a c : Addr} {xs ys : List Value} {n n' : Nat} {l : List α} {Q : Value → Shared → Prop} (hP : ∀ x v, P x s.heap v → RdP (D x) s.heap v) (hD : (PyData.list (l.map D)).canLay0 = true) (hdep : ∀ x, (D x).depth ≤ 9)
    (ha : s.heap.get? a = some (lst xs n)) (hc : s.heap.get? c = some (lst ys n')) (hx : All2 s.heap (l.map P) xs) (hy : All2 s.heap (l.map P) ys) (hu : A.units + 64 < cLine) (h : Q (.bool true) s) : wpAny (model prog w) A (compareOp .Eq (.ref a) (.ref c)) Q E s := by
  obtain ⟨as, r1⟩ := reads_map hP hx
  obtain ⟨bs, r2⟩ := reads_map hP hy
  have sh : shaped (.list (l.map D)) = true := by
    unfold shaped
    rw [hD, Bool.true_and, decide_eq_true_eq]
    have := depth_all hdep l
    show PyData.depthAll (l.map D) + 1 ≤ 64
    omega
  refine compareEq_shaped (da := .list (l.map D)) (db := .list (l.map D)) (.list ha rfl rfl r1) (.list hc rfl rfl r2) sh sh hu ?_
  rw [eqv_refl _ hD]; exact h
theorem ne_lists {α : Type} {D : α → PyData} {P : α → HP} {a c : Addr} {xs ys : List Value} {n n' : Nat} {l : List α} {Q : Value → Shared → Prop} (hP : ∀ x v, P x s.heap v → RdP (D x) s.heap v) (hD : (PyData.list (l.map D)).canLay0 = true) (hdep : ∀ x, (D x).depth ≤ 9)
    (ha : s.heap.get? a = some (lst xs n)) (hc : s.heap.get? c = some (lst ys n')) (hx : All2 s.heap (l.map P) xs) (hy : All2 s.heap (l.map P) ys) (hu : A.units + 64 < cLine) (h : Q (.bool false) s) : wpAny (model prog w) A (compareOp .NotEq (.ref a) (.ref c)) Q E s := by
  obtain ⟨as, r1⟩ := reads_map hP hx
  obtain ⟨bs, r2⟩ := reads_map hP hy
  have sh : shaped (.list (l.map D)) = true := by
    unfold shaped
    rw [hD, Bool.true_and, decide_eq_true_eq]
    have := depth_all hdep l
    show PyData.depthAll (l.map D) + 1 ≤ 64
    omega
  refine compareNe_shaped (da := .list (l.map D)) (db := .list (l.map D)) (.list ha rfl rfl r1) (.list hc rfl rfl r2) sh sh hu ?_
  rw [eqv_refl _ hD]; exact h
end
end Mine
end

/-! part C1 -/
section
open PySem PySem.W PyProof.Rows PySem.Calls
set_option maxRecDepth 100000
namespace Mine
section
variable {b : Bool} {w : World} {A : Around} {E : Value → Shared → Prop} {s : Shared} {R : Result → Shared → Prop} {env : Env}
theorem own_things (w : World) : nsIn (KF w) mainGlobals "_law_things" = some (some (.ref 179)) := rfl
theorem own_cda (w : World) : nsIn (KF w) mainGlobals "_count_diff_all_purpose" = some (some (.ref 160)) := rfl
theorem own_rows (w : World) : nsIn (KF w) mainGlobals "_law_rows" = some (some (.ref 196)) := rfl

theorem all2_conv {h h' : Heap} {Ps : List HP} {vs : List Value} (c : ∀ P ∈ Ps, ∀ v, P h v → P h' v) (x : All2 h Ps vs) : All2 h' Ps vs := by
  induction x with
  | nil => exact .nil
  | cons p _ ih => exact .cons (c _ (List.mem_cons_self ..) _ p) (ih fun P hP => c P (List.mem_cons_of_mem _ hP))
def toRow (r : CRow) : Row := (r.1, r.2.1, nameOf r.2.2.1 r.2.2.2)
theorem rows_fold (c1 c2 : Nat → Nat) : ∀ (l : List Pr) (st : List CRow × List Nat), (l.foldl (rowStep c1 c2) (st.1.map toRow, st.2)) = ((l.foldl (cdaStep c1 c2) st).1.map toRow, (l.foldl (cdaStep c1 c2) st).2)
  | [], _ => rfl
  | x :: l, st => by
    rw [List.foldl_cons, List.foldl_cons, ← rows_fold c1 c2 l]
    congr 1
    unfold rowStep cdaStep
    dsimp only
    cases st.2.contains x.1 with
    | true => rfl
    | false =>
      simp only [Bool.false_eq_true, if_false]
      cases c1 x.1 != c2 x.1 with
      | true => simp only [if_true, List.map_append, List.map_cons, List.map_nil]; rfl
      | false => rfl
theorem rows_are (got want : List Pr) : rowsOf got want = (cdaOf got want).map toRow := by
  unfold rowsOf cdaOf
  have := rows_fold (cnt got) (cnt want) (got ++ want) ([], [])
  rw [List.map_nil] at this
  rw [this]

theorem cda_fold_len (c1 c2 : Nat → Nat) : ∀ (l : List Pr) (st : List CRow × List Nat), (l.foldl (cdaStep c1 c2) st).1.length ≤ st.1.length + l.length
  | [], _ => Nat.le_refl _
  | x :: l, st => by
    rw [List.foldl_cons]
    have h1 := cda_fold_len c1 c2 l (cdaStep c1 c2 st x)
    have h2 : (cdaStep c1 c2 st x).1.length ≤ st.1.length + 1 := by
      unfold cdaStep
      split
      · omega
      · dsimp only
        split
        · simp
        · omega
    rw [List.length_cons]; omega
theorem cda_len (got want : List Pr) : (cdaOf got want).length ≤ got.length + want.length := by
  have := cda_fold_len (cnt got) (cnt want) (got ++ want) ([], [])
  rw [List.length_append] at this
  simp only [List.length_nil, Nat.zero_add] at this
  exact this
theorem selP_allG {α : Type} (F : α → HP) : ∀ (ps : List α) (n : Nat), n ≤ ps.length → selP (fun i => (ps[i]?).map F) n = (ps.take n).map F
  | ps, 0, _ => by simp [selP]
  | ps, n + 1, h => by
    rw [selP_succ, selP_allG F ps n (by omega), List.take_succ, List.map_append]
    have hx : ps[n]? = some ps[n] := List.getElem?_eq_getElem (by omega)
    rw [hx]; rfl

theorem lay_rows {l : List Row} (h : ∀ r ∈ l, PyData.strOk r.2.2 = true) : (PyData.list (l.map rowD)).canLay0 = true := by
  show PyData.canLayAll0 (l.map rowD) = true
  induction l with
  | nil => rfl
  | cons x l ih =>
    rw [List.map_cons]; unfold PyData.canLayAll0
    rw [lay_row x (h x (List.mem_cons_self ..)), ih fun r hr => h r (List.mem_cons_of_mem _ hr)]; rfl

theorem counts_spec (G : Gd w s.heap) (hh : A.handled = none) (hg : A.guards = some []) (hr : A.depth + 4 < recursionLimit) (hu : A.units + 150 < cLine) {gv wv : Value} {got want : List Pr} (hgp : prsP got s.heap gv) (hwp : prsP want s.heap wv)
    (hgl : got.length ≤ 100) (hwl : want.length ≤ 100) (hgo : PairsOk got) (hwo : PairsOk want)
    (h : ∀ h' tk, Keeps s.heap h' → R (.ok (.ret (.bool true))) { s with heap := h', toks := tk }) :
    codeC true (model prog w) A (.call (.ref 201) ⟨[gv, wv], []⟩) R s := by
  refine code_fn (binds := [("got", gv), ("want", wv)]) G (fn_counts w) rfl (by omega) (fun _ _ => BindsTo.of_eq (by rfl)) ?_ ?_
  · intro x hx
    simp only [List.mem_cons, List.not_mem_nil, or_false] at hx
    rcases hx with rfl | rfl <;> rfl
  intro h₁ hns hk
  have G₁ := G.keeps hk
  have hL : s.heap.get? s.heap.objs.size = none := none_size fun _ _ e => e
  obtain ⟨o1, f1, ho1, hf1⟩ := ob_of (fn_cda w)
  obtain ⟨o2, f2, ho2, hf2⟩ := ob_of (fn_things w)
  refine wpC_execs_cons ?_
  refine X_Assign_Name ?_
  refine X_Call_own (f := 160) (of := o1) (fd := f1) ?_ ?_ hf1
  · intro Q' q
    exact nm_own G₁ (own_cda w) q
  refine X_items_cons ?_
  refine X_Call_own (f := 179) (of := o2) (fd := f2) ?_ ?_ hf2
  · intro Q' q
    exact nm_own G₁ (own_things w) q
  refine X_items_cons ?_
  refine wpC_of (nm_loc hns rfl ?_ rfl rfl)
  refine X_items_nil ?_
  refine ⟨hk _ _ (G.K _ _ ho2), ?_⟩
  refine things_spec (ps := got) ?_ ?_ ?_ ?_ ?_ ?_ s.heap ?_ ?_
  · exact G₁
  · exact hh
  · show A.depth + 1 + 1 < recursionLimit; omega
  · exact mono_prs got _ _ _ hk hgp
  · omega
  · exact hgo
  · exact hk
  intro h₂ tk₂ ga gi n₂ B₂ hga hgA kB₂ kG₂ k₂ _ _ hg1
  dsimp only
  have G₂ := G₁.keeps k₂
  refine X_items_cons ?_
  refine X_Call_own (f := 179) (of := o2) (fd := f2) ?_ ?_ hf2
  · intro Q' q
    exact nm_own G₂ (own_things w) q
  refine X_items_cons ?_
  refine wpC_of (nm_loc (hns.keeps k₂) rfl ?_ rfl rfl)
  refine X_items_nil ?_
  refine ⟨k₂ _ _ (hk _ _ (G.K _ _ ho2)), ?_⟩
  refine things_spec (ps := want) ?_ ?_ ?_ ?_ ?_ ?_ s.heap ?_ ?_
  · exact G₂
  · exact hh
  · show A.depth + 1 + 1 < recursionLimit; omega
  · exact mono_prs want _ _ _ (fun b o e => k₂ _ _ (hk _ _ e)) hwp
  · omega
  · exact hwo
  · exact fun b o e => k₂ _ _ (hk _ _ e)
  intro h₃ tk₃ wa wi n₃ B₃ hwa hwA kB₃ kG₃ k₃ _ _ hg2
  dsimp only
  have G₃ := G₂.keeps k₃
  refine X_items_nil ?_
  refine ⟨k₃ _ _ (k₂ _ _ (hk _ _ (G.K _ _ ho1))), ?_⟩
  obtain ⟨oL, _, _, hoL, _⟩ := id hns
  have hB₂L : B₂.get? s.heap.objs.size = none := hg1 _ (by rw [hoL]; simp) hL
  have hB₃L : B₃.get? s.heap.objs.size = none := hg2 _ (by rw [k₂ _ _ hoL]; simp) hL
  have kX₂ : Keeps B₂ (hideAll h₃ [s.heap.objs.size]) := fun b o e => hideAll_get _ (k₃ _ _ (kG₂ _ _ e)) (by simp only [List.mem_singleton]; rintro rfl; rw [hB₂L] at e; cases e)
  have kX₃ : Keeps B₃ (hideAll h₃ [s.heap.objs.size]) := fun b o e => hideAll_get _ (kG₃ _ _ e) (by simp only [List.mem_singleton]; rintro rfl; rw [hB₃L] at e; cases e)
  refine cda_spec (got := got) (want := want) (gi := gi) (wi := wi) (C := hideAll h₃ [s.heap.objs.size]) ?_ ?_ ?_ ?_ ?_ ?_ ?_ ?_ ?_ ?_ ?_ ?_
  · exact G₃
  · exact hh
  · show A.depth + 1 + 2 < recursionLimit; omega
  · show A.units + 3 + 110 < cLine; omega
  · exact ⟨_, k₃ _ _ hga, rfl, _, rfl⟩
  · exact ⟨_, hwa, rfl, _, rfl⟩
  · exact fun b o e => of_hideAll _ e
  · exact keep_things kX₂ hgA
  · exact keep_things kX₃ hwA
  · exact hgl
  · exact hwl
  intro h₄ tk₄ ra ys n₄ hra hran hys k₄
  dsimp only
  have k₁₄ : Keeps h₁ h₄ := fun b o e => k₄ _ _ (k₃ _ _ (k₂ _ _ e))
  refine wpAny_storeName_local rfl (hns.keeps k₁₄) fun h₅ hns₅ sb₅ => ?_
  have k₀₅ : Keeps s.heap h₅ := fun b o e => sb₅.extBut b o (fun q => by rw [show b = s.heap.objs.size from q, hL] at e; cases e) (k₁₄ _ _ (hk _ _ e))
  have G₅ := G.keeps k₀₅
  have hoL₃ : h₃.get? s.heap.objs.size = some oL := k₃ _ _ (k₂ _ _ hoL)
  have neL : ∀ {a : Addr}, h₃.get? a = none → a ≠ s.heap.objs.size := fun e q => by rw [q, hoL₃] at e; cases e
  have hra₅ : h₅.get? ra = some (lst ys n₄) := sb₅.extBut _ _ (neL hran) hra
  have kX₅ : Keeps (hideAll h₃ [s.heap.objs.size]) h₅ := fun b o e => sb₅.extBut b o (fun q => by rw [show b = s.heap.objs.size from q, hideAll_none _ (by simp)] at e; cases e) (k₄ _ _ (of_hideAll _ e))
  have hys₅ : All2 h₅ ((cdaOf got want).map (mmP w (hideAll h₃ [s.heap.objs.size]) h₃)) ys := all2_conv ?_ hys
  rotate_left
  · intro P hP v hv
    obtain ⟨r, _, rfl⟩ := List.mem_map.mp hP
    obtain ⟨x, d, e, t1, t2, rfl, hx, hn, ht⟩ := hv
    exact ⟨x, d, e, t1, t2, rfl, sb₅.extBut _ _ (neL hn) hx, hn, ht⟩
  dsimp only
  refine wpC_execs_cons ?_
  refine X_Return ?_
  refine X_Compare1 ?_
  have hlen : ys.length = (cdaOf got want).length := by have := all2_len hys₅; simpa using this.symm
  refine X_comp_list (sel := fun i => ((cdaOf got want)[i]?).map fun r => rowP (toRow r)) (by decide) hh rfl (by decide) rfl (by decide) ?_ ?_
  · intro i P hP
    obtain ⟨x, _, rfl⟩ := Option.map_eq_some_iff.mp hP
    exact mono_row _
  refine wpC_of (nm_loc hns₅ rfl ?_ rfl)
  refine ⟨ra, ys.toArray, h₅, rfl, ⟨_, hra₅, rfl, _, rfl⟩, ?_, fun _ _ e => e, ?_, ?_⟩
  · rw [sizeLine_eq, List.size_toArray, hlen]; have := cda_len got want; omega
  · intro i v C h₆ tk₆ m hi k₆ hn hC
    dsimp only
    obtain ⟨P, hP, hv⟩ := all2_get' hys₅ (by simpa using hi)
    rw [List.getElem?_map] at hP
    obtain ⟨r, hx, rfl⟩ := Option.map_eq_some_iff.mp hP
    obtain ⟨x, d, e, t1, t2, rfl, hox, hxn, hth⟩ := hv
    have hCn : h₅.get? C = none := by
      cases e : h₅.get? C with
      | none => rfl
      | some o => exact absurd (Heap.lt_size e) (Nat.not_lt.mpr (Nat.le_of_lt hC))
    refine wpC_of ?_
    refine mm_assign3 hh (G₅.keeps k₆).K ⟨d, _, k₆ _ _ hox⟩ hn rfl rfl rfl (fun h₇ tk₇ hn₇ k₇ => ?_)
    have k₅₇ : Keeps h₅ h₇ := fun b o e => k₇ b o (fun q => by rw [show b = C from q, hCn] at e; cases e) (k₆ _ _ e)
    refine X_Tuple ?_
    refine X_items_cons ?_
    refine wpC_of (nm_loc hn₇ rfl ?_ rfl rfl)
    refine X_items_cons ?_
    refine wpC_of (nm_loc hn₇ rfl ?_ rfl rfl)
    refine X_items_cons ?_
    obtain ⟨of, fd, hof, hfd⟩ := ob_of (fn_repr w)
    refine X_Call_own (f := 72) (of := of) (fd := fd) ?_ ?_ hfd
    · intro Q' q
      exact nm_own (G₅.keeps k₅₇) (own_repr w) q
    refine X_items_cons ?_
    refine wpC_of (nm_loc hn₇ rfl ?_ rfl rfl)
    refine X_items_nil ?_
    refine ⟨k₅₇ _ _ (G₅.K _ _ hof), ?_⟩
    refine repr_spec (k := r.2.2.1) (f := r.2.2.2) ?_ ?_ ?_ ?_ ?_ ?_
    · exact G₅.keeps k₅₇
    · exact hg
    · show A.depth + 1 < recursionLimit; omega
    · show A.units + 3 + 120 < cLine; omega
    · exact hth.keeps fun b o e => k₅₇ _ _ (kX₅ _ _ e)
    intro h₈ tk₈ u k₈
    dsimp only
    refine X_items_nil ?_
    refine ⟨by show (3 : Nat) ≤ sizeLine; rw [sizeLine_eq]; omega, ?_⟩
    have p : Keeps h₈ (h₈.push { cls := .type "tuple", data := .seq [Value.int r.1 t1, .int r.2.1 t2, .str (nameOf r.2.2.1 r.2.2.2) u].toArray }) := fun b o e => Heap.get?_push_of_some _ e
    have k₆₈ : ∀ b o, b ≠ C → h₆.get? b = some o → h₈.get? b = some o := fun b o q e => k₈ _ _ (k₇ b o q e)
    refine ⟨⟨_, _, rfl⟩, fun b o q e => p _ _ (k₆₈ b o q e), ⟨_, hn₇.keeps fun b o e => p _ _ (k₈ _ _ e)⟩, ?_⟩
    have hsel : ((cdaOf got want)[i]?).map (fun r => rowP (toRow r)) = some (rowP (toRow r)) := by rw [hx]; rfl
    rw [hsel]
    refine ⟨ext h₅ h₆ (h₈.push { cls := .type "tuple", data := .seq [Value.int r.1 t1, .int r.2.1 t2, .str (nameOf r.2.2.1 r.2.2.2) u].toArray }), fun _ _ e => of_ext e, fun a q1 q2 => ext_none q1 q2, ?_⟩
    have hT : h₆.get? h₈.objs.size = none := by
      cases e : h₆.get? h₈.objs.size with
      | none => rfl
      | some o =>
        by_cases q : h₈.objs.size = C
        · obtain ⟨oC, _, _, hoC, _⟩ := hn₇
          exact absurd (Heap.lt_size (k₈ _ _ hoC)) (by rw [q]; exact Nat.lt_irrefl _)
        · exact absurd (Heap.lt_size (k₆₈ _ _ q e)) (Nat.lt_irrefl _)
    exact ⟨_, _, rfl, ⟨_, ext_get (Heap.get?_push_size _ rfl) (.inl hT), rfl, _, rfl⟩, .cons ⟨_, .int _ _⟩ (.cons ⟨_, .int _ _⟩ (.cons ⟨_, .str _ _⟩ .nil))⟩
  · intro h₆ tk₆ a zs n₆ G₆ ha₆ hG₆ k0 k1 k₆ hn₆ hG1 hG2
    dsimp only
    rw [List.size_toArray, hlen, selP_allG (fun r => rowP (toRow r)) _ _ (Nat.le_refl _), List.take_length] at hG₆
    have eR : (cdaOf got want).map (fun r => rowP (toRow r)) = (rowsOf got want).map rowP := by rw [rows_are, List.map_map]; rfl
    rw [eR] at hG₆
    have G₆' := G₅.keeps k₆
    obtain ⟨o3, f3, ho3, hf3⟩ := ob_of (fn_rows w)
    refine X_Call_own (f := 196) (of := o3) (fd := f3) ?_ ?_ hf3
    · intro Q' q
      exact nm_own G₆' (own_rows w) q
    refine X_items_cons ?_
    refine wpC_of (nm_loc (hns₅.keeps k₆) rfl ?_ rfl rfl)
    refine X_items_cons ?_
    refine wpC_of (nm_loc (hns₅.keeps k₆) rfl ?_ rfl rfl)
    refine X_items_nil ?_
    refine ⟨G₆'.K _ _ ho3, ?_⟩
    have k₀₆ : Keeps s.heap h₆ := fun b o e => k₆ _ _ (k₀₅ _ _ e)
    refine rows_spec (got := got) (want := want) ?_ ?_ ?_ ?_ ?_ ?_ ?_ ?_ ?_ ?_ ?_
    · exact G₆'
    · exact hh
    · show A.depth + 1 + 1 < recursionLimit; omega
    · show A.units + 3 + 110 < cLine; omega
    · exact mono_prs got _ _ _ k₀₆ hgp
    · exact mono_prs want _ _ _ k₀₆ hwp
    · exact hgl
    · exact hwl
    · exact hgo
    · exact hwo
    intro h₇ tk₇ c us n₇ hc₇ hus k₇
    dsimp only
    refine eq_lists (l := rowsOf got want) (P := rowP) (D := rowD) (fun x v => rowD_of) (lay_rows fun r hr => ?_) depth_row (k₇ _ _ ha₆) hc₇ ?_ hus (by show A.units + 3 + 64 < cLine; omega) ?_
    · rw [rows_are] at hr
      obtain ⟨x, _, rfl⟩ := List.mem_map.mp hr
      exact nameOf_ok _ _
    · exact all2_keeps (fun P hP => by obtain ⟨x, _, rfl⟩ := List.mem_map.mp hP; exact mono_row x) (fun b o e => k₇ _ _ (k1 _ _ e)) hG₆
    · exact h h₇ tk₇ fun b o e => k₇ _ _ (k₀₆ _ _ e)
end
end Mine
end

/-! part Eqc -/
section
open PySem PySem.W PyProof.Rows PySem.Calls
set_option maxRecDepth 100000
namespace Mine
section
variable {b : Bool} {w : World} {A : Around} {E : Value → Shared → Prop} {s : Shared} {R : Result → Shared → Prop} {env : Env}

/-- `_law_equals(e, kind)` -/
theorem equals_call {e : PySem.Expr} {np p2 pos : Pos} {ps : List Pr} {k : Nat} {tk0 : Tok} {m : Str → Option Value} {Q : Value → Shared → Prop} (G : Gd w s.heap) (hh : A.handled = none) (hr : A.depth < recursionLimit) (hu : A.units + 100 < cLine) (hps : ps.length ≤ 200)
    (hn : s.heap.Ns env.locals m) (mk : m "kind" = some (.int (k : Int) tk0))
    (he : ∀ Q' : Value → Shared → Prop, (∀ h₁ tk v, Keeps s.heap h₁ → prsP ps h₁ v → Q' v { s with heap := h₁, toks := tk }) → wpAny (model prog w) A (eval e env) Q' E s)
    (h : ∀ h' tk t, Keeps s.heap h' → Q (.int (cnt ps k : Int) t) { s with heap := h', toks := tk })
    (hk : env.scope.kind = .function) (kk : env.kindOf "kind" = some .local) (ke : env.kindOf "_law_equals" = some .globalImplicit) (hg : env.globals = mainGlobals)
    (h1 : starEach [e, .Name "kind" p2] env = (false, eval e env) :: starEach [.Name "kind" p2] env := by rfl) (hp : (backTo pos (starEach [.Name "kind" p2] env)).any (·.1) = false := by rfl) :
    wpC b (model prog w) A (eval (.Call (.Name "_law_equals" np) [e, .Name "kind" p2] [] pos) env) Q E s := by
  obtain ⟨oe, fe, hoe, hfe⟩ := ob_of (fn_equals w)
  refine X_Call_own (f := 189) (of := oe) (fd := fe) ?_ ?_ hfe h1 hp
  · intro Q' q
    exact nm_own G (own_equals w) q hk ke hg
  refine X_items_cons ?_ h1
  refine wpC_of (he _ fun h₁ tk₁ v k₁ pv => ?_)
  refine X_items_cons ?_
  refine wpC_of (nm_loc (hn.keeps k₁) mk ?_ hk kk)
  refine X_items_nil ?_
  refine ⟨k₁ _ _ (G.K _ _ hoe), ?_⟩
  refine equals_spec (s := { s with heap := h₁, toks := tk₁ }) (ps := ps) (k := k) (G.keeps k₁) hh hr hu pv hps ?_
  intro h₂ tk₂ t k₂
  exact h h₂ tk₂ t fun b o q => k₂ _ _ (k₁ _ _ q)

/-- `X[place + 1:]` -/
theorem slice_drop {X : Str} {q1 q2 q3 q4 q5 q6 : Pos} {ps : List Pr} {i : Nat} {ti : Tok} {l : Addr} {items : Array Value} {m : Str → Option Value} (hn : s.heap.Ns env.locals m) (mX : m X = some (.ref l)) (mp : m "place" = some (.int (i : Int) ti))
    (hl : s.heap.IsList l items) (ha : All2 s.heap (ps.map prP) items.toList) (hz : ps.length ≤ 200)
    (hk : env.scope.kind = .function) (kX : env.kindOf X = some .local) (kp : env.kindOf "place" = some .local) (dX : (X == ("__debug__" : Str)) = false := by decide) :
    ∀ Q' : Value → Shared → Prop, (∀ h₁ tk v, Keeps s.heap h₁ → prsP (ps.drop (i + 1)) h₁ v → Q' v { s with heap := h₁, toks := tk }) → wpAny (model prog w) A (eval (.Subscript (.Name X q1) (.Slice (some (.BinOp (.Name "place" q2) .Add (.Constant (.int 1) 0 q3) q4)) none none q5) q6) env) Q' E s := by
  intro Q' q
  have hlen : items.size = ps.length := by have := all2_len ha; simpa using this.symm
  refine wpAny_Subscript_Slice (T := "list") list_getitem_lookup ?_
  refine nm_loc hn mX ?_ hk kX dX
  refine wpAny_Slice ?_
  rw [evalPart_some]
  refine wpAny_BinOp ?_
  refine nm_loc hn mp ?_ hk kp
  refine wpAny_Constant_int ?_
  refine add_int ?_
  rw [evalPart_none]
  refine wpAny_pure (wpAny_pure ?_)
  dsimp only
  have p1 : ∀ (H : Heap) (o : Obj), Keeps H (H.push o) := fun H o b x e => Heap.get?_push_of_some _ e
  have e : ((i : Int) + 1) = ((i + 1 : Nat) : Int) := by omega
  rw [e]
  refine ⟨(isL_keeps hl (p1 _ _)).typeIs, wpAny_getItem_list_slice (isL_keeps hl (p1 _ _)) (Heap.IsSliceOf.new ..) (.int _ _) .none .none (by decide) ?_ (by rw [sizeLine_eq]; omega)⟩
  refine q _ _ _ (fun b o e => p1 _ _ _ _ (p1 _ _ _ _ e)) ⟨_, _, rfl, ⟨_, Heap.get?_push_size _ rfl, rfl, _, rfl⟩, ?_⟩
  rw [slicePick_from', List.map_drop]
  exact all2_keeps (fun P hP => by
    obtain ⟨x, _, rfl⟩ := List.mem_map.mp (List.mem_of_mem_drop hP)
    exact mono_pr x) (fun b o e => p1 _ _ _ _ (p1 _ _ _ _ e)) (all2_drop (i + 1) ha)
/-- `X[:place]` -/
theorem slice_take {X : Str} {q1 q2 q5 q6 : Pos} {ps : List Pr} {i : Nat} {ti : Tok} {l : Addr} {items : Array Value} {m : Str → Option Value} (hn : s.heap.Ns env.locals m) (mX : m X = some (.ref l)) (mp : m "place" = some (.int (i : Int) ti))
    (hl : s.heap.IsList l items) (ha : All2 s.heap (ps.map prP) items.toList) (hz : ps.length ≤ 200)
    (hk : env.scope.kind = .function) (kX : env.kindOf X = some .local) (kp : env.kindOf "place" = some .local) (dX : (X == ("__debug__" : Str)) = false := by decide) :
    ∀ Q' : Value → Shared → Prop, (∀ h₁ tk v, Keeps s.heap h₁ → prsP (ps.take i) h₁ v → Q' v { s with heap := h₁, toks := tk }) → wpAny (model prog w) A (eval (.Subscript (.Name X q1) (.Slice none (some (.Name "place" q2)) none q5) q6) env) Q' E s := by
  intro Q' q
  have hlen : items.size = ps.length := by have := all2_len ha; simpa using this.symm
  refine wpAny_Subscript_Slice (T := "list") list_getitem_lookup ?_
  refine nm_loc hn mX ?_ hk kX dX
  refine wpAny_Slice ?_
  rw [evalPart_none]
  refine wpAny_pure ?_
  rw [evalPart_some]
  refine nm_loc hn mp ?_ hk kp
  refine wpAny_pure ?_
  have p1 : ∀ (H : Heap) (o : Obj), Keeps H (H.push o) := fun H o b x e => Heap.get?_push_of_some _ e
  refine ⟨(isL_keeps hl (p1 _ _)).typeIs, wpAny_getItem_list_slice (isL_keeps hl (p1 _ _)) (Heap.IsSliceOf.new ..) .none (.int _ _) .none (by decide) ?_ (by rw [sizeLine_eq]; omega)⟩
  refine q _ _ _ (fun b o e => p1 _ _ _ _ (p1 _ _ _ _ e)) ⟨_, _, rfl, ⟨_, Heap.get?_push_size _ rfl, rfl, _, rfl⟩, ?_⟩
  rw [slicePick_upto', List.map_take]
  exact all2_keeps (fun P hP => by
    obtain ⟨x, _, rfl⟩ := List.mem_map.mp (List.mem_of_mem_take hP)
    exact mono_pr x) (fun b o e => p1 _ _ _ _ (p1 _ _ _ _ e)) (all2_take i ha)
/-- `X` -/
theorem whole_list {X : Str} {q1 : Pos} {ps : List Pr} {v : Value} {m : Str → Option Value} (hn : s.heap.Ns env.locals m) (mX : m X = some v) (hv : prsP ps s.heap v)
    (hk : env.scope.kind = .function) (kX : env.kindOf X = some .local) (dX : (X == ("__debug__" : Str)) = false := by decide) :
    ∀ Q' : Value → Shared → Prop, (∀ h₁ tk v, Keeps s.heap h₁ → prsP ps h₁ v → Q' v { s with heap := h₁, toks := tk }) → wpAny (model prog w) A (eval (.Name X q1) env) Q' E s := fun Q' q =>
  nm_loc hn mX (q s.heap s.toks v (fun _ _ e => e) hv) hk kX dX

/-- `if e1 op e2: X.append(names[kind][face])` -/
theorem keep_turn {e1 e2 : PySem.Expr} {op : CmpOp} {X : Str} {q1 q2 q3 q4 q5 q6 q7 q8 q9 q10 q11 : Pos} {Q : Flow → Shared → Prop} {B : Heap} {m : Str → Option Value} {l₁ l₂ : List (Addr × Obj)} {xA : Addr} {vl : List Value} {nl c1 c2 k f : Nat} {c : Bool} {tk0 tf : Tok} {nv : Value}
    (S : Fm w B env.locals m (l₁ ++ (xA, lst vl nl) :: l₂) [] s.heap) (mX : m X = some (.ref xA)) (mk : m "kind" = some (.int (k : Int) tk0)) (mf : m "face" = some (.int (f : Int) tf)) (mn : m "names" = some nv) (hnv : TupP [nmP 0, nmP 1, nmP 2, nmP 3, nmP 4, nmP 5, nmP 6, nmP 7] B nv)
    (hk8 : k < 8) (hf2 : f < 2) (hz : vl.length ≤ 1000)
    (h1 : ∀ Q' : Value → Shared → Prop, (∀ h' tk t, Keeps s.heap h' → Q' (.int (c1 : Int) t) { s with heap := h', toks := tk }) → wpC b (model prog w) A (eval e1 env) Q' E s)
    (h2 : ∀ h₁ tk₁, Keeps s.heap h₁ → ∀ Q' : Value → Shared → Prop, (∀ h' tk t, Keeps h₁ h' → Q' (.int (c2 : Int) t) { s with heap := h', toks := tk }) → wpC b (model prog w) A (eval e2 env) Q' E { s with heap := h₁, toks := tk₁ })
    (hop : ∀ (t1 t2 : Tok) (s' : Shared) (Q' : Value → Shared → Prop), Q' (.bool c) s' → wpAny (model prog w) A (compareOp op (.int (c1 : Int) t1) (.int (c2 : Int) t2)) Q' E s')
    (h : ∀ h' tk vl' nl', (∃ t, vl' = if c then vl ++ [.str (nameOf k f) t] else vl) → Fm w B env.locals m (l₁ ++ (xA, lst vl' nl') :: l₂) [] h' → Q .next { s with heap := h', toks := tk })
    (hk : env.scope.kind = .function) (kX : env.kindOf X = some .local) (kk : env.kindOf "kind" = some .local) (kf : env.kindOf "face" = some .local) (kn : env.kindOf "names" = some .local)
    (hm : behindInMarks op e2 = false) (dX : (X == ("__debug__" : Str)) = false := by decide)
    (hi : interactive env = false := by rfl) (hs2 : swapsWith (.Call (.Attribute (.Name X q2) "append" q3) [.Subscript (.Subscript (.Name "names" q4) (.Name "kind" q5) q6) (.Name "face" q7) q8] [] q9) none q10.line env = pure false := by rfl)
    (hfew : ((backTo q9 (starEach [.Subscript (.Subscript (.Name "names" q4) (.Name "kind" q5) q6) (.Name "face" q7) q8] env)).all (fun x => !x.1) && (backToKw q9 (keywordEach [] env)).all (fun x => x.1.isSome) && decide ([PySem.Expr.Subscript (.Subscript (.Name "names" q4) (.Name "kind" q5) q6) (.Name "face" q7) q8].length + ([] : List Keyword).length + (if ([] : List Keyword).isEmpty then 0 else 1) < 30)) = true := by rfl)
    (hline : (q3.endLine == q9.line) = true := by rfl) (he : starEach [PySem.Expr.Subscript (.Subscript (.Name "names" q4) (.Name "kind" q5) q6) (.Name "face" q7) q8] env = (false, eval (.Subscript (.Subscript (.Name "names" q4) (.Name "kind" q5) q6) (.Name "face" q7) q8) env) :: starEach [] env := by rfl) :
    wpC b (model prog w) A (exec (.If (.Compare e1 [op] [e2] q1) [.Expr (.Call (.Attribute (.Name X q2) "append" q3) [.Subscript (.Subscript (.Name "names" q4) (.Name "kind" q5) q6) (.Name "face" q7) q8] [] q9) q10] [] q11) env) Q E s := by
  refine X_If ?_
  refine X_isTrue_Compare1 ?_ hm
  refine h1 _ fun h₁ tk₁ t1 k₁ => ?_
  refine h2 h₁ tk₁ k₁ _ fun h₂ tk₂ t2 k₂ => ?_
  refine hop t1 t2 _ _ ?_
  refine wpAny_truthy_bool ?_
  have S₂ := S.grow fun b o e => k₂ _ _ (k₁ _ _ e)
  cases c with
  | false =>
    simp only [Bool.false_eq_true, if_false]
    exact wpC_execs_nil (h h₂ tk₂ vl nl ⟨0, rfl⟩ S₂)
  | true =>
    simp only [if_true]
    have hx := (S₂.st.mem (xA, lst vl nl) (by simp)).1
    refine wpC_execs_cons ?_
    refine wpC_of ?_
    refine X_append S₂.st.ns mX hx hz ?_ hk kX dX hi hs2 hfew hline he
    refine Subscript_ ?_
    refine Subscript_ ?_
    refine nm_loc S₂.st.ns mn ?_ hk kn
    refine nm_loc S₂.st.ns mk ?_ hk kk
    obtain ⟨P, hP, Ps, rfl, hPs⟩ := names_at hk8 hf2
    refine sub_tup hnv S₂.st.keep hP (by omega) fun y hy => ?_
    refine nm_loc S₂.st.ns mf ?_ hk kf
    refine sub_tup hy S₂.st.keep hPs (by omega) fun z hz => ?_
    obtain ⟨_, rz⟩ := hz
    cases rz with
    | str _ tz =>
    refine ⟨hx, fun h₃ hq₃ k₃ => ?_⟩
    have S₃ := S₂.upd hq₃ k₃
    exact wpC_execs_nil (h h₃ _ _ _ ⟨tz, rfl⟩ S₃)
end
end Mine
end

/-! part C2 -/
section
open PySem PySem.W PyProof.Rows PySem.Calls
set_option maxRecDepth 100000
namespace Mine
def lackAt (got want : List Pr) : Nat → List Pr
  | 0 => []
  | i + 1 => match want[i]? with
    | none => lackAt got want i
    | some x => if decide (cnt got x.1 ≤ cnt (want.drop (i + 1)) x.1) then lackAt got want i ++ [x] else lackAt got want i
def overAt (got want : List Pr) : Nat → List Pr
  | 0 => []
  | i + 1 => match got[i]? with
    | none => overAt got want i
    | some x => if decide (cnt want x.1 ≤ cnt (got.take i) x.1) then overAt got want i ++ [x] else overAt got want i

theorem isL_unique {h : Heap} {l : Addr} {xs ys : Array Value} (a : h.IsList l xs) (b : h.IsList l ys) : xs = ys := by
  obtain ⟨o, ho, _, n, hd⟩ := a
  obtain ⟨o', ho', _, n', hd'⟩ := b
  rw [ho] at ho'; cases ho'
  rw [hd] at hd'; injection hd'
theorem Fm.perm {w : World} {B : Heap} {L : Addr} {m : Str → Option Value} {mu mu' : List (Addr × Obj)} {hid : List Addr} {h : Heap} (S : Fm w B L m mu hid h) (hs : ∀ p ∈ mu', p ∈ mu) (nd : (mu'.map (·.1)).Nodup) : Fm w B L m mu' hid h :=
  ⟨S.st.perm hs nd, S.hb, S.hL, fun p hp => S.hm p (hs p hp)⟩
/-- a new object of a part that has made settled ones beside it -/
theorem Fm.add' {w : World} {B : Heap} {L : Addr} {m : Str → Option Value} {mu : List (Addr × Obj)} {hid : List Addr} {h h' G : Heap} (S : Fm w B L m mu hid h) (k : Keeps h h') (kB : Keeps B G) (kG : Keeps G h') (hn : ∀ c, h.get? c ≠ none → B.get? c = none → G.get? c = none) (hh : ∀ a ∈ hid, h.get? a ≠ none)
    {a : Addr} {o : Obj} (ha : h.get? a = none) (ho : h'.get? a = some o) (hG : G.get? a = none) : Fm w G L m ((a, o) :: mu) hid h' := by
  have S₁ := S.based k kB kG hn hh
  refine ⟨⟨S₁.st.gd, S₁.st.keep, S₁.st.ns, S₁.st.off, fun p hp => ?_, ?_⟩, S₁.hb, S₁.hL, fun p hp => ?_⟩
  · rcases List.mem_cons.mp hp with rfl | hp
    · refine ⟨ho, fun q => ?_, hG⟩
      obtain ⟨o', _, _, e, _⟩ := S.st.ns
      rw [← q, ha] at e; cases e
    · exact S₁.st.mem p hp
  · refine List.nodup_cons.mpr ⟨fun hm => ?_, S.st.nd⟩
    obtain ⟨p, hp, e⟩ := List.mem_map.mp hm
    dsimp only at e
    rw [← e, (S.st.mem p hp).1] at ha; cases ha
  · rcases List.mem_cons.mp hp with rfl | hp
    · exact fun q => hh _ q ha
    · exact S₁.hm p hp

section
variable {b : Bool} {w : World} {A : Around} {E : Value → Shared → Prop} {s : Shared} {R : Result → Shared → Prop} {env : Env}
/-- `place, (kind, face)` -/
theorem assignN {x y z : Str} {p1 p2 p3 p4 p5 : Pos} {k k2 : Nat} {T : Addr} {v1 v : Value} {pf : Pr} {m : Str → Option Value} {Q : Unit → Shared → Prop} (hh : A.handled = none) (hT : s.heap.IsTuple T #[v1, v]) (hv : prP pf s.heap v) (hn : s.heap.Ns env.locals m)
    (hx : env.kindOf x = some .local) (hy : env.kindOf y = some .local) (hz : env.kindOf z = some .local)
    (hnL : ∀ t, v = .ref t → t ≠ env.locals)
    (h : ∀ h' tk a c, h'.Ns env.locals (fun u => if u = z then some (.int pf.2 c) else if u = y then some (.int pf.1 a) else if u = x then some v1 else m u) → (∀ b o, b ≠ env.locals → s.heap.get? b = some o → h'.get? b = some o) → Q () { s with heap := h', toks := tk })
    (hp : (env.scope.kind == .class || (env.scope.kind == .module && env.locals != env.globals)) = false := by rfl) :
    wpAny (model prog w) A (assign (.Tuple [.Name x p1, .Tuple [.Name y p2, .Name z p3] k2 p4] k p5) env (.ref T)) Q E s := by
  refine wpAny_assign_Tuple hh hT rfl rfl fun h₁ e₁ => ?_
  have k₁ : Keeps s.heap h₁ := fun b o e => e₁ b o (Nat.ne_of_lt (Heap.lt_size e)) e
  refine wpAny_assignInOrder_more ?_
  show wpAny _ _ (assign (.Name x p1) env v1) _ _ _
  refine wpAny_assign_Name (wpAny_storeName_local hx (hn.keeps k₁) (fun h₂ n₂ e₂ => ?_) hp)
  refine wpAny_assignInOrder_more ?_
  show wpAny _ _ (assign (.Tuple [.Name y p2, .Name z p3] k2 p4) env v) _ _ _
  obtain ⟨t, a, c, rfl, ht⟩ := hv
  refine assignR2 hh (pf := pf) ⟨t, a, c, rfl, ?_⟩ n₂ hy hz (fun h₃ tk₃ a' c' n₃ k₃ => ?_) hp
  · obtain ⟨o, ho, r⟩ := ht
    exact ⟨o, e₂.extBut _ _ (hnL t rfl) (k₁ _ _ ho), r⟩
  · exact wpAny_assignInOrder_none (h h₃ _ a' c' n₃ fun b o q e => k₃ b o q (e₂.extBut b o q (k₁ _ _ e)))

/-- `X[::-1]` -/
theorem slice_rev {X : Str} {q1 q2 q3 q4 q5 : Pos} {l : Addr} {xs : List Value} {n : Nat} {m : Str → Option Value} {Q : Value → Shared → Prop} (hn : s.heap.Ns env.locals m) (mX : m X = some (.ref l)) (hl : s.heap.get? l = some (lst xs n)) (hz : xs.length ≤ 1000)
    (h : ∀ h₁ tk a, Keeps s.heap h₁ → h₁.get? a = some (lst xs.reverse 0) → Q (.ref a) { s with heap := h₁, toks := tk })
    (hk : env.scope.kind = .function := by rfl) (kX : env.kindOf X = some .local := by rfl) (dX : (X == ("__debug__" : Str)) = false := by decide) :
    wpAny (model prog w) A (eval (.Subscript (.Name X q1) (.Slice none none (some (.UnaryOp .USub (.Constant (.int 1) 0 q2) q3)) q4) q5) env) Q E s := by
  refine wpAny_Subscript_Slice_step (T := "list") list_getitem_lookup ?_
  refine nm_loc hn mX ?_ hk kX dX
  refine wpAny_Slice ?_
  rw [evalPart_none]
  refine wpAny_pure (wpAny_pure ?_)
  rw [evalPart_some]
  refine wpAny_UnaryOp ?_
  refine wpAny_Constant_int ?_
  refine neg_int ?_
  have p1 : ∀ (H : Heap) (o : Obj), Keeps H (H.push o) := fun H o b x e => Heap.get?_push_of_some _ e
  have hl' : s.heap.IsList l xs.toArray := ⟨_, hl, rfl, _, rfl⟩
  refine ⟨(isL_keeps hl' (p1 _ _)).typeIs, wpAny_getItem_list_slice (isL_keeps hl' (p1 _ _)) (Heap.IsSliceOf.new ..) .none .none (.int _ _) (by decide) ?_ (by rw [sizeLine_eq]; simp; omega)⟩
  refine h _ _ _ (fun b o e => p1 _ _ _ _ (p1 _ _ _ _ e)) ?_
  rw [krv_pick]
  exact Heap.get?_push_size _ rfl
end
end Mine
end

/-! part C3 -/
section
open PySem PySem.W PyProof.Rows PySem.Calls
set_option maxRecDepth 100000
namespace Mine
section
variable {b : Bool} {w : World} {A : Around} {E : Value → Shared → Prop} {s : Shared} {R : Result → Shared → Prop} {env : Env}
theorem own_uld (w : World) : nsIn (KF w) mainGlobals "unorderable_list_difference" = some (some (.ref 79)) := rfl
theorem own_written (w : World) : nsIn (KF w) mainGlobals "_law_written" = some (some (.ref 184)) := rfl
theorem lackAt_len (got want : List Pr) : ∀ i, (lackAt got want i).length ≤ i
  | 0 => Nat.le_refl _
  | i + 1 => by
    have := lackAt_len got want i
    unfold lackAt
    split
    · omega
    · split
      · rw [List.length_append, List.length_cons, List.length_nil]; omega
      · omega
theorem overAt_len (got want : List Pr) : ∀ i, (overAt got want i).length ≤ i
  | 0 => Nat.le_refl _
  | i + 1 => by
    have := overAt_len got want i
    unfold overAt
    split
    · omega
    · split
      · rw [List.length_append, List.length_cons, List.length_nil]; omega
      · omega

theorem all2_reverse {h : Heap} {Ps : List HP} {vs : List Value} (x : All2 h Ps vs) : All2 h Ps.reverse vs.reverse := by
  induction x with
  | nil => exact .nil
  | cons p _ ih => rw [List.reverse_cons, List.reverse_cons]; exact all2_append ih (.cons p .nil)
theorem ns_ne_list {h : Heap} {L a : Addr} {m : Str → Option Value} {xs : List Value} {n : Nat} (hn : h.Ns L m) (ha : h.get? a = some (lst xs n)) : a ≠ L := by
  rintro rfl
  obtain ⟨o, es, ep, e, hd, _⟩ := hn
  rw [ha] at e; cases e; cases hd
theorem ns_kin {h h' : Heap} {L : Addr} {m : Str → Option Value} {outs : List Addr} (hn : h.Ns L m) (k : Kin outs h h') (hL : L ∈ outs) : h'.Ns L m := by
  obtain ⟨o, es, ep, e, r⟩ := hn
  obtain ⟨sl, e'⟩ := k L hL o e
  exact ⟨_, es, ep, e', r⟩
theorem names_any {h h' : Heap} {l : List Pr} {vs : List Value} (x : All2 h (l.map nameP) vs) : All2 h' (l.map nameP) vs :=
  all2_conv (fun P hP v q => by
    obtain ⟨x, _, rfl⟩ := List.mem_map.mp hP
    obtain ⟨as, r⟩ := q
    cases r with
    | str _ t => exact ⟨_, .str _ t⟩) x
theorem lay_names (l : List Pr) : (PyData.list (l.map fun x => PyData.str (nameOf x.1 x.2))).canLay0 = true := by
  show PyData.canLayAll0 (l.map fun x => PyData.str (nameOf x.1 x.2)) = true
  exact lay_all (D := fun x : Pr => PyData.str (nameOf x.1 x.2)) (fun x => nameOf_ok _ _) l

set_option maxHeartbeats 4000000 in
theorem copies_spec {e₀ : Env} {Ll : Addr} {ol : Obj} {B : Heap} (G : Gd w B) (kB : Keeps B s.heap) (hh : A.handled = none) (hg : A.guards = some []) (hr : A.depth + 4 < recursionLimit) (hu : A.units + 150 < cLine) (hfr : A.frames = some [e₀]) (hff : s.heap.FunFrames B [e₀]) (hf0 : e₀.frame = some Ll) (hol : s.heap.get? Ll = some ol)
    {gv wv : Value} {got want : List Pr} (hgp : prsP got B gv) (hwp : prsP want B wv) (hgl : got.length ≤ 100) (hwl : want.length ≤ 100) (hgo : PairsOk got) (hwo : PairsOk want)
    (law1 : (uldGo want.reverse got []).1 = (lackAt got want want.length).reverse) (law2 : (uldGo want.reverse got []).2 = overAt got want got.length)
    (h : ∀ h' tk sl, Keeps B h' → h'.get? Ll = some { ol with slots := sl } → R (.ok (.ret (.bool true))) { s with heap := h', toks := tk }) :
    codeC true (model prog w) A (.call (.ref 208) ⟨[gv, wv], []⟩) R s := by
  have G₀ := G.keeps kB
  refine code_fn (binds := [("got", gv), ("want", wv)]) G₀ (fn_copies w) rfl (by omega) (fun _ _ => BindsTo.of_eq (by rfl)) ?_ ?_
  · intro x hx
    simp only [List.mem_cons, List.not_mem_nil, or_false] at hx
    rcases hx with rfl | rfl <;> rfl
  intro h₁ hns hk
  have hLl : B.get? Ll = none := (hff.mem (List.mem_filterMap.mpr ⟨e₀, List.mem_cons_self .., hf0⟩)).1
  have hold : ∀ vs, ol.data ≠ .fields vs := by
    obtain ⟨_, o, ho, hd⟩ := hff.mem (List.mem_filterMap.mpr ⟨e₀, List.mem_cons_self .., hf0⟩)
    rw [hol] at ho; cases ho; exact hd
  have hk₀ : e₀.scope.kind ≠ .module := hff.1
  have S₁ := Fm.startB (mu := [(Ll, ol)]) (outs := []) G kB hns hk (by
    intro p hp
    simp only [List.mem_cons, List.not_mem_nil, or_false] at hp
    subst hp
    exact ⟨hol, hLl⟩) (by simp) (fun _ q => nomatch q) (fun _ _ q => nomatch q)
  have kB₁ : Keeps B h₁ := fun b o e => hk _ _ (kB _ _ e)
  refine wpC_execs_cons ?_
  refine X_Assign_Name ?_
  obtain ⟨of, fd, hof, hfd⟩ := ob_of (fn_names w)
  refine X_Call_own0 (f := 174) (of := of) (fd := fd) ?_ (S₁.gdh.K _ _ hof) hfd ?_
  · intro Q' q
    exact nm_own S₁.gdh (own_names w) q
  refine names_spec ?_ ?_ B ?_
  · exact S₁.gdh
  · show A.depth + 1 < recursionLimit; omega
  intro nv h₂ tk₂ k₂ hnv
  have S₂ := S₁.based k₂ (ext_old kB₁ k₂) (fun _ _ e => of_ext e) (fun c q1 q2 => ext_none q1 q2) (fun _ q => (nomatch q))
  refine wpAny_storeName_local rfl S₂.st.ns fun h₃ hns₃ sb₃ => ?_
  have S₃ := S₂.store hns₃ (fun b o q e => sb₃.extBut b o q e)
  refine wpC_execs_cons ?_
  refine X_two_lists hh S₃ (fun _ q => (nomatch q)) ?_
  intro h₆ tk₆ rA qA S₆ nr nq k₆
  dsimp only
  obtain ⟨gl, gi, rfl, hgL, hgA⟩ := hgp
  obtain ⟨wl, wi, rfl, hwL, hwA⟩ := hwp
  have hgz : gi.size = got.length := by have := all2_len hgA; simpa using this.symm
  have hwz : wi.size = want.length := by have := all2_len hwA; simpa using this.symm
  have kBE : Keeps B (ext B h₁ h₂) := ext_old kB₁ k₂
  refine wpC_execs_cons ?_
  refine X_For_enumOf hh want.length (fun i B' m' mu' => ∃ vl nl, mu' = [(qA, lst [] 0), (rA, lst vl nl), (Ll, ol)] ∧ m' "names" = some nv ∧ m' "got" = some (.ref gl) ∧ m' "want" = some (.ref wl) ∧ m' "lacking" = some (.ref rA) ∧ m' "over" = some (.ref qA) ∧
    All2 B' ((lackAt got want i).map nameP) vl ∧ vl.length ≤ i) (xA := wl) S₆ rfl (isL_keeps hwL fun b o e => S₆.st.keep _ _ (kBE _ _ e)) ⟨[], 0, rfl, rfl, rfl, rfl, rfl, rfl, .nil, Nat.zero_le _⟩ ?_ ?_ ?_
  · rintro i B' m' mu' h kB' _ ⟨hid, S'⟩
    exact ⟨wi, isL_keeps hwL fun b o e => S'.st.keep _ _ (kB' _ _ (kBE _ _ e)), hwz⟩
  · rintro i v B' m' mu' En oE It oI T tk0 h₁₀ tk₁₀ hi kB' ⟨vl, nl, rfl, m1, m2, m3, m4, m5, hvl, lvl⟩ S' ⟨items, hit, hsz, hv⟩ hT
    have kBB : Keeps B B' := fun b o e => kB' _ _ (kBE _ _ e)
    have hwL' : h₁₀.IsList wl wi := isL_keeps hwL fun b o e => S'.st.keep _ _ (kBB _ _ e)
    obtain rfl := isL_unique hit hwL'
    obtain ⟨P, hP, pv⟩ := all2_get' hwA (by simpa using hv)
    rw [List.getElem?_map] at hP
    obtain ⟨x, hx, rfl⟩ := Option.map_eq_some_iff.mp hP
    have hxk := hwo x (List.mem_of_getElem? hx)
    refine wpC_of ?_
    refine assignN hh hT (mono_pr x _ _ _ (fun b o e => S'.st.keep _ _ (kBB _ _ e)) pv) S'.st.ns rfl rfl rfl ?_ (fun h₁₁ tk₁₁ a c hn₁₁ k₁₁ => ?_)
    · rintro t rfl q
      obtain ⟨_, _, _, e, o, ho, _⟩ := pv
      cases e
      rw [q] at ho
      have := kBB _ _ ho
      rw [S'.st.off] at this; cases this
    have S₁₁ := S'.store hn₁₁ k₁₁
    have k₀ : Keeps B h₁₁ := fun b o e => S₁₁.st.keep _ _ (kBB _ _ e)
    refine wpC_execs_cons ?_
    refine keep_turn (l₁ := [(En, oE), (It, oI), (qA, lst [] 0)]) (l₂ := [(Ll, ol)]) (c1 := cnt (want.drop (i + 1)) x.1) (c2 := cnt got x.1) (c := decide (cnt got x.1 ≤ cnt (want.drop (i + 1)) x.1)) (k := x.1) (f := x.2) S₁₁ m4 rfl rfl m1 (mono_names _ _ _ (fun b o e => kB' _ _ e) hnv) hxk.1 hxk.2 (by omega) ?_ ?_ ?_ ?_ rfl rfl rfl rfl rfl rfl
    · intro Q' q
      refine equals_call (ps := want.drop (i + 1)) (k := x.1) S₁₁.gdh hh (by show A.depth + 1 < recursionLimit; omega) (by show A.units + 3 + 100 < cLine; omega) (by rw [List.length_drop]; omega) S₁₁.st.ns rfl ?_ q rfl rfl rfl rfl
      exact slice_drop S₁₁.st.ns m3 rfl (isL_keeps hwL k₀) (all2_keeps (fun P hP => by obtain ⟨x, _, rfl⟩ := List.mem_map.mp hP; exact mono_pr x) k₀ hwA) (by omega) rfl rfl rfl
    · intro h₁₂ tk₁₂ k₁₂ Q' q
      have S₁₂ := S₁₁.grow k₁₂
      refine equals_call (s := { s with heap := h₁₂, toks := tk₁₂ }) (ps := got) (k := x.1) S₁₂.gdh hh (by show A.depth + 1 < recursionLimit; omega) (by show A.units + 3 + 100 < cLine; omega) (by omega) S₁₂.st.ns rfl ?_ q rfl rfl rfl rfl
      exact whole_list (s := { s with heap := h₁₂, toks := tk₁₂ }) S₁₂.st.ns m2 ⟨gl, gi, rfl, isL_keeps hgL fun b o e => k₁₂ _ _ (k₀ _ _ e), all2_keeps (fun P hP => by obtain ⟨x, _, rfl⟩ := List.mem_map.mp hP; exact mono_pr x) (fun b o e => k₁₂ _ _ (k₀ _ _ e)) hgA⟩ rfl rfl
    · intro t1 t2 s' Q' q
      refine ge_int ?_
      have e : decide ((cnt got x.1 : Int) ≤ (cnt (want.drop (i + 1)) x.1 : Int)) = decide (cnt got x.1 ≤ cnt (want.drop (i + 1)) x.1) := by
        rw [decide_eq_decide]; omega
      first
      | (rw [e]; exact q)
      | (rw [← e] at q; exact q)
    · intro h₁₃ tk₁₃ vl' nl' hvl' S₁₃
      obtain ⟨t, rfl⟩ := hvl'
      refine wpC_execs_nil ?_
      refine ⟨B', _, _, h₁₃, tk₁₃, rfl, fun _ _ e => e, S₁₃, _, _, rfl, m1, m2, m3, m4, m5, ?_, ?_⟩
      · unfold lackAt
        rw [hx]
        dsimp only
        cases decide (cnt got x.1 ≤ cnt (want.drop (i + 1)) x.1) with
        | true =>
          simp only [if_true, List.map_append]
          exact all2_append hvl (.cons ⟨_, .str _ _⟩ .nil)
        | false =>
          simp only [Bool.false_eq_true, if_false]
          exact hvl
      · cases decide (cnt got x.1 ≤ cnt (want.drop (i + 1)) x.1) with
        | true => simp only [if_true, List.length_append, List.length_cons, List.length_nil]; omega
        | false => simp only [Bool.false_eq_true, if_false]; omega
  · rintro B₂ m₂ mu₂ h₂₀ tk₂₀ kB₂ ⟨vl, nl, rfl, m1, m2, m3, m4, m5, hvl, lvl⟩ S₂₀
    have kB₂₀ : Keeps B B₂ := fun b o e => kB₂ _ _ (kBE _ _ e)
    dsimp only
    refine wpC_execs_cons ?_
    refine X_For_enumOf hh got.length (fun i B' m' mu' => ∃ wl' nl', mu' = [(qA, lst wl' nl'), (rA, lst vl nl), (Ll, ol)] ∧ m' "names" = some nv ∧ m' "got" = some (.ref gl) ∧ m' "want" = some (.ref wl) ∧ m' "lacking" = some (.ref rA) ∧ m' "over" = some (.ref qA) ∧
      All2 B' ((overAt got want i).map nameP) wl' ∧ wl'.length ≤ i) (xA := gl) S₂₀ m2 (isL_keeps hgL fun b o e => S₂₀.st.keep _ _ (kB₂₀ _ _ e)) ⟨[], 0, rfl, m1, m2, m3, m4, m5, .nil, Nat.zero_le _⟩ ?_ ?_ ?_
    · rintro i B' m' mu' h kB' _ ⟨hid, S'⟩
      exact ⟨gi, isL_keeps hgL fun b o e => S'.st.keep _ _ (kB' _ _ (kB₂₀ _ _ e)), hgz⟩
    · rintro i v B' m' mu' En oE It oI T tk0 h₁₀ tk₁₀ hi kB' ⟨vl', nl', rfl, m1, m2, m3, m4, m5, hvl', lvl'⟩ S' ⟨items, hit, hsz, hv⟩ hT
      have kBB : Keeps B B' := fun b o e => kB' _ _ (kB₂₀ _ _ e)
      have hgL' : h₁₀.IsList gl gi := isL_keeps hgL fun b o e => S'.st.keep _ _ (kBB _ _ e)
      obtain rfl := isL_unique hit hgL'
      obtain ⟨P, hP, pv⟩ := all2_get' hgA (by simpa using hv)
      rw [List.getElem?_map] at hP
      obtain ⟨x, hx, rfl⟩ := Option.map_eq_some_iff.mp hP
      have hxk := hgo x (List.mem_of_getElem? hx)
      refine wpC_of ?_
      refine assignN hh hT (mono_pr x _ _ _ (fun b o e => S'.st.keep _ _ (kBB _ _ e)) pv) S'.st.ns rfl rfl rfl ?_ (fun h₁₁ tk₁₁ a c hn₁₁ k₁₁ => ?_)
      · rintro t rfl q
        obtain ⟨_, _, _, e, o, ho, _⟩ := pv
        cases e
        rw [q] at ho
        have := kBB _ _ ho
        rw [S'.st.off] at this; cases this
      have S₁₁ := S'.store hn₁₁ k₁₁
      have k₀ : Keeps B h₁₁ := fun b o e => S₁₁.st.keep _ _ (kBB _ _ e)
      refine wpC_execs_cons ?_
      refine keep_turn (l₁ := [(En, oE), (It, oI)]) (l₂ := [(rA, lst vl nl), (Ll, ol)]) (c1 := cnt (got.take i) x.1) (c2 := cnt want x.1) (c := decide (cnt want x.1 ≤ cnt (got.take i) x.1)) (k := x.1) (f := x.2) S₁₁ m5 rfl rfl m1 (mono_names _ _ _ (fun b o e => kB' _ _ (kB₂ _ _ e)) hnv) hxk.1 hxk.2 (by omega) ?_ ?_ ?_ ?_ rfl rfl rfl rfl rfl rfl
      · intro Q' q
        refine equals_call (ps := got.take i) (k := x.1) S₁₁.gdh hh (by show A.depth + 1 < recursionLimit; omega) (by show A.units + 3 + 100 < cLine; omega) (by rw [List.length_take]; omega) S₁₁.st.ns rfl ?_ q rfl rfl rfl rfl
        exact slice_take S₁₁.st.ns m2 rfl (isL_keeps hgL k₀) (all2_keeps (fun P hP => by obtain ⟨x, _, rfl⟩ := List.mem_map.mp hP; exact mono_pr x) k₀ hgA) (by omega) rfl rfl rfl
      · intro h₁₂ tk₁₂ k₁₂ Q' q
        have S₁₂ := S₁₁.grow k₁₂
        refine equals_call (s := { s with heap := h₁₂, toks := tk₁₂ }) (ps := want) (k := x.1) S₁₂.gdh hh (by show A.depth + 1 < recursionLimit; omega) (by show A.units + 3 + 100 < cLine; omega) (by omega) S₁₂.st.ns rfl ?_ q rfl rfl rfl rfl
        exact whole_list (s := { s with heap := h₁₂, toks := tk₁₂ }) S₁₂.st.ns m3 ⟨wl, wi, rfl, isL_keeps hwL fun b o e => k₁₂ _ _ (k₀ _ _ e), all2_keeps (fun P hP => by obtain ⟨x, _, rfl⟩ := List.mem_map.mp hP; exact mono_pr x) (fun b o e => k₁₂ _ _ (k₀ _ _ e)) hwA⟩ rfl rfl
      · intro t1 t2 s' Q' q
        refine ge_int ?_
        have e : decide ((cnt want x.1 : Int) ≤ (cnt (got.take i) x.1 : Int)) = decide (cnt want x.1 ≤ cnt (got.take i) x.1) := by
          rw [decide_eq_decide]; omega
        first
        | (rw [e]; exact q)
        | (rw [← e] at q; exact q)
      · intro h₁₃ tk₁₃ vl'' nl'' hvl'' S₁₃
        obtain ⟨t, rfl⟩ := hvl''
        refine wpC_execs_nil ?_
        refine ⟨B', _, _, h₁₃, tk₁₃, rfl, fun _ _ e => e, S₁₃, _, _, rfl, m1, m2, m3, m4, m5, ?_, ?_⟩
        · unfold overAt
          rw [hx]
          dsimp only
          cases decide (cnt want x.1 ≤ cnt (got.take i) x.1) with
          | true =>
            simp only [if_true, List.map_append]
            exact all2_append hvl' (.cons ⟨_, .str _ _⟩ .nil)
          | false =>
            simp only [Bool.false_eq_true, if_false]
            exact hvl'
        · cases decide (cnt want x.1 ≤ cnt (got.take i) x.1) with
          | true => simp only [if_true, List.length_append, List.length_cons, List.length_nil]; omega
          | false => simp only [Bool.false_eq_true, if_false]; omega
    · rintro B₃ m₃ mu₃ h₃₀ tk₃₀ kB₃ ⟨vo, no, rfl, m1, m2, m3, m4, m5, hvo, lvo⟩ S₃₀
      have kB₃₀ : Keeps B B₃ := fun b o e => kB₃ _ _ (kB₂₀ _ _ e)
      have hrA := (S₃₀.st.mem (rA, lst vl nl) (by simp)).1
      have hqA := (S₃₀.st.mem (qA, lst vo no) (by simp)).1
      have nd := S₃₀.st.nd
      simp only [List.map_cons, List.map_nil, List.nodup_cons, List.mem_cons, List.not_mem_nil, or_false, not_or] at nd
      have S₃p := S₃₀.perm (mu' := [(Ll, ol)]) (by simp) (by simp)
      have S₃₁ := S₃p.rebase
      have hrB : (calmer s.heap.objs.size [(Ll, ol)] [] h₃₀).get? rA = some (lst vl nl) := S₃p.calm_at hrA (S₃₀.st.mem (rA, lst vl nl) (by simp)).2.1 (by simp; exact nd.2.1) (fun q => (nomatch q))
      have hqB : (calmer s.heap.objs.size [(Ll, ol)] [] h₃₀).get? qA = some (lst vo no) := S₃p.calm_at hqA (S₃₀.st.mem (qA, lst vo no) (by simp)).2.1 (by simp; exact nd.1.2) (fun q => (nomatch q))
      have kB₃₁ : Keeps B (calmer s.heap.objs.size [(Ll, ol)] [] h₃₀) := fun b o e => S₃p.calms _ _ (kB₃₀ _ _ e)
      clear S₃₀ S₃p
      dsimp only
      generalize calmer s.heap.objs.size [(Ll, ol)] [] h₃₀ = B₄ at S₃₁ hrB hqB kB₃₁
      refine wpC_execs_cons ?_
      refine X_Assign2_sw hh ?_
      refine X_Tuple ?_
      refine X_items_cons ?_
      obtain ⟨o2, f2, ho2, hf2⟩ := ob_of (fn_things w)
      refine X_Call_own (f := 179) (of := o2) (fd := f2) ?_ ?_ hf2
      · intro Q' q
        exact nm_own S₃₁.gdh (own_things w) q
      refine X_items_cons ?_
      refine wpC_of (nm_loc S₃₁.st.ns m2 ?_ rfl rfl)
      refine X_items_nil ?_
      refine ⟨S₃₁.gdh.K _ _ ho2, ?_⟩
      refine things_spec (ps := got) ?_ ?_ ?_ ?_ ?_ ?_ B₄ ?_ ?_
      · exact S₃₁.gdh
      · exact hh
      · show A.depth + 1 + 1 < recursionLimit; omega
      · exact ⟨gl, gi, rfl, isL_keeps hgL fun b o e => S₃₁.st.keep _ _ (kB₃₁ _ _ e), all2_keeps (fun P hP => by obtain ⟨x, _, rfl⟩ := List.mem_map.mp hP; exact mono_pr x) (fun b o e => S₃₁.st.keep _ _ (kB₃₁ _ _ e)) hgA⟩
      · omega
      · exact hgo
      · exact S₃₁.st.keep
      intro h₃₂ tk₃₂ aA as an B₅ haA hasA kB₅ kG₅ k₃₂ naA nG₅ hn₅
      have S₃₂ := S₃₁.add' k₃₂ kB₅ kG₅ hn₅ (fun _ q => (nomatch q)) naA haA nG₅
      dsimp only
      refine X_items_cons ?_
      refine X_Call_own (f := 179) (of := o2) (fd := f2) ?_ ?_ hf2
      · intro Q' q
        exact nm_own S₃₂.gdh (own_things w) q
      refine X_items_cons ?_
      refine wpC_of (nm_loc S₃₂.st.ns m3 ?_ rfl rfl)
      refine X_items_nil ?_
      refine ⟨S₃₂.gdh.K _ _ ho2, ?_⟩
      have kB₅₀ : Keeps B B₅ := fun b o e => kB₅ _ _ (kB₃₁ _ _ e)
      refine things_spec (ps := want) ?_ ?_ ?_ ?_ ?_ ?_ B₅ ?_ ?_
      · exact S₃₂.gdh
      · exact hh
      · show A.depth + 1 + 1 < recursionLimit; omega
      · exact ⟨wl, wi, rfl, isL_keeps hwL fun b o e => S₃₂.st.keep _ _ (kB₅₀ _ _ e), all2_keeps (fun P hP => by obtain ⟨x, _, rfl⟩ := List.mem_map.mp hP; exact mono_pr x) (fun b o e => S₃₂.st.keep _ _ (kB₅₀ _ _ e)) hwA⟩
      · omega
      · exact hwo
      · exact S₃₂.st.keep
      intro h₃₃ tk₃₃ eA es en B₆ heA hesA kB₆ kG₆ k₃₃ neA nG₆ hn₆
      have S₃₃ := S₃₂.add' k₃₃ kB₆ kG₆ hn₆ (fun _ q => (nomatch q)) neA heA nG₆
      dsimp only
      refine X_items_nil ?_
      refine ⟨by show (2 : Nat) ≤ sizeLine; rw [sizeLine_eq]; omega, ?_⟩
      refine ⟨_, _, _, _, rfl, ⟨_, Heap.get?_push_size _ rfl, rfl, _, rfl⟩, (S₃₃.grow fun b o e => Heap.get?_push_of_some _ e).st.ns, ?_⟩
      intro h₃₄ tk₃₄ hns₃₄ k₃₄
      have S₃₄ := (S₃₃.grow fun b o e => Heap.get?_push_of_some _ e).store hns₃₄ k₃₄
      dsimp only
      refine wpC_execs_cons ?_
      have meA := S₃₄.st.mem (eA, lst es en) (by simp)
      have maA := S₃₄.st.mem (aA, lst as an) (by simp)
      have mLl := S₃₄.st.mem (Ll, ol) (by simp)
      have nd₄ := S₃₄.st.nd
      simp only [List.map_cons, List.map_nil, List.nodup_cons, List.mem_cons, List.not_mem_nil, or_false, not_or] at nd₄
      have hfr' : (A.deeper (envF 17 "_law_copies_hold" 208 207 s.heap.objs.size)).frames = some [envF 17 "_law_copies_hold" 208 207 s.heap.objs.size, e₀] := Around.frames_deeper hfr
      have hff₄ : h₃₄.FunFrames B₆ [envF 17 "_law_copies_hold" 208 207 s.heap.objs.size, e₀] := Heap.FunFrames.cons (fun q => absurd (show ScopeKind.function = ScopeKind.module from q) (by decide)) rfl S₃₄.st.ns S₃₄.st.off ⟨hk₀, ⟨Ll, ol, hf0, mLl.2.2, mLl.1, hold⟩, trivial⟩
      have houts : ([envF 17 "_law_copies_hold" 208 207 s.heap.objs.size, e₀] : List Env).filterMap (·.frame) = [s.heap.objs.size, Ll] := by
        rw [List.filterMap_cons, List.filterMap_cons, hf0]; rfl
      refine X_Assign2 hh ?_
      obtain ⟨o3, f3, ho3, hf3⟩ := ob_of (fn_uld w)
      refine X_Call_own (f := 79) (of := o3) (fd := f3) ?_ ?_ hf3
      · intro Q' q
        exact nm_own S₃₄.gdh (own_uld w) q
      refine X_items_cons ?_
      refine wpC_of (nm_loc S₃₄.st.ns rfl ?_ rfl rfl)
      refine X_items_cons ?_
      refine wpC_of (nm_loc S₃₄.st.ns rfl ?_ rfl rfl)
      refine X_items_nil ?_
      refine ⟨S₃₄.gdh.K _ _ ho3, ?_⟩
      refine uld_spec2 (A := A.deeper (envF 17 "_law_copies_hold" 208 207 s.heap.objs.size)) (envs := [envF 17 "_law_copies_hold" 208 207 s.heap.objs.size, e₀]) (B := B₆) (rP := want.reverse) (aP := got) S₃₄.st.gd S₃₄.st.keep hh (by show A.depth + 1 < recursionLimit; omega) (by show A.units + 3 + 110 < cLine; omega) hfr' hff₄ meA.1 maA.1 meA.2.2 maA.2.2 (fun q => nd₄.1.1 q.symm) ?_ ?_ ?_ ?_ (by rw [List.length_reverse]; omega) (by omega) ?_
      · rw [houts]
        simp only [List.mem_cons, List.not_mem_nil, or_false, not_or]
        exact ⟨meA.2.1, nd₄.1.2⟩
      · rw [houts]
        simp only [List.mem_cons, List.not_mem_nil, or_false, not_or]
        exact ⟨maA.2.1, nd₄.2.1⟩
      · rw [List.reverse_reverse]; exact hesA
      · exact keep_things kB₆ hasA
      rw [houts]
      intro h₃₅ tk₃₅ T mA ms mn en' as' an' hT hmA heA' haA' hms has' kB₃₅ kin₃₅
      dsimp only
      have hns₃₅ := ns_kin S₃₄.st.ns kin₃₅ (by simp)
      obtain ⟨sl, hLl₃₅⟩ := kin₃₅ Ll (by simp) ol mLl.1
      refine ⟨T, _, _, _, rfl, hT, hns₃₅, fun h₃₆ tk₃₆ hns₃₆ k₃₆ => ?_⟩
      have hLo : ∀ {b : Addr} {o : Obj}, B₆.get? b = some o → b ≠ s.heap.objs.size := fun e q => by rw [q, S₃₄.st.off] at e; cases e
      have kB₃₆ : Keeps B₆ h₃₆ := fun b o e => k₃₆ b o (hLo e) (kB₃₅ _ _ e)
      have G₃₆ : Gd w h₃₆ := S₃₄.st.gd.keeps kB₃₆
      have hmA₆ := k₃₆ _ _ (ns_ne_list hns₃₅ hmA) hmA
      have heA₆ := k₃₆ _ _ meA.2.1 heA'
      have haA₆ := k₃₆ _ _ maA.2.1 haA'
      have hLl₆ := k₃₆ _ _ mLl.2.1 hLl₃₅
      have hrA₆ : h₃₆.get? rA = some (lst vl nl) := kB₃₆ _ _ (kB₆ _ _ (kB₅ _ _ hrB))
      have hqA₆ : h₃₆.get? qA = some (lst vo no) := kB₃₆ _ _ (kB₆ _ _ (kB₅ _ _ hqB))
      rw [law1] at hms
      rw [law2] at has'
      have hll := lackAt_len got want want.length
      have hol' := overAt_len got want got.length
      refine wpC_execs_cons ?_
      refine X_If ?_
      refine X_isTrue_or ?_
      refine X_isTrue_Compare1 ?_
      obtain ⟨o4, f4, ho4, hf4⟩ := ob_of (fn_written w)
      refine X_Call_own (f := 184) (of := o4) (fd := f4) ?_ ?_ hf4
      · intro Q' q
        exact nm_own G₃₆ (own_written w) q
      refine X_items_cons ?_
      refine wpC_of (nm_loc hns₃₆ rfl ?_ rfl rfl)
      refine X_items_nil ?_
      refine ⟨G₃₆.K _ _ ho4, ?_⟩
      refine written_spec (ps := (lackAt got want want.length).reverse) ?_ ?_ ?_ ?_ ?_ ⟨_, hmA₆, rfl, _, rfl⟩ ?_ ?_ ?_
      · exact G₃₆
      · exact hh
      · exact hg
      · show A.depth + 1 + 1 < recursionLimit; omega
      · show A.units + 3 + 130 < cLine; omega
      · exact keep_things kB₃₆ hms
      · rw [List.length_reverse]; omega
      intro h₃₇ tk₃₇ a1 ys1 nn1 ha1 hys1 k₃₇ _
      dsimp only
      refine wpC_of (slice_rev (hns₃₆.keeps k₃₇) m4 (k₃₇ _ _ hrA₆) (by omega) fun h₃₈ tk₃₈ a2 k₃₈ ha2 => ?_)
      have mono_nm : ∀ {l : List Pr}, ∀ P ∈ l.map nameP, Mono P := fun P hP => by obtain ⟨x, _, rfl⟩ := List.mem_map.mp hP; exact mono_Rd _
      refine ne_lists (l := (lackAt got want want.length).reverse) (P := nameP) (D := fun x => .str (nameOf x.1 x.2)) (fun x v q => q) (lay_names _) (fun x => by simp [PyData.depth]) (k₃₈ _ _ ha1) ha2 (all2_keeps mono_nm k₃₈ hys1) ?_ (by show A.units + 3 + 64 < cLine; omega) ?_
      · rw [List.map_reverse]
        exact all2_reverse (names_any hvl)
      refine wpAny_truthy_bool ?_
      simp only [Bool.false_eq_true, if_false]
      have k₃₆₈ : Keeps h₃₆ h₃₈ := fun b o e => k₃₈ _ _ (k₃₇ _ _ e)
      have G₃₈ := G₃₆.keeps k₃₆₈
      have hns₃₈ := hns₃₆.keeps k₃₆₈
      refine X_isTrue_Compare1 ?_
      refine X_Call_own (f := 184) (of := o4) (fd := f4) ?_ ?_ hf4
      · intro Q' q
        exact nm_own G₃₈ (own_written w) q
      refine X_items_cons ?_
      refine wpC_of (nm_loc hns₃₈ rfl ?_ rfl rfl)
      refine X_items_nil ?_
      refine ⟨G₃₈.K _ _ ho4, ?_⟩
      refine written_spec (ps := overAt got want got.length) ?_ ?_ ?_ ?_ ?_ ⟨_, k₃₆₈ _ _ haA₆, rfl, _, rfl⟩ ?_ ?_ ?_
      · exact G₃₈
      · exact hh
      · exact hg
      · show A.depth + 1 + 1 < recursionLimit; omega
      · show A.units + 3 + 130 < cLine; omega
      · exact keep_things (fun b o e => k₃₆₈ _ _ (kB₃₆ _ _ e)) has'
      · omega
      intro h₃₉ tk₃₉ a3 ys3 nn3 ha3 hys3 k₃₉ _
      dsimp only
      have k₃₆₉ : Keeps h₃₆ h₃₉ := fun b o e => k₃₉ _ _ (k₃₆₈ _ _ e)
      have hns₃₉ := hns₃₆.keeps k₃₆₉
      refine wpC_of (nm_loc hns₃₉ m5 ?_ rfl rfl)
      refine ne_lists (l := overAt got want got.length) (P := nameP) (D := fun x => .str (nameOf x.1 x.2)) (fun x v q => q) (lay_names _) (fun x => by simp [PyData.depth]) ha3 (k₃₆₉ _ _ hqA₆) hys3 (names_any hvo) (by show A.units + 3 + 64 < cLine; omega) ?_
      refine wpAny_truthy_bool ?_
      simp only [Bool.false_eq_true, if_false]
      refine wpC_execs_nil ?_
      refine wpC_execs_cons ?_
      refine X_Return ?_
      refine X_And2 ?_
      refine X_Compare1 ?_
      refine wpC_of (nm_loc hns₃₉ rfl ?_ rfl rfl)
      refine wpC_of (nm_loc hns₃₉ rfl ?_ rfl rfl)
      refine is_null_null ?_
      refine wpAny_truthy_bool ?_
      simp only [if_true]
      refine X_Compare1 ?_
      refine wpC_of (nm_loc hns₃₉ rfl ?_ rfl rfl)
      refine wpC_of (wpAny_List ?_)
      refine wpAny_items_nil ?_
      refine ⟨Nat.zero_le _, ?_⟩
      have p9 : Keeps h₃₉ (h₃₉.push (lst [] 0)) := fun b o e => Heap.get?_push_of_some _ e
      refine eq_lists (l := ([] : List Pr)) (P := nameP) (D := fun x => .str (nameOf x.1 x.2)) (fun x v q => q) (lay_names _) (fun x => by simp [PyData.depth]) (p9 _ _ (k₃₆₉ _ _ heA₆)) (Heap.get?_push_size h₃₉ (o := lst [] 0) rfl) .nil .nil (by show A.units + 3 + 64 < cLine; omega) ?_
      exact h _ _ sl (fun b o e => p9 _ _ (k₃₆₉ _ _ (kB₃₆ _ _ (kB₆ _ _ (kB₅₀ _ _ e))))) (p9 _ _ (k₃₆₉ _ _ hLl₆))
end
end Mine
end

/-! part C4 -/
section
open PySem PySem.W PyProof.Rows PySem.Calls
set_option maxRecDepth 100000
namespace Mine
def midAt (ps : List Pr) : Nat → List Pr
  | 0 => []
  | i + 1 => match ps[i]? with
    | none => midAt ps i
    | some x => if cnt (ps.take i) x.1 == cnt (ps.drop (i + 1)) x.1 then midAt ps i ++ [x] else midAt ps i
theorem midAt_len (ps : List Pr) : ∀ i, (midAt ps i).length ≤ i
  | 0 => Nat.le_refl _
  | i + 1 => by
    have := midAt_len ps i
    unfold midAt
    split
    · omega
    · split
      · rw [List.length_append, List.length_cons, List.length_nil]; omega
      · omega
section
variable {b : Bool} {w : World} {A : Around} {E : Value → Shared → Prop} {s : Shared} {R : Result → Shared → Prop} {env : Env}

set_option maxHeartbeats 4000000 in
theorem one_spec {e₀ : Env} {Ll : Addr} {ol : Obj} {B : Heap} (G : Gd w B) (kB : Keeps B s.heap) (hh : A.handled = none) (hg : A.guards = some []) (hr : A.depth + 4 < recursionLimit) (hu : A.units + 150 < cLine) (hfr : A.frames = some [e₀]) (hff : s.heap.FunFrames B [e₀]) (hf0 : e₀.frame = some Ll) (hol : s.heap.get? Ll = some ol)
    {gv : Value} {ps : List Pr} (hgp : prsP ps B gv) (hgl : ps.length ≤ 100) (hgo : PairsOk ps)
    (law : oneGo ps.length ps.reverse [] = (midAt ps ps.length).reverse)
    (h : ∀ h' tk sl, Keeps B h' → h'.get? Ll = some { ol with slots := sl } → R (.ok (.ret (.bool true))) { s with heap := h', toks := tk }) :
    codeC true (model prog w) A (.call (.ref 215) ⟨[gv], []⟩) R s := by
  have G₀ := G.keeps kB
  refine code_fn (binds := [("pairs", gv)]) G₀ (fn_one w) rfl (by omega) (fun _ _ => BindsTo.of_eq (by rfl)) ?_ ?_
  · intro x hx
    simp only [List.mem_cons, List.not_mem_nil, or_false] at hx
    subst hx; rfl
  intro h₁ hns hk
  have hLl : B.get? Ll = none := (hff.mem (List.mem_filterMap.mpr ⟨e₀, List.mem_cons_self .., hf0⟩)).1
  have hold : ∀ vs, ol.data ≠ .fields vs := by
    obtain ⟨_, o, ho, hd⟩ := hff.mem (List.mem_filterMap.mpr ⟨e₀, List.mem_cons_self .., hf0⟩)
    rw [hol] at ho; cases ho; exact hd
  have hk₀ : e₀.scope.kind ≠ .module := hff.1
  have S₁ := Fm.startB (mu := [(Ll, ol)]) (outs := []) G kB hns hk (by
    intro p hp
    simp only [List.mem_cons, List.not_mem_nil, or_false] at hp
    subst hp
    exact ⟨hol, hLl⟩) (by simp) (fun _ q => nomatch q) (fun _ _ q => nomatch q)
  have kB₁ : Keeps B h₁ := fun b o e => hk _ _ (kB _ _ e)
  refine wpC_execs_cons ?_
  refine X_Assign_Name ?_
  obtain ⟨of, fd, hof, hfd⟩ := ob_of (fn_names w)
  refine X_Call_own0 (f := 174) (of := of) (fd := fd) ?_ (S₁.gdh.K _ _ hof) hfd ?_
  · intro Q' q
    exact nm_own S₁.gdh (own_names w) q
  refine names_spec ?_ ?_ B ?_
  · exact S₁.gdh
  · show A.depth + 1 < recursionLimit; omega
  intro nv h₂ tk₂ k₂ hnv
  have S₂ := S₁.based k₂ (ext_old kB₁ k₂) (fun _ _ e => of_ext e) (fun c q1 q2 => ext_none q1 q2) (fun _ q => (nomatch q))
  refine wpAny_storeName_local rfl S₂.st.ns fun h₃ hns₃ sb₃ => ?_
  have S₃ := S₂.store hns₃ (fun b o q e => sb₃.extBut b o q e)
  refine wpC_execs_cons ?_
  refine X_Assign_Name ?_
  refine wpC_of (wpAny_List ?_)
  refine wpAny_items_nil ?_
  refine ⟨Nat.zero_le _, ?_⟩
  have S₄ := S₃.new (none_size (fun _ _ e => e)) (fun q => (nomatch q)) (Heap.get?_push_size h₃ (o := lst [] 0) rfl) (fun b o e => Heap.get?_push_of_some _ e)
  refine wpAny_storeName_local rfl S₄.st.ns fun h₆ hns₆ sb₆ => ?_
  have S₆ := S₄.store hns₆ (fun b o q e => sb₆.extBut b o q e)
  dsimp only at S₆ ⊢
  generalize hrA0 : h₃.objs.size = rA at S₆ ⊢
  obtain ⟨gl, gi, rfl, hgL, hgA⟩ := hgp
  have hgz : gi.size = ps.length := by have := all2_len hgA; simpa using this.symm
  have kBE : Keeps B (ext B h₁ h₂) := ext_old kB₁ k₂
  refine wpC_execs_cons ?_
  refine X_For_enumOf hh ps.length (fun i B' m' mu' => ∃ vl nl, mu' = [(rA, lst vl nl), (Ll, ol)] ∧ m' "names" = some nv ∧ m' "pairs" = some (.ref gl) ∧ m' "middle" = some (.ref rA) ∧
    All2 B' ((midAt ps i).map nameP) vl ∧ vl.length ≤ i) (xA := gl) S₆ rfl (isL_keeps hgL fun b o e => S₆.st.keep _ _ (kBE _ _ e)) ⟨[], 0, rfl, rfl, rfl, rfl, .nil, Nat.zero_le _⟩ ?_ ?_ ?_
  · rintro i B' m' mu' h kB' _ ⟨hid, S'⟩
    exact ⟨gi, isL_keeps hgL fun b o e => S'.st.keep _ _ (kB' _ _ (kBE _ _ e)), hgz⟩
  · rintro i v B' m' mu' En oE It oI T tk0 h₁₀ tk₁₀ hi kB' ⟨vl, nl, rfl, m1, m2, m4, hvl, lvl⟩ S' ⟨items, hit, hsz, hv⟩ hT
    have kBB : Keeps B B' := fun b o e => kB' _ _ (kBE _ _ e)
    have hgL' : h₁₀.IsList gl gi := isL_keeps hgL fun b o e => S'.st.keep _ _ (kBB _ _ e)
    obtain rfl := isL_unique hit hgL'
    obtain ⟨P, hP, pv⟩ := all2_get' hgA (by simpa using hv)
    rw [List.getElem?_map] at hP
    obtain ⟨x, hx, rfl⟩ := Option.map_eq_some_iff.mp hP
    have hxk := hgo x (List.mem_of_getElem? hx)
    refine wpC_of ?_
    refine assignN hh hT (mono_pr x _ _ _ (fun b o e => S'.st.keep _ _ (kBB _ _ e)) pv) S'.st.ns rfl rfl rfl ?_ (fun h₁₁ tk₁₁ a c hn₁₁ k₁₁ => ?_)
    · rintro t rfl q
      obtain ⟨_, _, _, e, o, ho, _⟩ := pv
      cases e
      rw [q] at ho
      have := kBB _ _ ho
      rw [S'.st.off] at this; cases this
    have S₁₁ := S'.store hn₁₁ k₁₁
    have k₀ : Keeps B h₁₁ := fun b o e => S₁₁.st.keep _ _ (kBB _ _ e)
    have mono_p : ∀ P ∈ ps.map prP, Mono P := fun P hP => by obtain ⟨x, _, rfl⟩ := List.mem_map.mp hP; exact mono_pr x
    refine wpC_execs_cons ?_
    refine keep_turn (l₁ := [(En, oE), (It, oI)]) (l₂ := [(Ll, ol)]) (c1 := cnt (ps.take i) x.1) (c2 := cnt (ps.drop (i + 1)) x.1) (c := cnt (ps.take i) x.1 == cnt (ps.drop (i + 1)) x.1) (k := x.1) (f := x.2) S₁₁ m4 rfl rfl m1 (mono_names _ _ _ (fun b o e => kB' _ _ e) hnv) hxk.1 hxk.2 (by omega) ?_ ?_ ?_ ?_ rfl rfl rfl rfl rfl rfl
    · intro Q' q
      refine equals_call (ps := ps.take i) (k := x.1) S₁₁.gdh hh (by show A.depth + 1 < recursionLimit; omega) (by show A.units + 3 + 100 < cLine; omega) (by rw [List.length_take]; omega) S₁₁.st.ns rfl ?_ q rfl rfl rfl rfl
      exact slice_take S₁₁.st.ns m2 rfl (isL_keeps hgL k₀) (all2_keeps mono_p k₀ hgA) (by omega) rfl rfl rfl
    · intro h₁₂ tk₁₂ k₁₂ Q' q
      have S₁₂ := S₁₁.grow k₁₂
      refine equals_call (s := { s with heap := h₁₂, toks := tk₁₂ }) (ps := ps.drop (i + 1)) (k := x.1) S₁₂.gdh hh (by show A.depth + 1 < recursionLimit; omega) (by show A.units + 3 + 100 < cLine; omega) (by rw [List.length_drop]; omega) S₁₂.st.ns rfl ?_ q rfl rfl rfl rfl
      exact slice_drop (s := { s with heap := h₁₂, toks := tk₁₂ }) S₁₂.st.ns m2 rfl (isL_keeps hgL fun b o e => k₁₂ _ _ (k₀ _ _ e)) (all2_keeps mono_p (fun b o e => k₁₂ _ _ (k₀ _ _ e)) hgA) (by omega) rfl rfl rfl
    · intro t1 t2 s' Q' q
      refine eq_int ?_
      have e : ((cnt (ps.take i) x.1 : Int) == (cnt (ps.drop (i + 1)) x.1 : Int)) = (cnt (ps.take i) x.1 == cnt (ps.drop (i + 1)) x.1) := by
        rw [Bool.eq_iff_iff]; simp only [beq_iff_eq]; omega
      rw [e]; exact q
    · intro h₁₃ tk₁₃ vl' nl' hvl' S₁₃
      obtain ⟨t, rfl⟩ := hvl'
      refine wpC_execs_nil ?_
      refine ⟨B', _, _, h₁₃, tk₁₃, rfl, fun _ _ e => e, S₁₃, _, _, rfl, m1, m2, m4, ?_, ?_⟩
      · unfold midAt
        rw [hx]
        dsimp only
        cases cnt (ps.take i) x.1 == cnt (ps.drop (i + 1)) x.1 with
        | true =>
          simp only [if_true, List.map_append]
          exact all2_append hvl (.cons ⟨_, .str _ _⟩ .nil)
        | false =>
          simp only [Bool.false_eq_true, if_false]
          exact hvl
      · cases cnt (ps.take i) x.1 == cnt (ps.drop (i + 1)) x.1 with
        | true => simp only [if_true, List.length_append, List.length_cons, List.length_nil]; omega
        | false => simp only [Bool.false_eq_true, if_false]; omega
  · rintro B₃ m₃ mu₃ h₃₀ tk₃₀ kB₃ ⟨vl, nl, rfl, m1, m2, m4, hvl, lvl⟩ S₃₀
    have kB₃₀ : Keeps B B₃ := fun b o e => kB₃ _ _ (kBE _ _ e)
    have hrA := (S₃₀.st.mem (rA, lst vl nl) (by simp)).1
    have nd := S₃₀.st.nd
    simp only [List.map_cons, List.map_nil, List.nodup_cons, List.mem_cons, List.not_mem_nil, or_false, not_or] at nd
    have S₃p := S₃₀.perm (mu' := [(Ll, ol)]) (by simp) (by simp)
    have S₃₁ := S₃p.rebase
    have hrB : (calmer s.heap.objs.size [(Ll, ol)] [] h₃₀).get? rA = some (lst vl nl) := S₃p.calm_at hrA (S₃₀.st.mem (rA, lst vl nl) (by simp)).2.1 (by simp; exact nd.1) (fun q => (nomatch q))
    have kB₃₁ : Keeps B (calmer s.heap.objs.size [(Ll, ol)] [] h₃₀) := fun b o e => S₃p.calms _ _ (kB₃₀ _ _ e)
    clear S₃₀ S₃p
    dsimp only
    generalize calmer s.heap.objs.size [(Ll, ol)] [] h₃₀ = B₄ at S₃₁ hrB kB₃₁
    refine wpC_execs_cons ?_
    refine X_Assign_Name ?_
    obtain ⟨o2, f2, ho2, hf2⟩ := ob_of (fn_things w)
    refine X_Call_own (f := 179) (of := o2) (fd := f2) ?_ ?_ hf2
    · intro Q' q
      exact nm_own S₃₁.gdh (own_things w) q
    refine X_items_cons ?_
    refine wpC_of (nm_loc S₃₁.st.ns m2 ?_ rfl rfl)
    refine X_items_nil ?_
    refine ⟨S₃₁.gdh.K _ _ ho2, ?_⟩
    refine things_spec (ps := ps) ?_ ?_ ?_ ?_ ?_ ?_ B₄ ?_ ?_
    · exact S₃₁.gdh
    · exact hh
    · show A.depth + 1 + 1 < recursionLimit; omega
    · exact ⟨gl, gi, rfl, isL_keeps hgL fun b o e => S₃₁.st.keep _ _ (kB₃₁ _ _ e), all2_keeps (fun P hP => by obtain ⟨x, _, rfl⟩ := List.mem_map.mp hP; exact mono_pr x) (fun b o e => S₃₁.st.keep _ _ (kB₃₁ _ _ e)) hgA⟩
    · omega
    · exact hgo
    · exact S₃₁.st.keep
    intro h₃₂ tk₃₂ aA as an B₅ haA hasA kB₅ kG₅ k₃₂ naA nG₅ hn₅
    have S₃₂ := S₃₁.add' k₃₂ kB₅ kG₅ hn₅ (fun _ q => (nomatch q)) naA haA nG₅
    have kB₅₀ : Keeps B B₅ := fun b o e => kB₅ _ _ (kB₃₁ _ _ e)
    dsimp only
    refine wpAny_storeName_local rfl S₃₂.st.ns fun h₃₄ hns₃₄ sb₃₄ => ?_
    have S₃₄ := S₃₂.store hns₃₄ (fun b o q e => sb₃₄.extBut b o q e)
    dsimp only
    refine wpC_execs_cons ?_
    have maA := S₃₄.st.mem (aA, lst as an) (by simp)
    have mLl := S₃₄.st.mem (Ll, ol) (by simp)
    have nd₄ := S₃₄.st.nd
    simp only [List.map_cons, List.map_nil, List.nodup_cons, List.mem_cons, List.not_mem_nil, or_false, not_or] at nd₄
    have hfr' : (A.deeper (envF 18 "_law_one_list_holds" 215 214 s.heap.objs.size)).frames = some [envF 18 "_law_one_list_holds" 215 214 s.heap.objs.size, e₀] := Around.frames_deeper hfr
    have hff₄ : h₃₄.FunFrames B₅ [envF 18 "_law_one_list_holds" 215 214 s.heap.objs.size, e₀] := Heap.FunFrames.cons (fun q => absurd (show ScopeKind.function = ScopeKind.module from q) (by decide)) rfl S₃₄.st.ns S₃₄.st.off ⟨hk₀, ⟨Ll, ol, hf0, mLl.2.2, mLl.1, hold⟩, trivial⟩
    have houts : ([envF 18 "_law_one_list_holds" 215 214 s.heap.objs.size, e₀] : List Env).filterMap (·.frame) = [s.heap.objs.size, Ll] := by
      rw [List.filterMap_cons, List.filterMap_cons, hf0]; rfl
    refine X_Assign2 hh ?_
    obtain ⟨o3, f3, ho3, hf3⟩ := ob_of (fn_uld w)
    refine X_Call_own (f := 79) (of := o3) (fd := f3) ?_ ?_ hf3
    · intro Q' q
      exact nm_own S₃₄.gdh (own_uld w) q
    refine X_items_cons ?_
    refine wpC_of (nm_loc S₃₄.st.ns rfl ?_ rfl rfl)
    refine X_items_cons ?_
    refine wpC_of (nm_loc S₃₄.st.ns rfl ?_ rfl rfl)
    refine X_items_nil ?_
    refine ⟨S₃₄.gdh.K _ _ ho3, ?_⟩
    refine uld_spec1 (A := A.deeper (envF 18 "_law_one_list_holds" 215 214 s.heap.objs.size)) (envs := [envF 18 "_law_one_list_holds" 215 214 s.heap.objs.size, e₀]) (B := B₅) (rP := ps.reverse) S₃₄.st.gd S₃₄.st.keep hh (by show A.depth + 1 < recursionLimit; omega) (by show A.units + 3 + 110 < cLine; omega) hfr' hff₄ maA.1 maA.2.2 ?_ ?_ (by rw [List.length_reverse]; omega) ?_
    · rw [houts]
      simp only [List.mem_cons, List.not_mem_nil, or_false, not_or]
      exact ⟨maA.2.1, nd₄.1⟩
    · rw [List.reverse_reverse]; exact hasA
    rw [houts]
    intro h₃₅ tk₃₅ T mA ms mn an' hT hmA haA' hms kB₃₅ kin₃₅
    dsimp only
    have hns₃₅ := ns_kin S₃₄.st.ns kin₃₅ (by simp)
    obtain ⟨sl, hLl₃₅⟩ := kin₃₅ Ll (by simp) ol mLl.1
    refine ⟨T, _, _, _, rfl, hT, hns₃₅, fun h₃₆ tk₃₆ hns₃₆ k₃₆ => ?_⟩
    have hLo : ∀ {b : Addr} {o : Obj}, B₅.get? b = some o → b ≠ s.heap.objs.size := fun e q => by rw [q, S₃₄.st.off] at e; cases e
    have kB₃₆ : Keeps B₅ h₃₆ := fun b o e => k₃₆ b o (hLo e) (kB₃₅ _ _ e)
    have G₃₆ : Gd w h₃₆ := S₃₄.st.gd.keeps kB₃₆
    have hmA₆ := k₃₆ _ _ (ns_ne_list hns₃₅ hmA) hmA
    have haA₆ := k₃₆ _ _ maA.2.1 haA'
    have hLl₆ := k₃₆ _ _ mLl.2.1 hLl₃₅
    have hrA₆ : h₃₆.get? rA = some (lst vl nl) := kB₃₆ _ _ (kB₅ _ _ hrB)
    rw [List.length_reverse, law] at hms
    have hll := midAt_len ps ps.length
    refine wpC_execs_cons ?_
    refine X_Return ?_
    refine X_And3 ?_
    refine X_Compare1 ?_
    obtain ⟨o4, f4, ho4, hf4⟩ := ob_of (fn_written w)
    refine X_Call_own (f := 184) (of := o4) (fd := f4) ?_ ?_ hf4
    · intro Q' q
      exact nm_own G₃₆ (own_written w) q
    refine X_items_cons ?_
    refine wpC_of (nm_loc hns₃₆ rfl ?_ rfl rfl)
    refine X_items_nil ?_
    refine ⟨G₃₆.K _ _ ho4, ?_⟩
    refine written_spec (ps := (midAt ps ps.length).reverse) ?_ ?_ ?_ ?_ ?_ ⟨_, hmA₆, rfl, _, rfl⟩ ?_ ?_ ?_
    · exact G₃₆
    · exact hh
    · exact hg
    · show A.depth + 1 + 1 < recursionLimit; omega
    · show A.units + 3 + 130 < cLine; omega
    · exact keep_things kB₃₆ hms
    · rw [List.length_reverse]; omega
    intro h₃₇ tk₃₇ a1 ys1 nn1 ha1 hys1 k₃₇ _
    dsimp only
    refine wpC_of (slice_rev (hns₃₆.keeps k₃₇) m4 (k₃₇ _ _ hrA₆) (by omega) fun h₃₈ tk₃₈ a2 k₃₈ ha2 => ?_)
    have mono_nm : ∀ {l : List Pr}, ∀ P ∈ l.map nameP, Mono P := fun P hP => by obtain ⟨x, _, rfl⟩ := List.mem_map.mp hP; exact mono_Rd _
    refine eq_lists (l := (midAt ps ps.length).reverse) (P := nameP) (D := fun x => .str (nameOf x.1 x.2)) (fun x v q => q) (lay_names _) (fun x => by simp [PyData.depth]) (k₃₈ _ _ ha1) ha2 (all2_keeps mono_nm k₃₈ hys1) ?_ (by show A.units + 3 + 64 < cLine; omega) ?_
    · rw [List.map_reverse]
      exact all2_reverse (names_any hvl)
    refine wpAny_truthy_bool ?_
    simp only [if_true]
    have k₃₆₈ : Keeps h₃₆ h₃₈ := fun b o e => k₃₈ _ _ (k₃₇ _ _ e)
    have hns₃₈ := hns₃₆.keeps k₃₆₈
    refine X_Compare1 ?_
    refine wpC_of (nm_loc hns₃₈ rfl ?_ rfl rfl)
    refine wpC_of (nm_loc hns₃₈ rfl ?_ rfl rfl)
    refine is_null_null ?_
    refine wpAny_truthy_bool ?_
    simp only [if_true]
    refine X_Compare1 ?_
    refine wpC_of (nm_loc hns₃₈ rfl ?_ rfl rfl)
    refine wpC_of (wpAny_List ?_)
    refine wpAny_items_nil ?_
    refine ⟨Nat.zero_le _, ?_⟩
    have p9 : Keeps h₃₈ (h₃₈.push (lst [] 0)) := fun b o e => Heap.get?_push_of_some _ e
    refine eq_lists (l := ([] : List Pr)) (P := nameP) (D := fun x => .str (nameOf x.1 x.2)) (fun x v q => q) (lay_names _) (fun x => by simp [PyData.depth]) (p9 _ _ (k₃₆₈ _ _ haA₆)) (Heap.get?_push_size h₃₈ (o := lst [] 0) rfl) .nil .nil (by show A.units + 3 + 64 < cLine; omega) ?_
    exact h _ _ sl (fun b o e => p9 _ _ (k₃₆₈ _ _ (kB₃₆ _ _ (kB₅₀ _ _ e)))) (p9 _ _ (k₃₆₈ _ _ hLl₆))
end
end Mine
end

/-! part L1 -/
section
open PySem PySem.W PyProof.Rows PySem.Calls
set_option maxRecDepth 100000
namespace Mine
section
variable {b : Bool} {prog : Program} {w : World} {A : Around} {E : Value → Shared → Prop} {s : Shared} {R : Result → Shared → Prop} {env : Env}

/-- a name takes the list of a comprehension -/
theorem X_Assign_comp {x : Str} {px pos pos2 : Pos} {elt target iter : PySem.Expr} {scope : Scope} {Q : Flow → Shared → Prop}
    (h : wpC b (model prog w) A (comprehension (.ListComp elt [⟨target, iter, [], 0⟩] scope pos) scope env (firstIterPos [⟨target, iter, [], 0⟩] pos) (newList []) false (eval iter env) (some fun v => assignAll v [assign (.Name x px) env])) (fun _ => Q .next) E s)
    (hs : swapsWithSole [.Name x px] (.ListComp elt [⟨target, iter, [], 0⟩] scope pos) pos2.line env = pure true := by rfl) :
    wpC b (model prog w) A (exec (.Assign [.Name x px] (.ListComp elt [⟨target, iter, [], 0⟩] scope pos) pos2) env) Q E s := by
  rw [PyProof.Rows.exec_Assign]
  refine wpC_bind (wpC_standAt ?_)
  rw [hs]
  refine wpC_bind (wpC_pure ?_)
  rw [if_pos rfl]
  refine wpC_bind ?_
  show wpC b _ A (comprehension (.ListComp elt [⟨target, iter, [], 0⟩] scope pos) scope env (firstIterPos [⟨target, iter, [], 0⟩] pos) (newList []) false (eval iter env) (some fun v => assignAll v [assign (.Name x px) env]) >>= fun _ => pure ()) _ E s
  exact wpC_bind (wpC_mono h (fun _ _ q => wpC_pure (wpC_pure q)) fun _ _ e => e)

theorem sum_at {l : Addr} {vs : List Value} {ns : List Int} {Q : Value → Shared → Prop} (hh : A.handled = none) (hl : s.heap.IsList l vs.toArray) (hi : IntsAre vs ns)
    (h : ∀ h' tk z t, Keeps s.heap h' → Q (.int z t) { s with heap := h', toks := tk }) : wpAny (model prog w) A (call (.builtin "sum") [.ref l]) Q E s := by
  obtain ⟨xs, hx⟩ := hi.allInts.items
  rw [hx] at hl
  exact sum_intListG hh hl fun h' tk t' hk => h h' tk _ t' hk
end
end Mine
end

/-! part L2 -/
section
open PySem PySem.W PyProof.Rows PySem.Calls
set_option maxRecDepth 100000
namespace Mine
theorem bi_sum (w : World) : nsIn (KF w) mainGlobals "sum" = some none := rfl
theorem bi_min (w : World) : nsIn (KF w) mainGlobals "min" = some none := rfl
abbrev cellsL (L : Addr) : List (Str × Addr) := cellsFrom (L + 1) (scopeOf (stmtAt 19)).names []
abbrev envL (L : Addr) : Env := envX "law" (scopeOf (stmtAt 19)) L 220 (.ref 219) (cellsL L)
def nthStmt (i j : Nat) : Stmt := ((bodyOf (stmtAt i))[j]?).getD (.Pass ⟨0, 0, 0, 0⟩)
section
variable {b : Bool} {w : World} {A : Around} {E : Value → Shared → Prop} {s : Shared} {R : Result → Shared → Prop} {env : Env}

theorem sum_slice {q1 q2 q3 q4 q5 q6 q7 : Pos} {l : Addr} {vs : List Value} {ns : List Int} {i : Nat} {ti : Tok} {c : Addr} {o : Obj} {m : Str → Option Value} {Q : Value → Shared → Prop} (G : Gd w s.heap) (hh : A.handled = none)
    (hn : s.heap.Ns env.locals m) (hc : env.cells.lookup ("script" : Str) = some c) (ho : s.heap.get? c = some o) (hd : o.data = .cell (some (.ref l))) (mp : m "place" = some (.int (i : Int) ti)) (hl : s.heap.IsList l vs.toArray) (hi : IntsAre vs ns) (hz : vs.length ≤ 1000)
    (h : ∀ h' tk z t, Keeps s.heap h' → Q (.int z t) { s with heap := h', toks := tk })
    (hk : env.scope.kind = .function) (ks : env.kindOf "script" = some .cell) (kp : env.kindOf "place" = some .local) (ku : env.kindOf "sum" = some .globalImplicit) (hg : env.globals = mainGlobals) (hb : env.builtins = builtinsNs) :
    wpC b (model prog w) A (eval (.Call (.Name "sum" q1) [.Subscript (.Name "script" q2) (.Slice (some (.Name "place" q3)) none (some (.Constant (.int 12) 0 q4)) q5) q6] [] q7) env) Q E s := by
  refine X_Call_mach (f := .builtin "sum") rfl ?_ ?_
  · intro Q' q
    exact nm_bi G (bi_sum w) rfl (by decide) q hk ku hg hb
  refine X_items_cons ?_
  refine wpC_of ?_
  refine wpAny_Subscript_Slice_step (T := "list") list_getitem_lookup ?_
  refine nm_cell hc ho hd ?_ hk ks
  refine wpAny_Slice ?_
  rw [evalPart_some]
  refine nm_loc hn mp ?_ hk kp
  rw [evalPart_none]
  refine wpAny_pure ?_
  rw [evalPart_some]
  refine wpAny_Constant_int ?_
  have p1 : ∀ (H : Heap) (o : Obj), Keeps H (H.push o) := fun H o b x e => Heap.get?_push_of_some _ e
  refine ⟨(isL_keeps hl (p1 _ _)).typeIs, wpAny_getItem_list_slice (isL_keeps hl (p1 _ _)) (Heap.IsSliceOf.new ..) (.int _ _) .none (.int _ _) (by decide) ?_ (by rw [sizeLine_eq]; simp; omega)⟩
  refine X_items_nil ?_
  refine wpC_of ?_
  refine sum_at (vs := (slicePick vs.toArray (some (i : Int)) none (some 12)).toList) hh ?_ (hi.pick (some (i : Int)) none (some 12)) fun h' tk z t k => ?_
  · rw [Array.toArray_toList]
    exact ⟨_, Heap.get?_push_size _ rfl, rfl, _, rfl⟩
  · exact h h' tk z t fun b o e => k _ _ (p1 _ _ _ _ (p1 _ _ _ _ e))

set_option maxHeartbeats 4000000 in
/-- the first statement -/
theorem drawn_stmt {L c l : Addr} {o : Obj} {vs : List Value} {ns : List Int} {m : Str → Option Value} {Q : Flow → Shared → Prop} (G : Gd w s.heap) (hh : A.handled = none) (hn : s.heap.Ns L m)
    (hc : (cellsL L).lookup ("script" : Str) = some c) (hcL : c ≠ L) (ho : s.heap.get? c = some o) (hd : o.data = .cell (some (.ref l))) (hl : s.heap.IsList l vs.toArray) (hi : IntsAre vs ns) (hz : vs.length ≤ 63)
    (h : ∀ h' tk a ys nn ms, h'.get? a = some (lst ys nn) → s.heap.get? a = none → IntsAre ys ms → ys.length ≤ 12 → h'.Ns L (fun z => if z = "drawn" then some (.ref a) else m z) → (∀ b o, b ≠ L → s.heap.get? b = some o → h'.get? b = some o) → Q .next { s with heap := h', toks := tk }) :
    wpC b (model prog w) A (exec (nthStmt 19 0) (envL L)) Q E s := by
  refine X_Assign_comp ?_
  refine X_comprehension (by decide) rfl (by decide) rfl (by decide) ?_
  refine X_Call_mach (f := .type "range") rfl ?_ ?_
  · intro Q' q
    exact nm_bi G (bi_range w) rfl (by decide) q
  refine X_items_cons ?_
  refine X_Call_mach (f := .builtin "min") rfl ?_ ?_
  · intro Q' q
    exact nm_bi G (bi_min w) rfl (by decide) q
  refine X_items_cons ?_
  refine X_Call_mach (f := .builtin "len") rfl ?_ ?_
  · intro Q' q
    exact nm_bi G (bi_len w) rfl (by decide) q
  refine X_items_cons ?_
  refine wpC_of (nm_cell hc ho hd ?_ rfl rfl)
  refine X_items_nil ?_
  refine wpC_of (call_len_list hl (by simp; omega) ?_)
  refine X_items_cons ?_
  refine wpC_of (wpAny_Constant_int ?_)
  refine X_items_nil ?_
  refine wpC_of (min_two_ints hh fun h₁ tk₁ k₁ => ?_)
  dsimp only
  obtain ⟨N, hN, tN, e⟩ : ∃ N : Nat, N ≤ 12 ∧ ∃ t, (if (12 : Int) < (vs.toArray.size : Int) then Value.int 12 (s.toks + 1 + 1) else .int (vs.toArray.size : Int) (s.toks + 1)) = .int (N : Int) t := by
    by_cases q : (12 : Int) < (vs.toArray.size : Int)
    · rw [if_pos q]; exact ⟨12, Nat.le_refl _, _, rfl⟩
    · rw [if_neg q]; exact ⟨vs.toArray.size, by omega, _, rfl⟩
  rw [e]
  refine X_items_nil ?_
  refine wpC_of (call_range_1 ?_)
  dsimp only
  have p1 : ∀ (H : Heap) (o : Obj), Keeps H (H.push o) := fun H o b x e => Heap.get?_push_of_some _ e
  have hsz : Builtin.Range.rangeSize (0 : Int) (N : Int) 1 = (N : Int) := by
    unfold Builtin.Range.rangeSize
    simp
    omega
  refine wpAny_pyIter_range (a := 0) (b := (N : Int)) (c := 1) (Heap.get?_push_size _ rfl) ?_ ?_
  · unfold Builtin.Range.small
    rw [hsz]
    unfold Builtin.Range.rangeFitsLong
    simp
    omega
  rw [hsz]
  dsimp only
  generalize hH1 : h₁.push { cls := .type "range", data := .fields #[.int 0 tk₁, .int N tN, .int 1 (tk₁ + 1)] } = H1
  have kH1 : Keeps h₁ H1 := hH1 ▸ p1 _ _
  have zH1 : H1.objs.size = h₁.objs.size + 1 := by rw [← hH1, Heap.size_push]
  generalize hH2 : H1.push { cls := .type "range_iterator", data := .fields #[rawInt 0, rawInt N, rawInt 1] } = H2
  have kH2 : Keeps H1 H2 := hH2 ▸ p1 _ _
  have zH2 : H2.objs.size = h₁.objs.size + 2 := by rw [← hH2, Heap.size_push, zH1]
  have hit : IsRangeIter H2 H1.objs.size 0 (N : Int) 1 := by rw [← hH2]; exact Heap.get?_push_size _ rfl
  have k12 : Keeps h₁ H2 := fun b o e => kH2 _ _ (kH1 _ _ e)
  have low : ∀ {b : Addr} {o : Obj}, h₁.get? b = some o → b < h₁.objs.size := fun e => Heap.lt_size e
  refine ⟨H1.objs.size, [H1.objs.size], [H1.objs.size], N, _, _, fun i ys h => Keeps h₁ h ∧ (∃ ms, IntsAre ys ms) ∧ ys.length = i, rfl, ⟨Walks.range hh _ 0 1 N, by rw [sizeLine_eq]; omega, ?_, ?_, ?_, ?_, ?_, ?_⟩, ?_⟩
  · show IsRangeIter H2 H1.objs.size (0 + ((0 : Nat) : Int) * 1) ((N : Int) - ((0 : Nat) : Int)) 1
    simpa using hit
  · intro b hb
    rw [List.mem_singleton.mp hb]
    dsimp only
    rw [zH1, zH2]
    exact Nat.lt_succ_self _
  · intro i v s₁ Q' E' _ q
    exact wpAny_of_eq (rfl : letOwnedTupleGo (.Name _ _) _ _ = pure ()) q
  · intro h' k
    exact ⟨fun b o e => k _ _ (k12 _ _ e), ⟨_, .nil⟩, rfl⟩
  · rintro i ys h h' hk ⟨q1, q2, q3⟩
    refine ⟨fun b o e => hk b o ?_ ?_ ?_ (q1 _ _ e), q2, q3⟩
    · dsimp only; rw [zH2]; exact Nat.ne_of_lt (Nat.lt_of_lt_of_le (low e) (Nat.le_add_right _ _))
    · dsimp only; rw [zH2]; exact Nat.ne_of_lt (Nat.lt_of_lt_of_le (low e) (Nat.le_add_right h₁.objs.size 3))
    · rw [List.mem_singleton, zH1]; exact Nat.ne_of_lt (Nat.lt_of_lt_of_le (low e) (Nat.le_add_right _ _))
  · rintro i v ys m₁ s₁ hi' ⟨t, rfl⟩ ⟨q1, q2, q3⟩ hN hB ⟨h₃, tk₃, rfl⟩ hx
    dsimp only at hN q1 ⊢
    refine wpC_of ?_
    refine wpAny_assign_Name (wpAny_storeName_local rfl hN fun h₄ hn₄ sb₄ => ?_)
    dsimp only
    have k₁₄ : Keeps h₁ h₄ := fun b o e => sb₄.extBut b o (by show b ≠ H2.objs.size + 1; rw [zH2]; exact Nat.ne_of_lt (Nat.lt_of_lt_of_le (low e) (Nat.le_add_right h₁.objs.size 3))) (q1 _ _ e)
    have ki : ((0 : Int) + (i : Int) * 1) = (i : Int) := by omega
    refine sum_slice (i := i) (l := l) (vs := vs) (ns := ns) (c := c) (o := o) ((G.keeps k₁).keeps k₁₄) hh hn₄ ?_ (k₁₄ _ _ (k₁ _ _ ho)) hd (by simp only [if_true]; rw [ki]) (isL_keeps hl fun b o e => k₁₄ _ _ (k₁ _ _ e)) hi (by omega) ?_ rfl rfl rfl rfl rfl rfl
    · exact hc
    · intro h₅ tk₅ z t' k₅
      refine ⟨⟨h₅, tk₅, rfl⟩, fun b o q e => k₅ _ _ (sb₄.extBut b o q e), ⟨_, hn₄.keeps k₅⟩, fun b o e => k₅ _ _ (k₁₄ _ _ e), ?_, ?_⟩
      · obtain ⟨ms, q2⟩ := q2
        exact ⟨_, IntsAre.append q2 (.cons z t' .nil)⟩
      · simp [q3]
  · intro h₃ tk₃ ys nn hD ⟨q1, ⟨ms, q2⟩, q3⟩ hk₃
    intro m' hm'
    show wpAny _ _ (assign (.Name "drawn" _) (envL L) (.ref H2.objs.size)) _ _ _
    have hn₁ : h₁.Ns L m := hn.keeps k₁
    have hL : L < h₁.objs.size := let ⟨_, _, _, e, _⟩ := hn₁; low e
    refine wpAny_assign_Name (wpAny_storeName_local rfl (hn₁.keeps q1) fun h₄ hn₄ sb₄ => ?_)
    have hCL : H2.objs.size + 1 ≠ L := by rw [zH2]; exact Nat.ne_of_gt (Nat.lt_of_lt_of_le hL (Nat.le_add_right h₁.objs.size 3))
    have hDL : H2.objs.size ≠ L := by rw [zH2]; exact Nat.ne_of_gt (Nat.lt_of_lt_of_le hL (Nat.le_add_right h₁.objs.size 2))
    refine ⟨⟨m', Heap.Ns.at' hm' fun o e => sb₄.extBut _ o hCL e⟩, fun h₅ sb₅ => ?_⟩
    have k₅ : ∀ b o, b ≠ L → s.heap.get? b = some o → h₅.get? b = some o := fun b o q e => by
      have e₁ := k₁ _ _ e
      refine sb₅.extBut b o ?_ (sb₄.extBut b o q (q1 _ _ e₁))
      show b ≠ H2.objs.size + 1
      rw [zH2]; exact Nat.ne_of_lt (Nat.lt_of_lt_of_le (low e₁) (Nat.le_add_right h₁.objs.size 3))
    refine h h₅ _ H2.objs.size ys nn ms (sb₅.extBut _ _ (Nat.ne_of_lt (Nat.lt_succ_self _)) (sb₄.extBut _ _ hDL hD)) ?_ q2 (by omega) (Heap.Ns.at' hn₄ fun o e => sb₅.extBut _ o hCL.symm e) k₅
    cases e : s.heap.get? H2.objs.size with
    | none => rfl
    | some o' =>
      have := low (k₁ _ _ e)
      rw [zH2] at this
      exact absurd (Nat.lt_of_le_of_lt (Nat.le_add_right h₁.objs.size 2) this) (Nat.lt_irrefl _)
end
end Mine
end

/-! part L3 -/
section
open PySem PySem.W PyProof.Rows PySem.Calls
set_option maxRecDepth 100000
namespace Mine
theorem fm_nat (n : Int) (b : Nat) (hb : 0 < b) : ∃ k : Nat, k < b ∧ n.fmod (b : Int) = (k : Int) := by
  have h1 := Int.fmod_nonneg_of_pos n (show (0 : Int) < (b : Int) by omega)
  have h2 := Int.fmod_lt_of_pos n (show (0 : Int) < (b : Int) by omega)
  exact ⟨(n.fmod b).toNat, by omega, by omega⟩
section
variable {b : Bool} {w : World} {A : Around} {E : Value → Shared → Prop} {s : Shared} {R : Result → Shared → Prop} {env : Env}
theorem own_counts (w : World) : nsIn (KF w) mainGlobals "_law_counts_hold" = some (some (.ref 201)) := rfl
theorem own_copies (w : World) : nsIn (KF w) mainGlobals "_law_copies_hold" = some (some (.ref 208)) := rfl
theorem own_one (w : World) : nsIn (KF w) mainGlobals "_law_one_list_holds" = some (some (.ref 215)) := rfl

/-- `number // d % e` -/
theorem div_mod {q1 q2 q3 q4 q5 : Pos} {d e : Nat} {n : Int} {t : Tok} {m : Str → Option Value} {Q : Value → Shared → Prop} (hn : s.heap.Ns env.locals m) (mn : m "number" = some (.int n t)) (hd : 0 < d) (hd2 : d < 1000) (he : 0 < e)
    (h : ∀ tk u, Q (.int ((n.fdiv (d : Int)).fmod (e : Int)) u) { s with toks := tk })
    (hk : env.scope.kind = .function) (kn : env.kindOf "number" = some .local) :
    wpAny (model prog w) A (eval (.BinOp (.BinOp (.Name "number" q1) .FloorDiv (.Constant (.int (d : Int)) 0 q2) q3) .Mod (.Constant (.int (e : Int)) 0 q4) q5) env) Q E s := by
  refine wpAny_BinOp ?_
  refine wpAny_BinOp ?_
  refine nm_loc hn mn ?_ hk kn
  refine wpAny_Constant_int ?_
  refine PySem.AutoIntOps.floordiv_1 (by simp; omega) (by rw [PyProof.noPylong_small (by omega)]; exact Bool.false_ne_true) ?_
  refine wpAny_Constant_int ?_
  refine mod_int (by omega) ?_
  exact h _ _

/-- `if where != c: X.append((kind, e2))` -/
theorem pair_turn {X : Str} {e2 : PySem.Expr} {q1 q2 q3 q4 q5 q6 q7 q8 q9 q11 : Pos} {kk : Nat} {Q : Flow → Shared → Prop} {B : Heap} {m : Str → Option Value} {l₁ l₂ : List (Addr × Obj)} {xA : Addr} {vl : List Value} {nl k f : Nat} {wh c : Int} {t1 t2 : Tok}
    (S : Fm w B env.locals m (l₁ ++ (xA, lst vl nl) :: l₂) [] s.heap) (mX : m X = some (.ref xA)) (mk : m "kind" = some (.int (k : Int) t1)) (mw : m "where" = some (.int wh t2)) (hz : vl.length ≤ 1000)
    (he2 : ∀ (tk : Nat) (Q' : Value → Shared → Prop), (∀ t tk', Q' (.int (f : Int) t) { s with toks := tk' }) → wpAny (model prog w) A (eval e2 env) Q' E { s with toks := tk })
    (h : ∀ h' tk vl' nl' B', Keeps B B' → (vl' = vl ∨ ∃ T, vl' = vl ++ [T] ∧ prP (k, f) B' T) → Fm w B' env.locals m (l₁ ++ (xA, lst vl' nl') :: l₂) [] h' → Q .next { s with heap := h', toks := tk })
    (hk : env.scope.kind = .function) (kX : env.kindOf X = some .local) (kk' : env.kindOf "kind" = some .local) (kw : env.kindOf "where" = some .local) (dX : (X == ("__debug__" : Str)) = false := by decide)
    (hi : interactive env = false := by rfl) (hs2 : swapsWith (.Call (.Attribute (.Name X q3) "append" q4) [.Tuple [.Name "kind" q5, e2] kk q6] [] q7) none q8.line env = pure false := by rfl)
    (hfew : ((backTo q7 (starEach [.Tuple [.Name "kind" q5, e2] kk q6] env)).all (fun x => !x.1) && (backToKw q7 (keywordEach [] env)).all (fun x => x.1.isSome) && decide ([PySem.Expr.Tuple [.Name "kind" q5, e2] kk q6].length + ([] : List Keyword).length + (if ([] : List Keyword).isEmpty then 0 else 1) < 30)) = true := by rfl)
    (hline : (q4.endLine == q7.line) = true := by rfl) (he : starEach [PySem.Expr.Tuple [.Name "kind" q5, e2] kk q6] env = (false, eval (.Tuple [.Name "kind" q5, e2] kk q6) env) :: starEach [] env := by rfl)
    (he1 : starEach [PySem.Expr.Name "kind" q5, e2] env = (false, eval (.Name "kind" q5) env) :: starEach [e2] env := by rfl) (he3 : starEach [e2] env = (false, eval e2 env) :: starEach [] env := by rfl) :
    wpC b (model prog w) A (exec (.If (.Compare (.Name "where" q1) [.NotEq] [.Constant (.int c) 0 q2] q9) [.Expr (.Call (.Attribute (.Name X q3) "append" q4) [.Tuple [.Name "kind" q5, e2] kk q6] [] q7) q8] [] q11) env) Q E s := by
  refine X_If ?_
  refine X_isTrue_Compare1 ?_
  refine wpC_of (nm_loc S.st.ns mw ?_ hk kw)
  refine wpC_of (wpAny_Constant_int ?_)
  refine ne_int ?_
  refine wpAny_truthy_bool ?_
  cases hc : wh != c with
  | false =>
    simp only [Bool.false_eq_true, if_false]
    exact wpC_execs_nil (h s.heap _ vl nl B (fun _ _ e => e) (.inl rfl) S)
  | true =>
    simp only [if_true]
    have hx := (S.st.mem (xA, lst vl nl) (by simp)).1
    refine wpC_execs_cons ?_
    refine wpC_of ?_
    refine X_append (s := { s with toks := _ }) S.st.ns mX hx hz ?_ hk kX dX hi hs2 hfew hline he
    refine wpAny_Tuple ?_
    refine wpAny_items_cons ?_ he1
    refine nm_loc S.st.ns mk ?_ hk kk'
    refine wpAny_items_cons ?_ he3
    refine he2 _ _ fun t tk' => ?_
    refine wpAny_items_nil ?_
    refine ⟨by show (2 : Nat) ≤ sizeLine; rw [sizeLine_eq]; omega, ?_⟩
    have p3 : Keeps s.heap (s.heap.push { cls := .type "tuple", data := .seq [Value.int k t1, .int f t].toArray }) := fun b o e => Heap.get?_push_of_some _ e
    refine ⟨p3 _ _ hx, fun h₃ hq₃ k₃ => ?_⟩
    have S₃ := (S.grow p3).upd hq₃ k₃
    have nz : s.heap.get? s.heap.objs.size = none := none_size fun _ _ e => e
    have hxT : s.heap.objs.size ≠ xA := fun q => by rw [← q, nz] at hx; cases hx
    have hT : h₃.get? s.heap.objs.size = some { cls := .type "tuple", data := .seq [Value.int k t1, .int f t].toArray } := k₃ _ _ hxT (Heap.get?_push_size _ rfl)
    have hTb := S₃.calm_at hT (fun q => by
      obtain ⟨o', _, _, e, _⟩ := S.st.ns
      rw [← q, nz] at e; cases e) (fun q => by
      have q' : s.heap.objs.size ∈ (l₁ ++ (xA, lst vl nl) :: l₂).map (·.1) := by simpa using q
      obtain ⟨p, hp, e⟩ := List.mem_map.mp q'
      have := (S.st.mem p hp).1
      rw [e, nz] at this; cases this) (fun q => (nomatch q))
    exact wpC_execs_nil (h h₃ _ _ _ _ S₃.calms (.inr ⟨_, rfl, _, t1, t, rfl, _, hTb, rfl, _, rfl⟩) S₃.rebase)
end
end Mine
end

/-! part L4 -/
section
open PySem PySem.W PyProof.Rows PySem.Calls
set_option maxRecDepth 100000
namespace Mine
theorem Fm.fresh {w : World} {B h : Heap} {L : Addr} {m : Str → Option Value} (G : Gd w B) (k : Keeps B h) (hn : h.Ns L m) (off : B.get? L = none) : Fm w (calmer L [] [] h) L m [] [] h :=
  Fm.rebase (B := B) ⟨⟨G, k, hn, off, (fun _ q => nomatch q), List.nodup_nil⟩, (fun _ q => nomatch q), (fun q => nomatch q), (fun _ q => nomatch q)⟩

/-- what the pairs of a script must answer -/
structure Laws (got want : List Pr) : Prop where
  l1 : (uldGo want.reverse got []).1 = (lackAt got want want.length).reverse
  l2 : (uldGo want.reverse got []).2 = overAt got want got.length
  l3 : oneGo (got ++ want).length (got ++ want).reverse [] = (midAt (got ++ want) (got ++ want).length).reverse

section
variable {b : Bool} {w : World} {A : Around} {E : Value → Shared → Prop} {s : Shared} {R : Result → Shared → Prop} {env : Env}

set_option maxHeartbeats 4000000 in
theorem law_spec (laws : ∀ got want : List Pr, Laws got want) (G : Gd w s.heap) (hh : A.handled = none) (hg : A.guards = some []) (hf : A.frames = some []) (hr : A.depth + 6 < recursionLimit) (hu : A.units + 170 < cLine) {l : Addr} {vs : List Value} {ns : List Int} (hl : s.heap.IsList l vs.toArray) (hi : IntsAre vs ns) (hz : vs.length ≤ 63)
    (h : ∀ h' tk, Keeps s.heap h' → R (.ok (.ret (.bool true))) { s with heap := h', toks := tk }) : codeC true (model prog w) A (.call (.ref 220) ⟨[.ref l], []⟩) R s := by
  refine code_fnc (binds := [("script", .ref l)]) G (fn_law w) (by omega) (fun _ _ => BindsTo.of_eq (by rfl)) ?_ ?_
  · intro x hx
    simp only [List.mem_cons, List.not_mem_nil, or_false] at hx
    subst hx
    exact .inr ⟨rfl, rfl⟩
  intro h₁ tk hns hc hlt hk
  obtain ⟨c, hcc⟩ : ∃ c, (cellsL s.heap.objs.size).lookup ("script" : Str) = some c := ⟨_, rfl⟩
  obtain ⟨oc, hoc, hdc⟩ := hc _ _ hcc
  have hcL : c ≠ s.heap.objs.size := Nat.ne_of_gt (hlt _ _ (mem_lookup hcc))
  have G₁ := G.keeps hk
  have hL0 : s.heap.get? s.heap.objs.size = none := none_size fun _ _ e => e
  refine wpC_execs_cons ?_
  refine drawn_stmt (L := s.heap.objs.size) (c := c) (l := l) (o := oc) (vs := vs) (ns := ns) G₁ hh hns hcc hcL hoc hdc (isL_keeps hl hk) hi hz ?_
  intro h₂ tk₂ D ys nn ms hD hDn hys lys hns₂ k₂
  dsimp only
  have k₀₂ : Keeps s.heap h₂ := fun b o e => k₂ b o (fun q => by rw [q, hL0] at e; cases e) (hk _ _ e)
  have S₂ := Fm.fresh G k₀₂ hns₂ hL0
  have kC₂ : Keeps s.heap (calmer s.heap.objs.size [] [] h₂) := fun b o e => hideAll_get _ (k₀₂ _ _ e) (by simp; rintro rfl; rw [hL0] at e; cases e)
  have hDB : (calmer s.heap.objs.size [] [] h₂).get? D = some (lst ys nn) := S₂.calm_at hD (ns_ne_list hns₂ hD) (by simp) (by simp)
  generalize calmer s.heap.objs.size [] [] h₂ = C₂ at S₂ kC₂ hDB
  refine wpC_execs_cons ?_
  refine X_two_lists hh S₂ (fun _ q => (nomatch q)) ?_
  intro h₃ tk₃ rA qA S₃ nr nq k₃
  dsimp only
  refine wpC_execs_cons ?_
  refine X_For_Fm hh (fun i B m mu => ∃ gv wv gn wn gp wp, mu = [(qA, lst wv wn), (rA, lst gv gn)] ∧ m "got" = some (.ref rA) ∧ m "want" = some (.ref qA) ∧ All2 B (gp.map prP) gv ∧ All2 B (wp.map prP) wv ∧ gp.length ≤ i ∧ wp.length ≤ i ∧ PairsOk gp ∧ PairsOk wp) ?_
  refine wpC_of (nm_loc S₃.st.ns rfl ?_ rfl rfl)
  refine ⟨D, ys.toArray, C₂, _, _, rfl, ⟨_, hDB, rfl, _, rfl⟩, S₃, ⟨[], [], 0, 0, [], [], rfl, rfl, rfl, .nil, .nil, Nat.zero_le _, Nat.zero_le _, (fun _ q => nomatch q), (fun _ q => nomatch q)⟩, ?_, ?_⟩
  · rintro i v B' m' mu' It o hp tkp hi' kB ⟨gv, wv, gn, wn, gp, wp, rfl, m1, m2, hgv, hwv, lg, lw, og, ow⟩ S
    obtain ⟨n, t, rfl⟩ : ∃ n t, v = Value.int n t := by
      have := hys.allInts v (by
        rw [Array.getElem?_eq_some_iff] at hi'
        obtain ⟨q1, q2⟩ := hi'
        exact q2 ▸ Array.getElem_mem q1)
      exact this
    have hi2 : i < ys.length := by
      have := (Array.getElem?_eq_some_iff.mp hi').1
      simpa using this
    refine wpC_of ?_
    refine wpAny_assign_Name (wpAny_storeName_local rfl S.st.ns fun h₄ hns₄ sb₄ => ?_)
    have S₄ := S.store hns₄ (fun b o q e => sb₄.extBut b o q e)
    dsimp only
    refine wpC_execs_cons ?_
    refine X_Assign3_sw hh ?_
    refine X_Tuple ?_
    refine X_items_cons ?_
    refine wpC_of ?_
    refine wpAny_BinOp ?_
    refine nm_loc S₄.st.ns rfl ?_ rfl rfl
    refine wpAny_Constant_int ?_
    refine mod_int (by decide) ?_
    refine X_items_cons ?_
    refine wpC_of (div_mod (d := 8) (e := 2) S₄.st.ns rfl (by decide) (by decide) (by decide) (fun tk5 u5 => ?_) rfl rfl)
    refine X_items_cons ?_
    refine wpC_of (div_mod (d := 16) (e := 3) (s := { s with heap := h₄, toks := tk5 }) S₄.st.ns rfl (by decide) (by decide) (by decide) (fun tk6 u6 => ?_) rfl rfl)
    refine X_items_nil ?_
    refine ⟨by show (3 : Nat) ≤ sizeLine; rw [sizeLine_eq]; omega, ?_⟩
    refine ⟨_, _, _, _, _, rfl, ⟨_, Heap.get?_push_size _ rfl, rfl, _, rfl⟩, (S₄.grow fun b o e => Heap.get?_push_of_some _ e).st.ns, ?_⟩
    intro h₅ tk₅ hns₅ k₅
    have S₅ := (S₄.grow fun b o e => Heap.get?_push_of_some _ e).store hns₅ k₅
    dsimp only
    obtain ⟨k, hk8, ek⟩ := fm_nat n 8 (by decide)
    obtain ⟨f, hf2, ef⟩ := fm_nat (n.fdiv 8) 2 (by decide)
    have lgv : gv.length ≤ i := by have := all2_len hgv; rw [List.length_map] at this; omega
    have lwv : wv.length ≤ i := by have := all2_len hwv; rw [List.length_map] at this; omega
    refine wpC_execs_cons ?_
    refine pair_turn (X := "got") (l₁ := [(It, o), (qA, lst wv wn)]) (l₂ := []) (k := k) (f := f) (wh := (n.fdiv 16).fmod 3) S₅ m1 (by rw [← ek]; rfl) rfl (by omega) ?_ ?_ rfl rfl rfl rfl
    · intro tk Q' q
      refine nm_loc S₅.st.ns (v := .int (f : Int) u5) (by rw [← ef]; rfl) (q _ _) rfl rfl
    intro h₆ tk₆ gv' gn' B₆ kB₆ hcase S₆
    dsimp only
    refine wpC_execs_cons ?_
    refine pair_turn (X := "want") (l₁ := [(It, o)]) (l₂ := [(rA, lst gv' gn')]) (k := k) (f := 1 - f) (wh := (n.fdiv 16).fmod 3) S₆ m2 (by rw [← ek]; rfl) rfl (by omega) ?_ ?_ rfl rfl rfl rfl
    · intro tk Q' q
      refine wpAny_BinOp ?_
      refine wpAny_Constant_int ?_
      refine nm_loc S₆.st.ns (v := .int (f : Int) u5) (by rw [← ef]; rfl) ?_ rfl rfl
      refine sub_int ?_
      have e1 : (1 : Int) - (f : Int) = ((1 - f : Nat) : Int) := by omega
      rw [e1]
      exact q _ _
    intro h₇ tk₇ wv' wn' B₇ kB₇ hcase₂ S₇
    refine wpC_execs_nil ?_
    have kB67 : Keeps B' B₇ := fun b o e => kB₇ _ _ (kB₆ _ _ e)
    have mp : ∀ {ps : List Pr} {B : Heap}, ∀ P ∈ ps.map prP, Mono P := fun P hP => by obtain ⟨x, _, rfl⟩ := List.mem_map.mp hP; exact mono_pr x
    obtain ⟨gp', q1, q2, q3⟩ : ∃ gp', All2 B₇ (gp'.map prP) gv' ∧ gp'.length ≤ i + 1 ∧ PairsOk gp' := by
      rcases hcase with rfl | ⟨T, rfl, hT⟩
      · exact ⟨gp, all2_keeps (mp (B := B')) kB67 hgv, by omega, og⟩
      · refine ⟨gp ++ [(k, f)], ?_, by rw [List.length_append, List.length_cons, List.length_nil]; omega, fun x hx => ?_⟩
        · rw [List.map_append]
          exact all2_append (all2_keeps (mp (B := B')) kB67 hgv) (.cons (mono_pr _ _ _ _ kB₇ hT) .nil)
        · rcases List.mem_append.mp hx with hx | hx
          · exact og x hx
          · rw [List.mem_singleton.mp hx]; exact ⟨hk8, hf2⟩
    obtain ⟨wp', r1, r2, r3⟩ : ∃ wp', All2 B₇ (wp'.map prP) wv' ∧ wp'.length ≤ i + 1 ∧ PairsOk wp' := by
      rcases hcase₂ with rfl | ⟨T, rfl, hT⟩
      · exact ⟨wp, all2_keeps (mp (B := B')) kB67 hwv, by omega, ow⟩
      · refine ⟨wp ++ [(k, 1 - f)], ?_, by rw [List.length_append, List.length_cons, List.length_nil]; omega, fun x hx => ?_⟩
        · rw [List.map_append]
          exact all2_append (all2_keeps (mp (B := B')) kB67 hwv) (.cons hT .nil)
        · rcases List.mem_append.mp hx with hx | hx
          · exact ow x hx
          · rw [List.mem_singleton.mp hx]; exact ⟨hk8, by show 1 - f < 2; omega⟩
    exact ⟨B₇, _, _, h₇, tk₇, rfl, kB67, S₇, gv', wv', gn', wn', gp', wp', rfl, m1, m2, q1, r1, q2, r2, q3, r3⟩
  · rintro B' m' mu' hp tkp kB ⟨gv, wv, gn, wn, gp, wp, rfl, m1, m2, hgv, hwv, lg, lw, og, ow⟩ S
    have hsz : ys.toArray.size ≤ 12 := by simpa using lys
    have lgp : gp.length ≤ 12 := Nat.le_trans lg hsz
    have lwp : wp.length ≤ 12 := Nat.le_trans lw hsz
    have kB₀ : Keeps s.heap B' := fun b o e => kB _ _ (kC₂ _ _ e)
    have mp : ∀ {ps : List Pr}, ∀ P ∈ ps.map prP, Mono P := fun P hP => by obtain ⟨x, _, rfl⟩ := List.mem_map.mp hP; exact mono_pr x
    have hrA := (S.st.mem (rA, lst gv gn) (by simp)).1
    have hqA := (S.st.mem (qA, lst wv wn) (by simp)).1
    have pg : ∀ {h : Heap}, Keeps hp h → prsP gp h (.ref rA) := fun k => ⟨rA, gv.toArray, rfl, ⟨_, k _ _ hrA, rfl, _, rfl⟩, all2_keeps mp (fun b o e => k _ _ (S.st.keep _ _ e)) hgv⟩
    have pw : ∀ {h : Heap}, Keeps hp h → prsP wp h (.ref qA) := fun k => ⟨qA, wv.toArray, rfl, ⟨_, k _ _ hqA, rfl, _, rfl⟩, all2_keeps mp (fun b o e => k _ _ (S.st.keep _ _ e)) hwv⟩
    dsimp only
    refine wpC_execs_cons ?_
    refine X_If ?_
    refine X_isTrue_or ?_
    refine X_isTrue_not ?_
    refine X_isTrue_value ?_
    obtain ⟨o1, f1, ho1, hf1⟩ := ob_of (fn_counts w)
    refine X_Call_own (f := 201) (of := o1) (fd := f1) ?_ ?_ hf1
    · intro Q' q
      exact nm_own S.gdh (own_counts w) q
    refine X_items_cons ?_
    refine wpC_of (nm_loc S.st.ns m1 ?_ rfl rfl)
    refine X_items_cons ?_
    refine wpC_of (nm_loc S.st.ns m2 ?_ rfl rfl)
    refine X_items_nil ?_
    refine ⟨S.gdh.K _ _ ho1, ?_⟩
    refine counts_spec (got := gp) (want := wp) ?_ ?_ ?_ ?_ ?_ ?_ ?_ ?_ ?_ ?_ ?_ ?_
    · exact S.gdh
    · exact hh
    · exact hg
    · show A.depth + 1 + 4 < recursionLimit; omega
    · show A.units + 3 + 150 < cLine; omega
    · exact pg fun _ _ e => e
    · exact pw fun _ _ e => e
    · omega
    · omega
    · exact og
    · exact ow
    intro h₈ tk₈ k₈
    dsimp only
    have S₈ := S.grow k₈
    refine wpAny_truthy_bool ?_
    simp only [Bool.not_true, Bool.false_eq_true, if_false]
    refine X_isTrue_not ?_
    refine X_isTrue_value ?_
    refine X_Call_own (f := 201) (of := o1) (fd := f1) ?_ ?_ hf1
    · intro Q' q
      exact nm_own S₈.gdh (own_counts w) q
    refine X_items_cons ?_
    refine wpC_of (nm_loc S₈.st.ns m2 ?_ rfl rfl)
    refine X_items_cons ?_
    refine wpC_of (nm_loc S₈.st.ns m1 ?_ rfl rfl)
    refine X_items_nil ?_
    refine ⟨S₈.gdh.K _ _ ho1, ?_⟩
    refine counts_spec (got := wp) (want := gp) ?_ ?_ ?_ ?_ ?_ ?_ ?_ ?_ ?_ ?_ ?_ ?_
    · exact S₈.gdh
    · exact hh
    · exact hg
    · show A.depth + 1 + 4 < recursionLimit; omega
    · show A.units + 3 + 150 < cLine; omega
    · exact pw k₈
    · exact pg k₈
    · omega
    · omega
    · exact ow
    · exact og
    intro h₉ tk₉ k₉
    dsimp only
    have S₉ := S₈.grow k₉
    have k₈₉ : Keeps hp h₉ := fun b o e => k₉ _ _ (k₈ _ _ e)
    refine wpAny_truthy_bool ?_
    simp only [Bool.not_true, Bool.false_eq_true, if_false]
    refine wpC_execs_nil ?_
    refine wpC_execs_cons ?_
    refine X_Return ?_
    refine X_And2 ?_
    have hns₉ := S₉.st.ns
    have k₀₉ : Keeps s.heap h₉ := fun b o e => S₉.st.keep _ _ (kB₀ _ _ e)
    obtain ⟨oL, esL, epL, hoL, rL⟩ := id hns₉
    have hfL : (A.deeper (envL s.heap.objs.size)).frames = some [envL s.heap.objs.size] := Around.frames_deeper hf
    -- the base of the two last calls: all but this frame
    have S₁₀ := Fm.fresh G k₀₉ hns₉ hL0
    have kC₁₀ : Keeps s.heap (calmer s.heap.objs.size [] [] h₉) := fun b o e => hideAll_get _ (k₀₉ _ _ e) (by simp; rintro rfl; rw [hL0] at e; cases e)
    have old : ∀ {b : Addr} {o : Obj}, B'.get? b = some o → (calmer s.heap.objs.size [] [] h₉).get? b = some o := fun {b o} e => hideAll_get _ (S₉.st.keep _ _ e) (by simp; rintro rfl; rw [S.st.off] at e; cases e)
    have hrC : (calmer s.heap.objs.size [] [] h₉).get? rA = some (lst gv gn) := S₁₀.calm_at (k₈₉ _ _ hrA) (S.st.mem (rA, lst gv gn) (by simp)).2.1 (by simp) (by simp)
    have hqC : (calmer s.heap.objs.size [] [] h₉).get? qA = some (lst wv wn) := S₁₀.calm_at (k₈₉ _ _ hqA) (S.st.mem (qA, lst wv wn) (by simp)).2.1 (by simp) (by simp)
    generalize calmer s.heap.objs.size [] [] h₉ = C₁₀ at S₁₀ kC₁₀ old hrC hqC
    obtain ⟨o2, f2, ho2, hf2⟩ := ob_of (fn_copies w)
    refine X_Call_own (f := 208) (of := o2) (fd := f2) ?_ ?_ hf2
    · intro Q' q
      exact nm_own S₉.gdh (own_copies w) q
    refine X_items_cons ?_
    refine wpC_of (nm_loc hns₉ m1 ?_ rfl rfl)
    refine X_items_cons ?_
    refine wpC_of (nm_loc hns₉ m2 ?_ rfl rfl)
    refine X_items_nil ?_
    refine ⟨S₉.gdh.K _ _ ho2, ?_⟩
    have LW := laws gp wp
    refine copies_spec (A := A.deeper (envL s.heap.objs.size)) (e₀ := envL s.heap.objs.size) (Ll := s.heap.objs.size) (ol := oL) (B := C₁₀) (got := gp) (want := wp) S₁₀.st.gd S₁₀.st.keep hh hg (by show A.depth + 1 + 4 < recursionLimit; omega) (by show A.units + 3 + 150 < cLine; omega) hfL
      (Heap.FunFrames.cons (fun q => absurd (show ScopeKind.function = ScopeKind.module from q) (by decide)) rfl hns₉ S₁₀.st.off trivial) rfl hoL ?_ ?_ (by omega) (by omega) og ow LW.l1 LW.l2 ?_
    · exact ⟨rA, gv.toArray, rfl, ⟨_, hrC, rfl, _, rfl⟩, all2_keeps mp (fun b o e => old e) hgv⟩
    · exact ⟨qA, wv.toArray, rfl, ⟨_, hqC, rfl, _, rfl⟩, all2_keeps mp (fun b o e => old e) hwv⟩
    intro h₁₁ tk₁₁ sl kC₁₁ hL₁₁
    dsimp only
    refine wpAny_truthy_bool ?_
    simp only [if_true]
    have hns₁₁ : h₁₁.Ns s.heap.objs.size m' := ⟨_, esL, epL, hL₁₁, rL⟩
    have G₁₁ : Gd w h₁₁ := S₁₀.st.gd.keeps kC₁₁
    obtain ⟨o3, f3, ho3, hf3⟩ := ob_of (fn_one w)
    refine X_Call_own (f := 215) (of := o3) (fd := f3) ?_ ?_ hf3
    · intro Q' q
      exact nm_own G₁₁ (own_one w) q
    refine X_items_cons ?_
    refine wpC_of ?_
    refine wpAny_BinOp ?_
    refine nm_loc hns₁₁ m1 ?_ rfl rfl
    refine nm_loc hns₁₁ m2 ?_ rfl rfl
    have lgv : gv.length = gp.length := by have := all2_len hgv; simpa using this.symm
    have lwv : wv.length = wp.length := by have := all2_len hwv; simpa using this.symm
    refine add_l (vs := gv) (ws := wv) ⟨_, kC₁₁ _ _ hrC, rfl, _, rfl⟩ ⟨_, kC₁₁ _ _ hqC, rfl, _, rfl⟩ (by omega) ?_
    refine X_items_nil ?_
    dsimp only
    have p9 : Keeps h₁₁ (h₁₁.push (lst (gv ++ wv) 0)) := fun b o e => Heap.get?_push_of_some _ e
    refine ⟨p9 _ _ (G₁₁.K _ _ ho3), ?_⟩
    have hns₁₂ := hns₁₁.keeps p9
    obtain ⟨oM, esM, epM, hoM, rM⟩ := id hns₁₂
    have k₀₁₂ : Keeps s.heap (h₁₁.push (lst (gv ++ wv) 0)) := fun b o e => p9 _ _ (kC₁₁ _ _ (kC₁₀ _ _ e))
    have S₁₂ := Fm.fresh G k₀₁₂ hns₁₂ hL0
    have kC₁₂ : Keeps s.heap (calmer s.heap.objs.size [] [] (h₁₁.push (lst (gv ++ wv) 0))) := fun b o e => hideAll_get _ (k₀₁₂ _ _ e) (by simp; rintro rfl; rw [hL0] at e; cases e)
    have hLs : s.heap.objs.size < h₁₁.objs.size := Heap.lt_size hL₁₁
    have hnC : (calmer s.heap.objs.size [] [] (h₁₁.push (lst (gv ++ wv) 0))).get? h₁₁.objs.size = some (lst (gv ++ wv) 0) := S₁₂.calm_at (Heap.get?_push_size _ rfl) (Nat.ne_of_gt hLs) (by simp) (by simp)
    have old₂ : ∀ {b : Addr} {o : Obj}, B'.get? b = some o → (calmer s.heap.objs.size [] [] (h₁₁.push (lst (gv ++ wv) 0))).get? b = some o := fun {b o} e => hideAll_get _ (p9 _ _ (kC₁₁ _ _ (old e))) (by simp; rintro rfl; rw [S.st.off] at e; cases e)
    generalize calmer s.heap.objs.size [] [] (h₁₁.push (lst (gv ++ wv) 0)) = C₁₂ at S₁₂ kC₁₂ hnC old₂
    refine one_spec (A := A.deeper (envL s.heap.objs.size)) (s := { s with heap := h₁₁.push (lst (gv ++ wv) 0), toks := tk₁₁ }) (e₀ := envL s.heap.objs.size) (Ll := s.heap.objs.size) (ol := oM) (B := C₁₂) (ps := gp ++ wp) S₁₂.st.gd S₁₂.st.keep hh hg (by show A.depth + 1 + 4 < recursionLimit; omega) (by show A.units + 3 + 150 < cLine; omega) hfL
      (Heap.FunFrames.cons (fun q => absurd (show ScopeKind.function = ScopeKind.module from q) (by decide)) rfl hns₁₂ S₁₂.st.off trivial) rfl hoM ?_ (by rw [List.length_append]; omega) ?_ LW.l3 ?_
    · refine ⟨_, (gv ++ wv).toArray, rfl, ⟨_, hnC, rfl, _, rfl⟩, ?_⟩
      rw [List.map_append]
      exact all2_append (all2_keeps mp (fun b o e => old₂ e) hgv) (all2_keeps mp (fun b o e => old₂ e) hwv)
    · intro x hx
      rcases List.mem_append.mp hx with hx | hx
      · exact og x hx
      · exact ow x hx
    intro h₁₃ tk₁₃ sl₂ kC₁₃ _
    exact h h₁₃ tk₁₃ fun b o e => kC₁₃ _ _ (kC₁₂ _ _ e)
end
end Mine
end

/-! part Pl -/
section
open PySem PySem.W PyProof.Rows PySem.Calls
set_option maxRecDepth 100000
namespace Mine
theorem cnt_nil (k : Nat) : cnt [] k = 0 := rfl
theorem cnt_cons (x : Pr) (l : List Pr) (k : Nat) : cnt (x :: l) k = cnt l k + if x.1 == k then 1 else 0 := List.countP_cons
theorem cnt_append (l m : List Pr) (k : Nat) : cnt (l ++ m) k = cnt l k + cnt m k := List.countP_append
theorem cnt_reverse (l : List Pr) (k : Nat) : cnt l.reverse k = cnt l k := List.countP_reverse
theorem cnt_pos {l : List Pr} {k : Nat} (h : l.any (·.1 == k) = true) : 0 < cnt l k := by
  unfold cnt
  rw [List.countP_pos_iff]
  obtain ⟨x, hx, e⟩ := List.any_eq_true.mp h
  exact ⟨x, hx, e⟩

def dec (c : Nat → Nat) (k : Nat) : Nat → Nat := fun k' => if k' == k then c k' - 1 else c k'
def inc (c : Nat → Nat) (k : Nat) : Nat → Nat := fun k' => if k' == k then c k' + 1 else c k'
/-- all but the first `c k` of each kind `k` -/
def filt : (Nat → Nat) → List Pr → List Pr
  | _, [] => []
  | c, x :: l => if c x.1 == 0 then x :: filt c l else filt (dec c x.1) l

theorem filt_nil (c : Nat → Nat) : filt c [] = [] := rfl
theorem filt_cons (c : Nat → Nat) (x : Pr) (l : List Pr) : filt c (x :: l) = if c x.1 == 0 then x :: filt c l else filt (dec c x.1) l := rfl
theorem filt_zero (l : List Pr) : filt (fun _ => 0) l = l := by
  induction l with
  | nil => rfl
  | cons x l ih => rw [filt_cons, ih]; rfl
theorem filt_snoc (x : Pr) : ∀ (l : List Pr) (c : Nat → Nat), filt c (l ++ [x]) = filt c l ++ (if decide (c x.1 ≤ cnt l x.1) then [x] else [])
  | [], c => by
    rw [List.nil_append, filt_cons, filt_nil, filt_nil, cnt_nil]
    cases h : c x.1 with
    | zero => simp
    | succ n => simp
  | y :: l, c => by
    rw [List.cons_append, filt_cons, filt_cons]
    cases h : c y.1 == 0 with
    | true =>
      simp only [if_true]
      rw [filt_snoc x l c, List.cons_append, cnt_cons]
      congr 2
      cases e : y.1 == x.1 with
      | true =>
        rw [beq_iff_eq] at h e
        have : decide (c x.1 ≤ cnt l x.1) = decide (c x.1 ≤ cnt l x.1 + 1) := by rw [decide_eq_decide]; rw [← e]; omega
        simp only [if_true]
        rw [this]
      | false => simp
    | false =>
      simp only [Bool.false_eq_true, if_false]
      rw [filt_snoc x l (dec c y.1), cnt_cons]
      congr 1
      have hd : dec c y.1 x.1 = if x.1 == y.1 then c x.1 - 1 else c x.1 := rfl
      rw [hd]
      cases e : y.1 == x.1 with
      | true =>
        have e' := beq_iff_eq.mp e
        have h' : c x.1 ≠ 0 := by rw [← e']; exact beq_eq_false_iff_ne.mp h
        have e2 : (x.1 == y.1) = true := by rw [beq_iff_eq]; exact e'.symm
        have : decide (c x.1 - 1 ≤ cnt l x.1) = decide (c x.1 ≤ cnt l x.1 + 1) := by rw [decide_eq_decide]; omega
        simp only [e2, if_true]
        rw [this]
      | false =>
        have e2 : (x.1 == y.1) = false := by rw [beq_eq_false_iff_ne] at e ⊢; exact fun q => e q.symm
        simp only [e2, Bool.false_eq_true, if_false, Nat.add_zero]

theorem filt_congr {c d : Nat → Nat} (h : ∀ k, c k = d k) (l : List Pr) : filt c l = filt d l := by
  rw [show c = d from funext h]

theorem dec_inc (c : Nat → Nat) (k : Nat) : dec (inc c k) k = c := by
  funext k'
  unfold dec inc
  cases e : k' == k <;> simp
theorem dec_inc_ne (c : Nat → Nat) {k j : Nat} (h : (j == k) = false) : dec (inc c k) j = inc (dec c j) k := by
  funext k'
  unfold dec inc
  rw [beq_eq_false_iff_ne] at h
  by_cases h1 : k' = j
  · subst h1
    simp [h]
  · by_cases h2 : k' = k
    · subst h2
      simp [h1]
    · simp [h1, h2]
/-- one of a kind taken from the front is one more passed over -/
theorem filt_erase (k : Nat) : ∀ (l : List Pr) (c : Nat → Nat), filt c (l.eraseP (·.1 == k)) = filt (inc c k) l
  | [], _ => rfl
  | x :: l, c => by
    cases e : x.1 == k with
    | true =>
      rw [List.eraseP_cons_of_pos (p := fun y : Pr => y.1 == k) e, filt_cons]
      have ek := beq_iff_eq.mp e
      have h1 : (inc c k x.1 == 0) = false := by
        unfold inc; rw [e]; simp
      rw [h1, if_neg Bool.false_ne_true, ek, dec_inc]
    | false =>
      rw [List.eraseP_cons_of_neg (p := fun y : Pr => y.1 == k) (by rw [e]; exact Bool.false_ne_true), filt_cons, filt_cons]
      have h1 : inc c k x.1 = c x.1 := by unfold inc; rw [e]; rfl
      rw [h1]
      cases h : c x.1 == 0 with
      | true => simp only [if_true]; rw [filt_erase k l c]
      | false => simp only [Bool.false_eq_true, if_false]; rw [filt_erase k l (dec c x.1), dec_inc_ne c e]

theorem inc_cnt (x : Pr) (es : List Pr) : inc (cnt es) x.1 = cnt (x :: es) := by
  funext k
  rw [cnt_cons]
  unfold inc
  cases e : k == x.1 with
  | true =>
    have : (x.1 == k) = true := by rw [beq_iff_eq] at e ⊢; exact e.symm
    rw [this]; rfl
  | false =>
    have : (x.1 == k) = false := by rw [beq_eq_false_iff_ne] at e ⊢; exact fun q => e q.symm
    rw [this]; rfl
theorem uld_left : ∀ (es as ms : List Pr), (uldGo es as ms).2 = filt (cnt es) as
  | [], as, ms => (filt_zero as).symm
  | x :: es, as, ms => by
    unfold uldGo
    rw [uld_left es, filt_erase, inc_cnt]
theorem cnt_erase (as : List Pr) (k : Nat) (h : as.any (·.1 == k) = true) : cnt (as.eraseP (·.1 == k)) = dec (cnt as) k := by
  funext k'
  induction as with
  | nil => cases h
  | cons x as ih =>
    cases e : x.1 == k with
    | true =>
      rw [List.eraseP_cons_of_pos (p := fun y : Pr => y.1 == k) e]
      unfold dec
      rw [cnt_cons]
      cases e2 : k' == k with
      | true =>
        have : (x.1 == k') = true := by rw [beq_iff_eq] at e e2 ⊢; rw [e, e2]
        rw [this]; simp
      | false =>
        have : (x.1 == k') = false := by rw [beq_iff_eq] at e; rw [beq_eq_false_iff_ne] at e2 ⊢; rw [e]; exact fun q => e2 q.symm
        rw [this]; simp
    | false =>
      rw [List.eraseP_cons_of_neg (p := fun y : Pr => y.1 == k) (by rw [e]; exact Bool.false_ne_true), cnt_cons]
      have h' : as.any (·.1 == k) = true := by rw [List.any_cons, e, Bool.false_or] at h; exact h
      rw [ih h']
      unfold dec
      rw [cnt_cons]
      cases e2 : k' == k with
      | true =>
        have : (x.1 == k') = false := by rw [beq_iff_eq.mp e2]; exact e
        rw [this]; simp
      | false => simp
theorem uld_missing : ∀ (es as ms : List Pr), (uldGo es as ms).1 = ms ++ filt (cnt as) es
  | [], as, ms => by rw [filt_nil, List.append_nil]; rfl
  | x :: es, as, ms => by
    unfold uldGo
    rw [uld_missing es, filt_cons]
    cases h : as.any (·.1 == x.1) with
    | true =>
      have := cnt_pos h
      have h0 : (cnt as x.1 == 0) = false := by rw [beq_eq_false_iff_ne]; omega
      rw [h0, cnt_erase as x.1 h]
      simp
    | false =>
      have h0 : (cnt as x.1 == 0) = true := by rw [beq_iff_eq]; exact cnt_none h
      rw [h0, eraseP_none h]
      simp

/-- those with at least `c` behind them -/
def lk (c : Nat → Nat) : List Pr → List Pr
  | [] => []
  | x :: s => (if decide (c x.1 ≤ cnt s x.1) then [x] else []) ++ lk c s
theorem lk_cons (c : Nat → Nat) (x : Pr) (s : List Pr) : lk c (x :: s) = (if decide (c x.1 ≤ cnt s x.1) then [x] else []) ++ lk c s := rfl
theorem filt_rev (c : Nat → Nat) : ∀ l : List Pr, filt c l.reverse = (lk c l).reverse
  | [] => rfl
  | x :: l => by
    rw [List.reverse_cons, filt_snoc, filt_rev c l, lk_cons, List.reverse_append, cnt_reverse]
    cases decide (c x.1 ≤ cnt l x.1) <;> simp
theorem lack_lk (got want : List Pr) : ∀ i, i ≤ want.length → lackAt got want i ++ lk (cnt got) (want.drop i) = lk (cnt got) want
  | 0, _ => by simp [lackAt]
  | i + 1, h => by
    rw [← lack_lk got want i (by omega)]
    have hx : want[i]? = some want[i] := List.getElem?_eq_getElem (by omega)
    have hd : want.drop i = want[i] :: want.drop (i + 1) := List.drop_eq_getElem_cons (by omega)
    rw [show lackAt got want (i + 1) = (match want[i]? with
      | none => lackAt got want i
      | some x => if decide (cnt got x.1 ≤ cnt (want.drop (i + 1)) x.1) then lackAt got want i ++ [x] else lackAt got want i) from rfl, hx, hd, lk_cons]
    dsimp only
    cases decide (cnt got want[i].1 ≤ cnt (want.drop (i + 1)) want[i].1) <;> simp
theorem over_filt (got want : List Pr) : ∀ i, i ≤ got.length → overAt got want i = filt (cnt want) (got.take i)
  | 0, _ => by simp [overAt, filt]
  | i + 1, h => by
    have hx : got[i]? = some got[i] := List.getElem?_eq_getElem (by omega)
    rw [List.take_add_one, show overAt got want (i + 1) = (match got[i]? with
      | none => overAt got want i
      | some x => if decide (cnt want x.1 ≤ cnt (got.take i) x.1) then overAt got want i ++ [x] else overAt got want i) from rfl, hx]
    dsimp only
    rw [show (some got[i]).toList = [got[i]] from rfl, filt_snoc, over_filt got want i (by omega)]
    cases decide (cnt want got[i].1 ≤ cnt (got.take i) got[i].1) <;> simp

/-- those with as many before them as behind, given those beyond both ends -/
def md (b a : Nat → Nat) : List Pr → List Pr
  | [] => []
  | x :: s => (if b x.1 == cnt s x.1 + a x.1 then [x] else []) ++ md (inc b x.1) a s
theorem md_nil (b a : Nat → Nat) : md b a [] = [] := rfl
theorem md_cons (b a : Nat → Nat) (x : Pr) (s : List Pr) : md b a (x :: s) = (if b x.1 == cnt s x.1 + a x.1 then [x] else []) ++ md (inc b x.1) a s := rfl
theorem md_congr : ∀ (l : List Pr) {b b' a a' : Nat → Nat}, (∀ x ∈ l, b x.1 = b' x.1) → (∀ x ∈ l, a x.1 = a' x.1) → md b a l = md b' a' l
  | [], _, _, _, _, _, _ => rfl
  | x :: s, b, b', a, a', h1, h2 => by
    rw [md_cons, md_cons, h1 x (List.mem_cons_self ..), h2 x (List.mem_cons_self ..)]
    congr 1
    refine md_congr s (fun y hy => ?_) fun y hy => h2 y (List.mem_cons_of_mem _ hy)
    unfold inc
    rw [h1 y (List.mem_cons_of_mem _ hy)]
theorem md_append : ∀ (s t : List Pr) (b a : Nat → Nat), md b a (s ++ t) = md b (fun k => a k + cnt t k) s ++ md (fun k => b k + cnt s k) a t
  | [], t, b, a => by
    rw [List.nil_append, md_nil, List.nil_append]
    exact md_congr t (fun x _ => by rw [cnt_nil, Nat.add_zero]) fun _ _ => rfl
  | x :: s, t, b, a => by
    rw [List.cons_append, md_cons, md_cons, md_append s t, List.append_assoc, cnt_append]
    have e1 : cnt s x.1 + cnt t x.1 + a x.1 = cnt s x.1 + (a x.1 + cnt t x.1) := by omega
    rw [e1]
    congr 2
    refine md_congr t (fun y _ => ?_) fun _ _ => rfl
    rw [cnt_cons]
    unfold inc
    cases e : y.1 == x.1 with
    | true =>
      have : (x.1 == y.1) = true := by rw [beq_iff_eq] at e ⊢; exact e.symm
      simp only [this, if_true]; omega
    | false =>
      have : (x.1 == y.1) = false := by rw [beq_eq_false_iff_ne] at e ⊢; exact fun q => e q.symm
      simp only [this, Bool.false_eq_true, if_false]; omega
theorem md_shift : ∀ (l : List Pr) (b a d : Nat → Nat), md (fun k => b k + d k) (fun k => a k + d k) l = md b a l
  | [], _, _, _ => rfl
  | x :: s, b, a, d => by
    rw [md_cons, md_cons]
    have e : (b x.1 + d x.1 == cnt s x.1 + (a x.1 + d x.1)) = (b x.1 == cnt s x.1 + a x.1) := by
      rw [Bool.eq_iff_iff]; simp only [beq_iff_eq]; omega
    rw [e]
    congr 1
    rw [← md_shift s (inc b x.1) a d]
    refine md_congr s (fun y _ => ?_) fun _ _ => rfl
    unfold inc
    cases y.1 == x.1 <;> simp; omega
theorem mid_md (ps : List Pr) : ∀ i, i ≤ ps.length → midAt ps i = md (fun _ => 0) (cnt (ps.drop i)) (ps.take i)
  | 0, _ => by simp [midAt, md]
  | i + 1, h => by
    have hx : ps[i]? = some ps[i] := List.getElem?_eq_getElem (by omega)
    have hd : ps.drop i = ps[i] :: ps.drop (i + 1) := List.drop_eq_getElem_cons (by omega)
    rw [List.take_add_one, show midAt ps (i + 1) = (match ps[i]? with
      | none => midAt ps i
      | some x => if cnt (ps.take i) x.1 == cnt (ps.drop (i + 1)) x.1 then midAt ps i ++ [x] else midAt ps i) from rfl, hx]
    dsimp only
    rw [show (some ps[i]).toList = [ps[i]] from rfl, md_append, mid_md ps i (by omega)]
    have e1 : md (fun _ => 0) (cnt (ps.drop i)) (ps.take i) = md (fun _ => 0) (fun k => cnt (ps.drop (i + 1)) k + cnt [ps[i]] k) (ps.take i) := by
      refine md_congr _ (fun _ _ => rfl) fun y _ => ?_
      rw [hd, cnt_cons, cnt_cons, cnt_nil, Nat.zero_add]
    rw [← e1, md_cons, md_nil, cnt_nil, Nat.zero_add, Nat.zero_add]
    cases cnt (ps.take i) ps[i].1 == cnt (ps.drop (i + 1)) ps[i].1 <;> simp
def mid (ps : List Pr) : List Pr := md (fun _ => 0) (fun _ => 0) ps
theorem mid_all (ps : List Pr) : midAt ps ps.length = mid ps := by
  rw [mid_md ps _ (Nat.le_refl _), List.take_length, List.drop_length]
  rfl
theorem mid_none {l : List Pr} {x : Pr} (h : l.any (·.1 == x.1) = false) : mid (l ++ [x]) = mid l ++ [x] := by
  unfold mid
  rw [md_append]
  have e1 : md (fun _ => 0) (fun k => 0 + cnt [x] k) l = md (fun _ => 0) (fun _ => 0) l := by
    refine md_congr l (fun _ _ => rfl) fun y hy => ?_
    rw [cnt_cons, cnt_nil]
    have : (y.1 == x.1) = false := by
      rw [List.any_eq_false] at h
      cases e : y.1 == x.1 with
      | false => rfl
      | true => exact absurd e (h y hy)
    have : (x.1 == y.1) = false := by rw [beq_eq_false_iff_ne] at this ⊢; exact fun q => this q.symm
    rw [this]; rfl
  rw [e1]
  congr 1
  rw [md_cons, md_nil, cnt_nil, cnt_none h]
  rfl
theorem mid_some {pre suf : List Pr} {q x : Pr} (hp : pre.any (·.1 == x.1) = false) (hq : (q.1 == x.1) = true) : mid (pre ++ q :: suf ++ [x]) = mid (pre ++ suf) := by
  have hqx := beq_iff_eq.mp hq
  have e0 : pre ++ q :: suf ++ [x] = pre ++ (q :: (suf ++ [x])) := by simp
  rw [e0]
  unfold mid
  rw [md_append, md_append pre suf]
  congr 1
  · refine md_congr pre (fun _ _ => rfl) fun y hy => ?_
    have : (y.1 == x.1) = false := by
      rw [List.any_eq_false] at hp
      cases e : y.1 == x.1 with
      | false => rfl
      | true => exact absurd e (hp y hy)
    have h2 : (x.1 == y.1) = false := by rw [beq_eq_false_iff_ne] at this ⊢; exact fun q => this q.symm
    rw [cnt_cons, cnt_append, cnt_cons, cnt_nil, hqx, h2]
    simp
  · rw [md_cons]
    have h0 : cnt pre q.1 = 0 := by rw [hqx]; exact cnt_none hp
    have h1 : cnt (suf ++ [x]) q.1 = cnt suf q.1 + 1 := by
      rw [cnt_append, cnt_cons, cnt_nil, hqx]; simp
    have e1 : (0 + cnt pre q.1 == cnt (suf ++ [x]) q.1 + 0) = false := by
      rw [h0, h1, beq_eq_false_iff_ne]; omega
    rw [e1, if_neg Bool.false_ne_true, List.nil_append, md_append]
    have e2 : md (fun k => inc (fun k => 0 + cnt pre k) q.1 k + cnt suf k) (fun _ => 0) [x] = [] := by
      rw [md_cons, md_nil]
      have : (inc (fun k => 0 + cnt pre k) q.1 x.1 + cnt suf x.1 == cnt [] x.1 + 0) = false := by
        rw [cnt_nil, beq_eq_false_iff_ne]
        unfold inc
        rw [hqx]
        simp
      rw [this]; rfl
    rw [e2, List.append_nil]
    rw [← md_shift suf (fun k => 0 + cnt pre k) (fun _ => 0) (fun k => if k == q.1 then 1 else 0)]
    refine md_congr suf (fun y _ => ?_) fun y _ => ?_
    · unfold inc
      cases y.1 == q.1 <;> simp
    · rw [cnt_cons, cnt_nil, hqx]
      cases e : y.1 == x.1 with
      | true =>
        have : (x.1 == y.1) = true := by rw [beq_iff_eq] at e ⊢; exact e.symm
        rw [this]; rfl
      | false =>
        have : (x.1 == y.1) = false := by rw [beq_eq_false_iff_ne] at e ⊢; exact fun q => e q.symm
        rw [this]; rfl
theorem split_any {l : List Pr} {k : Nat} (h : l.any (·.1 == k) = true) : ∃ pre q suf, l = pre ++ q :: suf ∧ pre.any (·.1 == k) = false ∧ (q.1 == k) = true := by
  induction l with
  | nil => cases h
  | cons x l ih =>
    cases e : x.1 == k with
    | true => exact ⟨[], x, l, rfl, rfl, e⟩
    | false =>
      rw [List.any_cons, e, Bool.false_or] at h
      obtain ⟨pre, q, suf, rfl, h1, h2⟩ := ih h
      exact ⟨x :: pre, q, suf, rfl, by rw [List.any_cons, e, h1]; rfl, h2⟩
theorem one_mid : ∀ (n : Nat) (r ms : List Pr), r.length ≤ n → oneGo n r ms = ms ++ (mid r.reverse).reverse
  | 0, r, ms, h => by
    have : r = [] := List.length_eq_zero_iff.mp (by omega)
    subst this
    simp [oneGo, mid, md]
  | n + 1, [], ms, _ => by simp [oneGo, mid, md]
  | n + 1, x :: r, ms, h => by
    unfold oneGo
    rw [List.length_cons] at h
    have hle := List.length_eraseP_le (l := r.reverse) (p := fun y : Pr => y.1 == x.1)
    rw [List.length_reverse] at hle
    rw [one_mid n _ _ (by rw [List.length_reverse]; omega), List.reverse_reverse, List.reverse_cons]
    cases ha : r.reverse.any (·.1 == x.1) with
    | true =>
      obtain ⟨pre, q, suf, e, h1, h2⟩ := split_any ha
      rw [e, eraseP_split h1 h2, mid_some h1 h2]
      rfl
    | false =>
      rw [eraseP_none ha, mid_none ha, List.reverse_append]
      simp

theorem laws (got want : List Pr) : Laws got want where
  l1 := by
    rw [uld_missing, List.nil_append, filt_rev]
    have := lack_lk got want want.length (Nat.le_refl _)
    rw [List.drop_length] at this
    rw [← this]
    simp [lk]
  l2 := by
    rw [uld_left, over_filt got want _ (Nat.le_refl _), List.take_length]
    exact filt_congr (fun k => cnt_reverse want k) got
  l3 := by
    rw [one_mid _ _ _ (by rw [List.length_reverse]; exact Nat.le_refl _), List.reverse_reverse, mid_all, List.nil_append]
end Mine
end

/-! part Wk -/
section
open PySem PySem.W PyProof.Rows PySem.Calls
set_option maxRecDepth 100000
namespace Mine
theorem own_law (w : World) : nsIn (KF w) mainGlobals "law" = some (some (.ref 220)) := rfl
set_option maxHeartbeats 8000000 in
theorem fin_walk : WalkC (kHook KP kAt kAt_is).says PySem.Challenge.rw_sr0102_01.row.toRowW := by
  intro w s₀ s₁ mg mb Tg Tb Tx Tl Y fa hmg hgens args vals as hpre hlay hrd hwl hlo
  have KX := kIn_of Y
  have hfa : fa = 220 := by
    have e := mg_of KX Tg (own_law w)
    have e2 : mg "law" = some (.ref fa) := hmg
    rw [e] at e2
    injection e2 with e2
    injection e2 with e2
    exact e2.symm
  have G₁ : Gd w s₁.heap := ⟨KX, ⟨mg, mb, Tg, Tb, Tx⟩, Tl⟩
  clear Y hmg Tg Tb Tx Tl
  wrow_args hpre hlay hrd hwl hlo
  rename IntsAre _ _ => hI
  rename Heap.IsList _ _ _ => hL
  rename ¬ _ => hN
  subst hfa
  have hz := hI.length
  show wpC true (model prog w) callerA _ _ _ _
  refine wpC_call (law_spec laws G₁ rfl rfl rfl (by decide) (by decide) hL hI (by omega) ?_)
  intro h' tk k
  refine GoodW.toG ⟨.inl ⟨.bool true, .bool true, [], rfl, ?_, .bool true, ?_, unshared_nil⟩, k, rfl, hgens⟩
  · intro cls
    rfl
  · exact postW_of (X := true) rfl (by wtm_val) rfl
set_option maxHeartbeats 8000000 in
theorem fin : PySem.Challenge.rw_sr0102_01.Holds := by
  refine holds_law said1 fun said => ?_
  refine PySem.W.holds_open (q := vw) (XP := fun _ _ => True) left1 (Hook.of (kHook KP kAt kAt_is)) (Hook.keeps (kHook KP kAt kAt_is)) (fun _ _ => trivial) (fun _ _ _ _ _ => trivial) (by rfl) (by rfl) (by rfl) (fun s _ => recFacts_of (by rfl)) (by rfl) said (by decide +kernel) ⟨rfl, rfl, rfl, rfl, rfl, by decide +kernel⟩ ?hw fin_walk
  case hw => w_witness2
end Mine
end

theorem PySem.Challenge.cw_sr0102_01_holds : PySem.Challenge.rw_sr0102_01.Holds := by
  exact Mine.fin
