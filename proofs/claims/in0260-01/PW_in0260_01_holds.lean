import PyProof.Rows.All
import Wide.All
import OpenK.AllK
import Wide.FinOn
import OpenK.ZRun
import Lean
import PySem.Challenge.RW_in0260_01
open PySem PySem.W PyProof.Rows
set_option Elab.async false
set_option maxRecDepth 100000
namespace Mine
/-- builtin frames that may hold a bytearray while they stand on the stack -/
noncomputable def holdIds : List String := ["bytearray.__contains__", "bytearray.__mod__", "bytearray.__rmod__", "_struct.pack_into.held", "bytearray.find.held"] ++ Builtin.Bytes.decodersThatHold
noncomputable def holder : Code → Bool
  | .builtin id _ => holdIds.contains id
  | _ => false
noncomputable def ClnB (l : List (Code × Pos)) : Prop := ∀ q ∈ l, holder q.1 = false
noncomputable def Cln (Γ : Ctx) : Prop := holder Γ.code = false ∧ ClnB Γ.below
noncomputable def wpC {α : Type} (M : Model) (A : Around) (t : Sem α) (Q : α → Shared → Prop) (E : Value → Shared → Prop) (s : Shared) : Prop :=
  ∀ Γ p, Γ.In A → Cln Γ → Sem.wp M Γ t (fun a _ s' => Q a s') (fun e _ s' => E e s') p s
noncomputable def codeC (M : Model) (A : Around) (c : Code) (R : Result → Shared → Prop) (s : Shared) : Prop :=
  ∀ Γ p, Γ.code = c → Γ.Below A → ClnB Γ.below → wpCode M Γ R p s
section
variable {α β : Type} {M : Model} {A : Around} {E : Value → Shared → Prop} {s : Shared}
theorem C_any {t : Sem α} {Q : α → Shared → Prop} (h : wpAny M A t Q E s) : wpC M A t Q E s := fun Γ p hΓ _ => h Γ p hΓ
theorem codeC_any {c : Code} {R : Result → Shared → Prop} (h : codeAny M A c R s) : codeC M A c R s := fun Γ p hc hΓ _ => h Γ p hc hΓ
theorem C_pure {a : α} {Q : α → Shared → Prop} (h : Q a s) : wpC M A (pure a) Q E s := fun _ _ _ _ => h
theorem C_mono {t : Sem α} {Q Q' : α → Shared → Prop} {E' : Value → Shared → Prop} (h : wpC M A t Q E s)
    (hQ : ∀ a s, Q a s → Q' a s) (hE : ∀ e s, E e s → E' e s) : wpC M A t Q' E' s :=
  fun Γ p hΓ hc => Sem.wp_mono M Γ t (fun a _ s => hQ a s) (fun e _ s => hE e s) p s (h Γ p hΓ hc)
theorem C_bind {m : Sem α} {f : α → Sem β} {Q : β → Shared → Prop} (h : wpC M A m (fun a s' => wpC M A (f a) Q E s') E s) : wpC M A (m >>= f) Q E s :=
  fun Γ p hΓ hc => by
    rw [Sem.wp_bind']
    exact Sem.wp_mono M Γ m (fun a p' s' h' => h' Γ p' hΓ hc) (fun _ _ _ h' => h') p s (h Γ p hΓ hc)
/-- walked by the library as far as m, then on -/
theorem C_bindA {m : Sem α} {f : α → Sem β} {Q : β → Shared → Prop} (h : wpAny M A m (fun a s' => wpC M A (f a) Q E s') E s) : wpC M A (m >>= f) Q E s :=
  C_bind (C_any h)
theorem C_onRaise {m : Sem α} {k : Value → Sem Unit} {Q : α → Shared → Prop}
    (h : wpC M A m Q (fun e s' => wpAny M A (k e) (fun _ s'' => E e s'') E s') s) : wpC M A (m.onRaise k) Q E s := fun Γ p hΓ hc => by
  rw [Sem.wp_onRaise]
  exact Sem.wp_mono M Γ m (fun _ _ _ h' => h') (fun e p' s' h' => h' Γ p' hΓ) p s (h Γ p hΓ hc)
theorem C_holding {vs : List Value} {m : Sem α} {Q : α → Shared → Prop} (h : wpC M A m Q E s) : wpC M A (holding vs m) Q E s :=
  fun Γ p hΓ hc => by rw [Sem.wp_holding]; exact h Γ p hΓ hc
theorem C_keep {vs : List Value} {m : Sem α} {Q : α → Shared → Prop} (h : wpC M A m Q E s) : wpC M A (m.keep vs) Q E s :=
  fun Γ p hΓ hc => by rw [Sem.wp_keep]; exact h Γ p hΓ hc
theorem C_if {b : Bool} {x y : Sem α} {Q : α → Shared → Prop} (h1 : b = true → wpC M A x Q E s) (h2 : b = false → wpC M A y Q E s) : wpC M A (if b = true then x else y) Q E s := by
  cases b with
  | true => exact h1 rfl
  | false => exact h2 rfl
theorem C_tryCatch {m : Sem α} {k : Value → Sem α} {Q : α → Shared → Prop} (h : wpC M A m Q (fun e s' => wpC M A (k e) Q E s') s) :
    wpC M A (tryCatch m k) Q E s := fun Γ p hΓ hc => by
  rw [Sem.wp_tryCatch']
  exact Sem.wp_mono M Γ m (fun _ _ _ h' => h') (fun e p' s' h' => h' Γ p' hΓ hc) p s (h Γ p hΓ hc)
theorem C_attempt {m : Sem α} {Q : Except Value α → Shared → Prop} (h : wpC M A m (fun a => Q (.ok a)) (fun e => Q (.error e)) s) :
    wpC M A m.attempt Q E s := fun Γ p hΓ hc => by rw [Sem.wp_attempt]; exact h Γ p hΓ hc
/-- no holder in the stack: a look for one finds none -/
theorem C_stack {f : Code × Pos → Bool} {Q : Bool → Shared → Prop} (hf : ∀ c p, holder c = false → f (c, p) = false) (h : Q false s) :
    wpC M A (do return (← stack).any f) Q E s := fun Γ p _ hc => by
  show Q (((Γ.code, p) :: Γ.below).any f) s
  have e : ((Γ.code, p) :: Γ.below).any f = false := by
    rw [List.any_eq_false]
    intro q hq
    have : holder q.1 = false := by
      rcases List.mem_cons.mp hq with rfl | hq
      · exact hc.1
      · exact hc.2 q hq
    have := hf q.1 q.2 this
    simpa using this
  rw [e]; exact h
theorem codeC_mono {c : Code} {R R' : Result → Shared → Prop} (h : codeC M A c R s) (hR : ∀ r s, R r s → R' r s) : codeC M A c R' s :=
  fun Γ p hc hΓ hl => wpCode_mono hR (h Γ p hc hΓ hl)
theorem codeC_tree {c : Code} {R : Result → Shared → Prop} (hcl : holder c = false)
    (h : wpC M (A.under c) (M.den c) (fun fin s' => match fin with | .done f => R (.ok f) s' | .again c' => c'.quiet = true ∧ codeC M A c' R s')
      (fun e s' => R (.error e) s') s) : codeC M A c R s := fun Γ p hc hΓ hl => by
  rw [wpCode_iff_wp, hc]
  refine Sem.wp_mono M Γ _ (fun fin p' s' h' => ?_) (fun _ _ _ h' => h') p s (h Γ p (hc ▸ hΓ.in) ⟨by rw [hc]; exact hcl, hl⟩)
  cases fin with
  | done f => exact h'
  | again c' => exact ⟨h'.1, h'.2 (Γ.goto c') p' rfl (hΓ.goto c') hl⟩
theorem C_run {c : Code} {h : Option Value} {Q : Flow → Shared → Prop}
    (hc : codeC M (A.mark h) c (fun r s' => match r with | .ok f => Q f s' | .error e => E e s') s) (hnb : h ≠ some byPass := by intro x; cases x) :
    wpC M A (run c h) Q E s :=
  fun Γ p hΓ hl => by
    rw [Sem.wp_run]
    refine hc _ p rfl (hΓ.enter c h p hnb) fun q hq => ?_
    rcases List.mem_cons.mp hq with rfl | hq
    · exact hl.1
    · exact hl.2 q hq
theorem C_runValue {c : Code} {Q : Value → Shared → Prop}
    (hc : codeC M A c (fun r s' => match r with | .ok (.ret v) => Q v s' | .ok _ => False | .error e => E e s') s) :
    wpC M A (runValue c) Q E s := fun Γ p hΓ hl => by
  rw [Sem.wp_runValue]
  refine hc _ p rfl (hΓ.enter c none p (by intro x; cases x)) fun q hq => ?_
  rcases List.mem_cons.mp hq with rfl | hq
  · exact hl.1
  · exact hl.2 q hq
theorem C_call {f : Value} {pos : List Value} {kw : List (Str × Value)} {Q : Value → Shared → Prop}
    (hc : codeC M A (.call f ⟨pos, kw⟩) (fun r s' => match r with | .ok (.ret v) => Q v s' | .ok _ => False | .error e => E e s') s) :
    wpC M A (call f pos kw) Q E s := C_runValue hc
end
section
variable {prog : Program} {w : World} {A : Around} {s : Shared} {R : Result → Shared → Prop}
theorem codeC_func {body : List Stmt} {env : Env}
    (h : wpC (model prog w) (A.deeper env) (execs body env) (fun f s' => R (.ok (.ret (match f with | .ret v => v | _ => .none))) s')
      (fun e s' => wpAny (model prog w) (A.deeper env) (leaving env e) (fun _ s'' => R (.error e) s'') (fun e' s'' => R (.error e') s'') s') s) :
    codeC (model prog w) A (.func body env) R s := by
  refine codeC_tree rfl ?_
  show wpC _ (A.deeper env) (do point; match ← (execs body env).onRaise (leaving env) with | .ret v => ret v | _ => ret .none) _ _ s
  refine C_bindA (wpAny_point (C_bind (C_onRaise (C_mono h (fun f s' h' => ?_) fun _ _ h' => h'))))
  cases f <;> exact C_pure h'
theorem codeC_call_function {a : Addr} {args : Args} {o : Obj} {fd : FuncData} {body : List Stmt} (hroom : A.depth < recursionLimit)
    (ho : s.heap.get? a = some o)
    (hd' : o.data = .func fd) (hco : fd.scope.isCoroutine = false) (hgen : fd.scope.isGenerator = false) (hbody : fd.body = .stmts body) (hcd : s.heap.CodeRec fd.code fd.qualname)
    (h : wpAny (model prog w) A.in1 (bindArgs fd args) (fun binds s₁ =>
      wpAny (model prog w) A.in1 (newFunctionEnv fd.scope fd.globals fd.closure binds (fd.qualname ++ ".<locals>.") (some a) fd.code none fd.builtins)
        (fun env s₂ => s₂.heap.NoLimit ∧ codeC (model prog w) A (.func body env) R s₂) (fun e s' => R (.error e) s') s₁) (fun e s' => R (.error e) s') s) :
    codeC (model prog w) A (.call (.ref a) args) R s := by
  refine codeC_tree rfl (C_any ?_)
  show wpAny _ A.in1 (callAny (.ref a) args) _ _ s
  obtain ⟨c, oc, vs, tq, hc, hoc, hdc, hq⟩ := hcd
  rw [hc] at h
  simp only [callAny]
  refine wpAny_bind (wpAny_load ho ?_)
  simp only [hd', callFunction, hco, hgen, hbody, hc]
  refine wpAny_bind (m := field (.ref c) 1) (wpAny_field hoc hdc hq (wpAny_bind (wpAny_pure ?_)))
  exact wpAny_bind (wpAny_mono h (fun binds s₁ h₁ => wpAny_bind (wpAny_mono h₁ (fun env s₂ h₂ => wpAny_bind (wpAny_enterFrame h₂.1 hroom
    (wpAny_pure ⟨rfl, h₂.2⟩))) fun _ _ h' => h')) fun _ _ h' => h')
end
end Mine
namespace Mine
theorem caller_clean : Cln (⟨.builtin "claim.caller" {}, none, none, [], none⟩ : Ctx) :=
  ⟨by decide +kernel, fun _ h => nomatch h⟩
theorem thread_C {prog : Program} {w : World} {t : Sem Fin} {s : Shared} {R : Result → Shared → Prop} (hz : s.asleep)
    (h : wpC (model prog w) callerA t (fun fin s' => ∃ f, fin = .done f ∧ R (.ok f) s' ∧ AllBare s'.gens) (fun e s' => R (.error e) s' ∧ AllBare s'.gens) s) :
    ∃ n r s' s'', runN (denote table) prog w n s ⟨t, .builtin "claim.caller" {}, default, []⟩ = .halted (outcomeOf r) s' ∧
      schedN (denote table) prog w n (.single s ⟨t, .builtin "claim.caller" {}, default, []⟩) = .halted (outcomeOf r) s' ∧ s'.forget = s''.forget ∧ R r s'' := by
  have key := Sem.wp_mono (model prog w) _ t
    (post' := Sem.finPost (model prog w) ⟨.builtin "claim.caller" {}, none, none, [], none⟩ fun r s' => R r s' ∧ leftWithCleanup s'.gens = false)
    (exc' := fun e _ s' => R (.error e) s' ∧ leftWithCleanup s'.gens = false)
    (fun fin p' s' hf => by obtain ⟨f, rfl, a, b⟩ := hf; exact ⟨a, leftWithCleanup_false_of_bare b⟩)
    (fun e p' s' he => ⟨he.1, leftWithCleanup_false_of_bare he.2⟩) default s (h _ default caller_in caller_clean)
  obtain ⟨n, r, s₁, s₂, hs, hn, hf, hR⟩ := wp_halts_full (M := model prog w) (R := R) hz key
  exact ⟨n, r, s₂, s₁, hn, hs, hf, hR⟩
/-- the stub's run, the library's head with the run over clean stacks -/
theorem callFrom_C {c : ClaimW} {tree : List Value → Sem Fin} {w : World} {s : Shared} {free : Addr → Prop} {gens : Prop} {kept : Heap → Prop} (hz : s.asleep) (hgens : s.gens = #[])
    (spec : ∀ args, c.pre args = true → WData.layableAll args = true → ∀ ord : List DictEntry → List DictEntry, (∀ l, (ord l).Perm l) →
      ∃ vs s₁, layAllW c.records (classAt s.heap) w.params ord args s = some (vs, s₁) ∧
        wpC (model c.prog w) callerA (tree vs) (fun fin s' => ∃ f, fin = .done f ∧ (c.Ends s args vs s₁ (.ok f) s' ∧ s'.os = s.os ∧ kept s'.heap) ∧ AllBare s'.gens)
          (fun e s' => (c.Ends s args vs s₁ (.error e) s' ∧ s'.os = s.os ∧ kept s'.heap) ∧ AllBare s'.gens) s₁) :
    c.CallFrom (fun vs => ⟨tree vs, .builtin "claim.caller" {}, default, []⟩) w free gens kept s := fun args hpre hlay ord hord => by
  obtain ⟨vs, s₁, laid, run⟩ := spec args hpre hlay ord hord
  have rest := layAllW_rest _ _ _ laid
  obtain ⟨k, r, s', s'', hrun, hsched, hfo, hends, hos, hkp⟩ := thread_C (R := fun r s' => c.Ends s args vs s₁ r s' ∧ s'.os = s.os ∧ kept s'.heap) (Shared.asleep_of_life rest.2.2.2 hz) run
  obtain ⟨eh, _, _, eo, _⟩ := Shared.forget_eq hfo
  replace hends := hends.congr eh
  rw [← eh] at hkp
  rw [← eo] at hos
  refine ⟨vs, s₁, laid, k, _, s', hsched, ?_, fun _ i x hx => by rw [hgens] at hx; simp at hx, hkp, by rw [(runN_life _ _ _ hrun).trans rest.2.2.2], Shared.rest_eq hos⟩
  rcases hends with ⟨v, rfl, d1, d2, d3, d4, d5⟩ | ⟨e, ob, cls, rfl, d1, d2, d3, d4, d5⟩
  · exact .inl ⟨v, rfl, d1, d2, d3, fun b o y _ => d4 b o y, d5⟩
  · exact .inr ⟨e, ob, cls, rfl, d1, d2, d3, d4, fun b o y _ => d5 b o y⟩

noncomputable abbrev WalkC (q : Program) (loose : List Str) (XP : (Str → Option Value) → Heap → Prop) (YP : World → Heap → Prop) (r : RowW) (d : DefRec) (kwd : List (Str × Expr)) : Prop :=
  ∀ (w : World) (s₀ s₁ : Shared) (mg mb : Str → Option Value), Ground q loose r.records XP w s₀ mg mb s₁.heap → YP w s₁.heap → ∀ (a : Addr) (o : Obj) (pm cd doc dV kV : Value), s₁.heap.get? a = some o →
    o.data = .func { Calls.docDef d.name d.params d.body d.scope pm cd doc with defaults := dV, kwdefaults := kV } → s₁.heap.CodeRec cd d.name → Dflts mg s₁.heap d.params kwd dV kV → mg d.name = some (.ref a) → s₁.gens = #[] →
    ∀ (args : List WData) (vals : List Value) (as : List Addr), r.claim.pre args = true → WData.layableAll args = true → ReadsAllW r.records (classAt s₀.heap) s₁.heap vals args as → WellAll w.params s₁.heap vals args → (∀ a ∈ as, (a == sysModules) = false) →
      wpC (model r.prog w) callerA (PySem.call (.ref a) vals) (fun v s' => GoodWG r.claim (classAt s₀.heap) (ExcName.means s₀.heap) args s₁ (.ok (.ret v)) s')
        (fun e s' => GoodWG r.claim (classAt s₀.heap) (ExcName.means s₀.heap) args s₁ (.error e) s') s₁

theorem PySem.W.holds_open {r : OpenRow} {q : Program} {loose : List Str} {Xt : Shared → Bool} {XP : (Str → Option Value) → Heap → Prop} {α : Type} {Yf : Shared → α} {Ya : World → α} {YP : World → Heap → Prop} {d : DefRec} {kwd : List (Str × Expr)} {N : Nat}
    (left : LeftO r.prog q loose Xt Yf Ya N) (hY : ∀ w s, Yf s = Ya w → YP w s.heap) (hYk : ∀ w h h', YP w h → (∀ b o, h.get? b = some o → h'.get? b = some o) → YP w h')
    (hX : ∀ s, Xt s = true → XP (s.heap.nsMap mainGlobals) s.heap) (hXk : ∀ mg h h', XP mg h → (∀ b o, h.get? b = some o → h'.get? b = some o) → XP mg h')
    (hdef : defOf q r.name = some (d, kwd)) (hp : r.prog.theDef r.name = some (d.params, d.body, d.scope)) (hk : kwWritten? d.params.kwonlyargs d.params.kw_defaults = some kwd) (hRf : ∀ s, Xt s = true → RecFacts r.records s.heap) (hwr : (!r.writes || r.records.isEmpty) = true)
    (k1 : r.wellSaid = true) (ok : (chainsOk q && opensWell r.prog && (frees r.toRowW && r.within.isEmpty)) = true) (hb : r.prog.bare) (hw : r.toRowW.promised)
    (call : WalkC q loose XP YP r.toRowW d kwd) : r.Holds := by
  obtain ⟨ok, kw⟩ := Bool.and_eq_true_iff.mp ok
  obtain ⟨hch, ho⟩ := Bool.and_eq_true_iff.mp ok
  obtain ⟨kf, kin⟩ := Bool.and_eq_true_iff.mp kw
  obtain ⟨hsame, hu, ha, hap, hm⟩ := frees_parts kf
  refine ⟨k1, hw, ⟨hb, ho, by show r.toRowW.makers.map _ = []; rw [hm]; rfl⟩, hw.witness, fun w => ⟨(left.behind hX hch w).1, fun s' hs' => ?_⟩⟩
  obtain ⟨s₀, hf, hg0, s, hT, hz, hgens, hg, G00, y⟩ := (left.behind (XP := fun mg h => XP mg h ∧ RecFacts r.records h) (fun s hs => ⟨hX s hs, hRf s hs⟩) hch w).2 s' hs'
  have G0 : Ground q loose [] XP w s (s.heap.nsMap mainGlobals) (s.heap.nsMap builtinsNs) s.heap := ⟨G00.T, G00.B, G00.D, G00.TE, G00.TD, G00.W, G00.X.1, G00.cls, G00.has, G00.apart, G00.once, G00.K⟩
  have RF := G00.X.2
  have hT' := hT
  refine ⟨s₀, hf, hg0, s, hT, fun n hn => ?_, RF.1, RF.2.1, ?_⟩
  · obtain rfl : n = r.name := by split at hn <;> simp_all
    exact pinned_of_view hg G0 hdef hp hk
  have hgens : s.gens = #[] := Array.eq_empty_of_size_eq_zero (beq_iff_eq.mp hgens)
  have G : Ground q loose r.records XP w s _ _ s.heap := RF.ground G0
  refine callFrom_C (c := r.toRowW.claim) (tree := fun vs => do match ← nsGet mainNs r.name with
      | some f => do ret (← PySem.call f vs)
      | none => unsupported "claim.caller:no-such-global") hz hgens fun args hpre hlay ord hord => ?_
  obtain ⟨⟨vs, s₁⟩, hlaid⟩ := Option.isSome_iff_exists.mp (layAllW_isSome (P := w.params) (ord := ord) G.has args r.args s (pre_splitW hpre).1)
  have keeps := layAllW_keeps _ _ _ hlaid
  have hal := layAllW_rest _ _ _ hlaid
  obtain ⟨as, hrd, hin, hold⟩ := reads_layAllW hord _ _ _ hlaid hlay s₁.heap (fun _ _ e => e)
  have L : Laid r.records w s s₁ args vs as := ⟨⟨ord, hord, hlaid⟩, hrd, hin, hold, keeps, hal.1.trans hgens, hal.2.2.1⟩
  have G₁ := G.keeps hXk keeps
  obtain ⟨a, o, pm, cd, doc, dV, kV, h1, h2, h3, h4, h5⟩ := G₁.fn hdef
  have run := call w s s₁ _ _ G₁ (hYk _ _ _ (hY w s y) keeps) a o pm cd doc dV kV h2 h3 h4 h5 (defOf_name hdef ▸ h1) L.gens args vs as hpre hlay L.reads L.well (L.low G.low)
  have hi := ident_freeW hu ha hap
  have hwi : r.toRowW.claim.within = [] := List.isEmpty_iff.mp kin
  refine ⟨vs, s₁, hlaid, C_bindA (wpAny_nsGet G₁.T.g ?_)⟩
  rw [h1]
  refine C_bind (C_mono run (fun v s' g => C_pure ?_) fun e s' g => ?_)
  · have z := g.laid (c := r.toRowW.claim) hsame hwi hi L
    exact ⟨_, rfl, ⟨z.1, z.2.1, fun q => ⟨namesKept_of hT' hg _ keeps g.2.1.old, noTable hwr q⟩⟩, z.2.2⟩
  · have z := g.laid (c := r.toRowW.claim) hsame hwi hi L
    exact ⟨⟨z.1, z.2.1, fun q => ⟨namesKept_of hT' hg _ keeps g.2.1.old, noTable hwr q⟩⟩, z.2.2⟩
end Mine
set_option maxHeartbeats 8000000
namespace Mine
noncomputable abbrev hd.pw : Program := PySem.Challenge.pw_in0260_01
noncomputable def hd.fdAt (p : Program) (i : Nat) : Option (Str × Arguments × List Stmt × Scope) := match p.main.body[i]? with
  | some (.FunctionDef name ps body _ _ _ scope _ _ _) => some (name, ps, body, scope)
  | _ => none
noncomputable abbrev hd.fnO (i : Nat) (mod : String) (t : Tok) (c : Addr) {name : Str} {ps : Arguments} {body : List Stmt} {scope : Scope} (_ : hd.fdAt PySem.Challenge.pw_in0260_01 i = some (name, ps, body, scope)) : Obj :=
  { cls := .type "function", data := .func (FuncData.mk name name ps (.stmts body) scope 3 [] .none .none .none (.str (Str.ofString mod) t) none (.ref c) .none 0) }
noncomputable abbrev hd.gE (P : Params) (n : String) (t : Tok) (v : Value) : DictEntry := ⟨PyData.keyHash P (Str.ofString n), .str (Str.ofString n) t, v⟩
noncomputable abbrev hd.eE (c : Nat) (t u : Tok) : DictEntry := ⟨c, .int c t, .str ⟨#[92, c]⟩ u⟩
open hd in
noncomputable def hd.heap_39 : Params → Frag := fun P =>
  (nat_lit 3, { cls := .type "dict", data := .dict #[gE P "__name__" 165 (Value.str (Str.ofString "law_in0260_01") 571), gE P "__doc__" 166 Value.none, gE P "__package__" 167 Value.none, gE P "__loader__" 168 (Value.builtin "__main__.__loader__#opaque"), gE P "__spec__" 169 Value.none, gE P "__annotations__" 170 (Value.ref 6), gE P "__builtins__" 171 (Value.ref 4), gE P "__file__" 173 (Value.str (Str.ofString "/claim/cut.py") 172), gE P "__cached__" 174 Value.none, gE P "_sre" 275 (Value.ref 12), gE P "bytes_types" 284 (Value.ref 32), gE P "_bytes_from_decode_data" 291 (Value.ref 39), gE P "_twin_re_1" 329 (Value.ref 44), gE P "_special_chars_map" 477 (Value.ref 46), gE P "escape" 484 (Value.ref 56), gE P "_translate" 505 (Value.ref 63), gE P "concat" 516 (Value.ref 70), gE P "countOf" 526 (Value.ref 77), gE P "delitem" 534 (Value.ref 84), gE P "getitem" 542 (Value.ref 91), gE P "indexOf" 552 (Value.ref 98), gE P "setitem" 561 (Value.ref 105), gE P "iconcat" 570 (Value.ref 112), gE P "_law_items" 582 (Value.ref 119), gE P "_law_rows" 592 (Value.ref 126), gE P "_law_deed" 601 (Value.ref 133), gE P "_law_told" 611 (Value.ref 140), gE P "law" 617 (Value.ref 145)] 28 }) ::
  (nat_lit 32, Obj.mk (Value.type "tuple") Option.none (Data.seq #[Value.type "bytes", Value.type "bytearray"]) #[]) ::
  (nat_lit 38, Obj.mk (Value.type "code") Option.none (Data.fields #[Value.str (Str.ofString "_bytes_from_decode_data") 285, Value.str (Str.ofString "_bytes_from_decode_data") 286, Value.str (Str.ofString "/claim/cut.py") 287, Value.int 4 0, Value.int 1 0, Value.int 0 0, Value.int 0 0, Value.int 3 0, Value.ref 33, Value.bool Bool.true, Value.int 276 0, Value.ref 34, Value.none, Value.ref 35, Value.ref 36, Value.ref 37, Value.int 289 0, Value.int 4 0, Value.str (Str.ofString "/claim/cut.py") 290]) #[]) ::
  (nat_lit 39, fnO 3 "cpy313.base64" 282 38 rfl) ::
  (nat_lit 43, Obj.mk (Value.type "tuple") Option.none (Data.seq #[Value.int 14 0, Value.int 14 0, Value.int 4 0, Value.int 1 0, Value.int 1 0, Value.int 9 0, Value.int 0 0, Value.int 64 0, Value.int 0 0, Value.int 1342177280 0, Value.int 0 0, Value.int 0 0, Value.int 0 0, Value.int 0 0, Value.int 0 0, Value.int 17 0, Value.int 0 0, Value.int 13 0, Value.int 11 0, Value.int 9 0, Value.int 0 0, Value.int 64 0, Value.int 0 0, Value.int 1342177280 0, Value.int 0 0, Value.int 0 0, Value.int 0 0, Value.int 0 0, Value.int 0 0, Value.int 17 0, Value.int 1 0, Value.int 1 0]) #[]) ::
  (nat_lit 44, Obj.mk (Value.type "re.Pattern") Option.none (Data.fields #[Value.str (Str.ofString "([&~|])") 293, Value.int 32 328, Value.int 1 0, Value.none, Value.none, Value.ref 43, Value.int 0 0]) #[]) ::
  (nat_lit 46, { cls := .type "dict", data := .dict #[eE 40 333 337, eE 41 339 343, eE 91 345 349, eE 93 351 355, eE 123 357 361, eE 125 363 367, eE 63 369 373, eE 42 375 379, eE 43 381 385, eE 45 387 391, eE 124 393 397, eE 94 399 403, eE 36 405 409, eE 92 411 415, eE 46 417 421, eE 38 423 427, eE 126 429 433, eE 35 435 439, eE 32 441 445, eE 9 447 451, eE 10 453 457, eE 13 459 463, eE 11 465 469, eE 12 471 475] 24 }) ::
  (nat_lit 55, Obj.mk (Value.type "code") Option.none (Data.fields #[Value.str (Str.ofString "escape") 478, Value.str (Str.ofString "escape") 479, Value.str (Str.ofString "/claim/cut.py") 480, Value.int 19 0, Value.int 1 0, Value.int 0 0, Value.int 0 0, Value.int 3 0, Value.ref 50, Value.bool Bool.true, Value.int 276 0, Value.ref 51, Value.none, Value.ref 52, Value.ref 53, Value.ref 54, Value.int 482 0, Value.int 19 0, Value.str (Str.ofString "/claim/cut.py") 483]) #[]) ::
  (nat_lit 56, fnO 7 "re" 330 55 rfl) ::
  (nat_lit 62, Obj.mk (Value.type "code") Option.none (Data.fields #[Value.str (Str.ofString "_translate") 487, Value.str (Str.ofString "_translate") 488, Value.str (Str.ofString "/claim/cut.py") 489, Value.int 26 0, Value.int 3 0, Value.int 0 0, Value.int 0 0, Value.int 3 0, Value.ref 57, Value.bool Bool.true, Value.int 276 0, Value.ref 58, Value.none, Value.ref 59, Value.ref 60, Value.ref 61, Value.int 503 0, Value.int 26 0, Value.str (Str.ofString "/claim/cut.py") 504]) #[]) ::
  (nat_lit 63, fnO 9 "cpy313.fnmatch" 485 62 rfl) ::
  (nat_lit 69, Obj.mk (Value.type "code") Option.none (Data.fields #[Value.str (Str.ofString "concat") 508, Value.str (Str.ofString "concat") 509, Value.str (Str.ofString "/claim/cut.py") 510, Value.int 89 0, Value.int 2 0, Value.int 0 0, Value.int 0 0, Value.int 3 0, Value.ref 64, Value.bool Bool.true, Value.int 276 0, Value.ref 65, Value.none, Value.ref 66, Value.ref 67, Value.ref 68, Value.int 514 0, Value.int 89 0, Value.str (Str.ofString "/claim/cut.py") 515]) #[]) ::
  (nat_lit 70, fnO 11 "cpy313.operator" 506 69 rfl) ::
  (nat_lit 76, Obj.mk (Value.type "code") Option.none (Data.fields #[Value.str (Str.ofString "countOf") 517, Value.str (Str.ofString "countOf") 518, Value.str (Str.ofString "/claim/cut.py") 519, Value.int 94 0, Value.int 2 0, Value.int 0 0, Value.int 0 0, Value.int 3 0, Value.ref 71, Value.bool Bool.true, Value.int 276 0, Value.ref 72, Value.none, Value.ref 73, Value.ref 74, Value.ref 75, Value.int 524 0, Value.int 94 0, Value.str (Str.ofString "/claim/cut.py") 525]) #[]) ::
  (nat_lit 77, fnO 12 "cpy313.operator" 506 76 rfl) ::
  (nat_lit 83, Obj.mk (Value.type "code") Option.none (Data.fields #[Value.str (Str.ofString "delitem") 527, Value.str (Str.ofString "delitem") 528, Value.str (Str.ofString "/claim/cut.py") 529, Value.int 100 0, Value.int 2 0, Value.int 0 0, Value.int 0 0, Value.int 3 0, Value.ref 78, Value.bool Bool.true, Value.int 276 0, Value.ref 79, Value.none, Value.ref 80, Value.ref 81, Value.ref 82, Value.int 532 0, Value.int 100 0, Value.str (Str.ofString "/claim/cut.py") 533]) #[]) ::
  (nat_lit 84, fnO 13 "cpy313.operator" 506 83 rfl) ::
  (nat_lit 90, Obj.mk (Value.type "code") Option.none (Data.fields #[Value.str (Str.ofString "getitem") 535, Value.str (Str.ofString "getitem") 536, Value.str (Str.ofString "/claim/cut.py") 537, Value.int 102 0, Value.int 2 0, Value.int 0 0, Value.int 0 0, Value.int 3 0, Value.ref 85, Value.bool Bool.true, Value.int 276 0, Value.ref 86, Value.none, Value.ref 87, Value.ref 88, Value.ref 89, Value.int 540 0, Value.int 102 0, Value.str (Str.ofString "/claim/cut.py") 541]) #[]) ::
  (nat_lit 91, fnO 14 "cpy313.operator" 506 90 rfl) ::
  (nat_lit 97, Obj.mk (Value.type "code") Option.none (Data.fields #[Value.str (Str.ofString "indexOf") 543, Value.str (Str.ofString "indexOf") 544, Value.str (Str.ofString "/claim/cut.py") 545, Value.int 104 0, Value.int 2 0, Value.int 0 0, Value.int 0 0, Value.int 3 0, Value.ref 92, Value.bool Bool.true, Value.int 276 0, Value.ref 93, Value.none, Value.ref 94, Value.ref 95, Value.ref 96, Value.int 550 0, Value.int 104 0, Value.str (Str.ofString "/claim/cut.py") 551]) #[]) ::
  (nat_lit 98, fnO 15 "cpy313.operator" 506 97 rfl) ::
  (nat_lit 104, Obj.mk (Value.type "code") Option.none (Data.fields #[Value.str (Str.ofString "setitem") 553, Value.str (Str.ofString "setitem") 554, Value.str (Str.ofString "/claim/cut.py") 555, Value.int 110 0, Value.int 3 0, Value.int 0 0, Value.int 0 0, Value.int 3 0, Value.ref 99, Value.bool Bool.true, Value.int 276 0, Value.ref 100, Value.none, Value.ref 101, Value.ref 102, Value.ref 103, Value.int 559 0, Value.int 110 0, Value.str (Str.ofString "/claim/cut.py") 560]) #[]) ::
  (nat_lit 105, fnO 16 "cpy313.operator" 506 104 rfl) ::
  (nat_lit 111, Obj.mk (Value.type "code") Option.none (Data.fields #[Value.str (Str.ofString "iconcat") 562, Value.str (Str.ofString "iconcat") 563, Value.str (Str.ofString "/claim/cut.py") 564, Value.int 112 0, Value.int 2 0, Value.int 0 0, Value.int 0 0, Value.int 3 0, Value.ref 106, Value.bool Bool.true, Value.int 276 0, Value.ref 107, Value.none, Value.ref 108, Value.ref 109, Value.ref 110, Value.int 568 0, Value.int 112 0, Value.str (Str.ofString "/claim/cut.py") 569]) #[]) ::
  (nat_lit 112, fnO 17 "cpy313.operator" 506 111 rfl) ::
  (nat_lit 118, Obj.mk (Value.type "code") Option.none (Data.fields #[Value.str (Str.ofString "_law_items") 573, Value.str (Str.ofString "_law_items") 574, Value.str (Str.ofString "/claim/cut.py") 575, Value.int 119 0, Value.int 2 0, Value.int 0 0, Value.int 0 0, Value.int 3 0, Value.ref 113, Value.bool Bool.true, Value.int 276 0, Value.ref 114, Value.none, Value.ref 115, Value.ref 116, Value.ref 117, Value.int 580 0, Value.int 119 0, Value.str (Str.ofString "/claim/cut.py") 581]) #[]) ::
  (nat_lit 119, fnO 19 "law_in0260_01" 571 118 rfl) ::
  (nat_lit 125, Obj.mk (Value.type "code") Option.none (Data.fields #[Value.str (Str.ofString "_law_rows") 583, Value.str (Str.ofString "_law_rows") 584, Value.str (Str.ofString "/claim/cut.py") 585, Value.int 129 0, Value.int 1 0, Value.int 0 0, Value.int 0 0, Value.int 3 0, Value.ref 120, Value.bool Bool.true, Value.int 276 0, Value.ref 121, Value.none, Value.ref 122, Value.ref 123, Value.ref 124, Value.int 590 0, Value.int 129 0, Value.str (Str.ofString "/claim/cut.py") 591]) #[]) ::
  (nat_lit 126, fnO 20 "law_in0260_01" 571 125 rfl) ::
  (nat_lit 132, Obj.mk (Value.type "code") Option.none (Data.fields #[Value.str (Str.ofString "_law_deed") 593, Value.str (Str.ofString "_law_deed") 594, Value.str (Str.ofString "/claim/cut.py") 595, Value.int 137 0, Value.int 3 0, Value.int 0 0, Value.int 0 0, Value.int 3 0, Value.ref 127, Value.bool Bool.true, Value.int 276 0, Value.ref 128, Value.none, Value.ref 129, Value.ref 130, Value.ref 131, Value.int 599 0, Value.int 137 0, Value.str (Str.ofString "/claim/cut.py") 600]) #[]) ::
  (nat_lit 133, fnO 21 "law_in0260_01" 571 132 rfl) ::
  (nat_lit 139, Obj.mk (Value.type "code") Option.none (Data.fields #[Value.str (Str.ofString "_law_told") 602, Value.str (Str.ofString "_law_told") 603, Value.str (Str.ofString "/claim/cut.py") 604, Value.int 148 0, Value.int 4 0, Value.int 0 0, Value.int 0 0, Value.int 3 0, Value.ref 134, Value.bool Bool.true, Value.int 276 0, Value.ref 135, Value.none, Value.ref 136, Value.ref 137, Value.ref 138, Value.int 609 0, Value.int 148 0, Value.str (Str.ofString "/claim/cut.py") 610]) #[]) ::
  (nat_lit 140, fnO 22 "law_in0260_01" 571 139 rfl) ::
  (nat_lit 144, Obj.mk (Value.type "code") Option.none (Data.fields #[Value.str (Str.ofString "law") 612, Value.str (Str.ofString "law") 613, Value.str (Str.ofString "/claim/cut.py") 614, Value.int 154 0, Value.int 1 0, Value.int 0 0, Value.int 0 0, Value.int 3 0, Value.ref 141, Value.bool Bool.true, Value.int 276 0, Value.ref 142, Value.none, Value.none, Value.none, Value.ref 143, Value.int 615 0, Value.int 154 0, Value.str (Str.ofString "/claim/cut.py") 616]) #[]) ::
  (nat_lit 145, fnO 23 "law_in0260_01" 571 144 rfl) :: []
noncomputable def hd.as39 : List Addr := [3, 32, 38, 39, 43, 44, 46, 55, 56, 62, 63, 69, 70, 76, 77, 83, 84, 90, 91, 97, 98, 104, 105, 111, 112, 118, 119, 125, 126, 132, 133, 139, 140, 144, 145]
noncomputable def hd.view_39 : Program := PySem.W.view PySem.Challenge.pw_in0260_01 [0, 2, 3, 4, 6, 7, 9, 11, 12, 13, 14, 15, 16, 17, 19, 20, 21, 22, 23]
noncomputable abbrev hd.loose : List Str := [Str.ofString "bytes_types", Str.ofString "_twin_re_1", Str.ofString "_special_chars_map"]
theorem hd.as_eq : ∀ P, hd.as39 = (hd.heap_39 P).map (·.1) := fun _ => rfl
noncomputable abbrev hd.hook : Hook := kmHook hd.heap_39 hd.as39 hd.as_eq [58]
noncomputable abbrev hd.Xt : Shared → Bool := fun s => xlAt hd.view_39 [] s && recOk PySem.Challenge.rw_in0260_01.row.records s
noncomputable def hd.LeftP (w : World) : Prop := (openEnds treeTable PySem.Challenge.pw_in0260_01 w 3852).map (fun s => (openSeen hd.view_39 hd.loose (importedModules PySem.Challenge.pw_in0260_01.main.body) hd.Xt true s, hd.hook.obs s)) = some (openGood hd.view_39 hd.loose, hd.hook.val w)
theorem hd.left_ff (w : World) : hd.LeftP ((w.withFollow "special-get-raises" false).withFollow "comprehension-iter-twice" false) := by
  unfold hd.LeftP openEnds fencedOpening topFrom
  rw [PySem.W.Fast.te10274390034422433532, PySem.W.Fast.te14289696077712309145, PySem.W.Fast.te1435165496053646825, PySem.W.Fast.te14364793385576792824, PySem.W.Fast.te14082659384304107361, PySem.W.Fast.te4187177175401517315]
  kernel_rfl
theorem hd.left_ft (w : World) : hd.LeftP ((w.withFollow "special-get-raises" true).withFollow "comprehension-iter-twice" false) := by
  unfold hd.LeftP openEnds fencedOpening topFrom
  rw [PySem.W.Fast.te10274390034422433532, PySem.W.Fast.te14289696077712309145, PySem.W.Fast.te1435165496053646825, PySem.W.Fast.te14364793385576792824, PySem.W.Fast.te14082659384304107361, PySem.W.Fast.te4187177175401517315]
  kernel_rfl
theorem hd.left_tf (w : World) : hd.LeftP ((w.withFollow "special-get-raises" false).withFollow "comprehension-iter-twice" true) := by
  unfold hd.LeftP openEnds fencedOpening topFrom
  rw [PySem.W.Fast.te10274390034422433532, PySem.W.Fast.te14289696077712309145, PySem.W.Fast.te1435165496053646825, PySem.W.Fast.te14364793385576792824, PySem.W.Fast.te14082659384304107361, PySem.W.Fast.te4187177175401517315]
  kernel_rfl
theorem hd.left_tt (w : World) : hd.LeftP ((w.withFollow "special-get-raises" true).withFollow "comprehension-iter-twice" true) := by
  unfold hd.LeftP openEnds fencedOpening topFrom
  rw [PySem.W.Fast.te10274390034422433532, PySem.W.Fast.te14289696077712309145, PySem.W.Fast.te1435165496053646825, PySem.W.Fast.te14364793385576792824, PySem.W.Fast.te14082659384304107361, PySem.W.Fast.te4187177175401517315]
  kernel_rfl
theorem hd.left_all (w : World) : hd.LeftP w :=
  byRow2 "comprehension-iter-twice" (P := hd.LeftP) (fun w => byRow2 "special-get-raises" (P := fun w => hd.LeftP (w.withFollow "comprehension-iter-twice" false)) hd.left_ff hd.left_ft w) (fun w => byRow2 "special-get-raises" (P := fun w => hd.LeftP (w.withFollow "comprehension-iter-twice" true)) hd.left_tf hd.left_tt w) w
theorem hd.left : LeftO PySem.Challenge.pw_in0260_01 hd.view_39 hd.loose hd.Xt hd.hook.obs hd.hook.val 3852 := fun w => by
  have h := hd.left_all w
  unfold hd.LeftP at h
  exact h
theorem hd.said : PySem.Challenge.rw_in0260_01.wellSaid = true := by
  rw [PySem.W.Fast.te9446332074065402090]
  kernel_rfl
theorem hd {d : DefRec} {kwd : List (Str × Expr)} (hdef : defOf hd.view_39 PySem.Challenge.rw_in0260_01.row.name = some (d, kwd)) (hp : PySem.Challenge.rw_in0260_01.row.prog.theDef PySem.Challenge.rw_in0260_01.row.name = some (d.params, d.body, d.scope))
    (hk : kwWritten? d.params.kwonlyargs d.params.kw_defaults = some kwd) (walk : WalkC hd.view_39 hd.loose (XL hd.view_39 []) hd.hook.says PySem.Challenge.rw_in0260_01.row.toRowW d kwd) : PySem.Challenge.rw_in0260_01.Holds := by
  refine holds_law hd.said fun said => ?_
  exact PySem.W.holds_open (q := hd.view_39) (loose := hd.loose) (Xt := hd.Xt) (XP := XL hd.view_39 []) (Yf := hd.hook.obs) (Ya := hd.hook.val) (YP := hd.hook.says) (N := 3852) hd.left (Hook.of hd.hook) (Hook.keeps hd.hook) (fun s e => xl_of s (Bool.and_eq_true_iff.mp e).1) XL.keeps
    hdef hp hk (fun s e => recFacts_of (Bool.and_eq_true_iff.mp e).2) (by rfl) said (by decide +kernel) ⟨rfl, rfl, rfl, rfl, rfl, by decide +kernel⟩ ⟨[WData.list []], by decide +kernel, by decide +kernel⟩ walk
end Mine
namespace Mine
/-- a run by the kernel's evaluation. rw: the objects that the run reads, changes or makes (ro: reads alone), nw objects made, tk tokens drawn,
ps: equations of addresses that are asked for. No address is compared: hints say which entry is met. -/
structure ESt where
  rw : List (Addr × Obj)
  nw : Nat
  tk : Nat
  ps : List (Addr × Addr)
inductive Leaf (α : Type) where
  | ret (a : α)
  | exc (e : Value)
inductive EOut (α : Type) where
  | ok (l : Leaf α) (st : ESt) (hs : List Nat)
  | stop (why : Nat) (st : ESt) (hs : List Nat)
  | stopW (why : String)
structure ECfg where
  S : Setting
  den : Code → Sem Fin
  N : Nat
  T : Nat
  ro : List (Addr × Obj)
noncomputable def nthL : List (Addr × Obj) → Nat → Option (Addr × Obj)
  | [], _ => none
  | x :: _, 0 => some x
  | _ :: l, n + 1 => nthL l n
noncomputable def setL : List (Addr × Obj) → Nat → Obj → List (Addr × Obj)
  | [], _, _ => []
  | x :: l, 0, o => (x.1, o) :: l
  | x :: l, n + 1, o => x :: setL l n o
/-- hint 2i: ro's entry i; 2i+1: rw's entry i -/
noncomputable def pick (C : ECfg) (st : ESt) (h : Nat) : Option (Addr × Obj) := match Nat.beq (h % 2) 0 with
  | true => nthL C.ro (h / 2)
  | false => nthL st.rw (h / 2)
noncomputable def evTree (C : ECfg) (callee : Option Value → Code → ESt → List Nat → EOut Fin) (hd : Option Value) {α : Type} : Sem α → ESt → List Nat → EOut α
  | .pure a, st, hs => .ok (.ret a) st hs
  | .raise e, st, hs => .ok (.exc e) st hs
  | .rule _ k, st, hs => evTree C callee hd (k ()) st hs
  | .at _ k, st, hs => evTree C callee hd (k ()) st hs
  | .point _ k, st, hs => evTree C callee hd (k ()) st hs
  | .ask k, st, hs => evTree C callee hd (k C.S) st hs
  | .load a _ k, st, hs => match hs with
    | [] => .stop 1 st []
    | h :: hs => match pick C st h with
      | some (b, o) => evTree C callee hd (k o) { st with ps := (a, b) :: st.ps } hs
      | none => .stop 2 st hs
  | .loadIfAlive a k, st, hs => match hs with
    | [] => .stop 3 st []
    | h :: hs => match pick C st h with
      | some (b, o) => evTree C callee hd (k (some o)) { st with ps := (a, b) :: st.ps } hs
      | none => .stop 4 st hs
  | .update a _ f k, st, hs => match hs with
    | [] => .stop 5 st []
    | h :: hs => match nthL st.rw (h / 2) with
      | some (b, o) => match (f o).isFreed with
        | false => evTree C callee hd (k ()) { st with rw := setL st.rw (h / 2) (f o), ps := (a, b) :: st.ps } hs
        | true => .stop 6 st hs
      | none => .stop 7 st hs
  | .alloc o k, st, hs => match o.isFreed with
    | false => evTree C callee hd (k (C.N + st.nw)) { st with rw := st.rw ++ [(C.N + st.nw, o)], nw := st.nw + 1 } hs
    | true => .stop 8 st hs
  | .fresh k, st, hs => evTree C callee hd (k (C.T + st.tk)) { st with tk := st.tk + 1 } hs
  | .handled false k, st, hs => evTree C callee hd (k hd) st hs
  | .call c h _ _ k, st, hs => match X.okMark h with
    | false => .stop 10 st hs
    | true => match callee (h.or hd) c st hs with
      | .ok (.ret (.done f)) st hs => evTree C callee hd (k (.ok f)) st hs
      | .ok (.ret (.again _)) st hs => .stop 9 st hs
      | .ok (.exc e) st hs => evTree C callee hd (k (.error e)) st hs
      | .stop n st hs => .stop n st hs
      | .stopW w => .stopW w
  | .unsupported w, _, _ => .stopW w
  | .stack _, st, hs => .stop 20 st hs
  | .genState .., st, hs => .stop 21 st hs
  | .newGen .., st, hs => .stop 22 st hs
  | .resume .., st, hs => .stop 23 st hs
  | _, st, hs => .stop 30 st hs
noncomputable def evCode (C : ECfg) : Nat → Option Value → Code → ESt → List Nat → EOut Fin
  | 0, _, _, st, hs => .stop 40 st hs
  | n + 1, hd, c, st, hs => match evTree C (evCode C n) hd (C.den c) st hs with
    | .ok (.ret (.again c')) st hs => match c'.quiet with
      | true => evCode C n hd c' st hs
      | false => .stop 41 st hs
    | .ok (.ret (.done f)) st hs => .ok (.ret (.done f)) st hs
    | .ok (.exc e) st hs => .ok (.exc e) st hs
    | .stop n st hs => .stop n st hs
    | .stopW w => .stopW w

theorem nthL_mem {x : Addr × Obj} : ∀ (l : List (Addr × Obj)) (n : Nat), nthL l n = some x → x ∈ l := by
  intro l
  induction l with
  | nil => intro n h; simp [nthL] at h
  | cons y l ih =>
    intro n h
    cases n with
    | zero => simp only [nthL] at h; cases h; exact List.mem_cons_self
    | succ n => simp only [nthL] at h; exact List.mem_cons_of_mem _ (ih n h)
theorem setL_keys : ∀ (l : List (Addr × Obj)) (n : Nat) (o : Obj), (setL l n o).map (·.1) = l.map (·.1)
  | [], _, _ => rfl
  | _ :: _, 0, _ => rfl
  | x :: l, n + 1, o => by show x.1 :: (setL l n o).map (·.1) = _; rw [setL_keys l n o]; rfl
theorem setL_mem {b : Addr} {o o' : Obj} : ∀ (l : List (Addr × Obj)) (n : Nat), nthL l n = some (b, o) → (l.map (·.1)).Nodup → ∀ p ∈ setL l n o', p = (b, o') ∨ (p ∈ l ∧ p.1 ≠ b) := by
  intro l
  induction l with
  | nil => intro n h; simp [nthL] at h
  | cons y l ih =>
    intro n h hn p hp
    rw [List.map_cons, List.nodup_cons] at hn
    cases n with
    | zero =>
      simp only [nthL] at h
      cases h
      simp only [setL] at hp
      rcases List.mem_cons.mp hp with rfl | hp
      · exact .inl rfl
      · exact .inr ⟨List.mem_cons_of_mem _ hp, fun e => hn.1 (e ▸ List.mem_map_of_mem (f := (·.1)) hp)⟩
    | succ n =>
      simp only [nthL] at h
      simp only [setL] at hp
      rcases List.mem_cons.mp hp with rfl | hp
      · exact .inr ⟨List.mem_cons_self, fun e => hn.1 (e ▸ List.mem_map_of_mem (f := (·.1)) (nthL_mem l n h))⟩
      · rcases ih n h hn.2 p hp with h1 | ⟨h1, h2⟩
        · exact .inl h1
        · exact .inr ⟨List.mem_cons_of_mem _ h1, h2⟩

structure EInv (C : ECfg) (st : ESt) (s : Shared) : Prop where
  size : C.N + st.nw = s.heap.objs.size
  toks : C.T + st.tk = s.toks
  ro : ∀ p ∈ C.ro, s.heap.get? p.1 = some p.2
  rw : ∀ p ∈ st.rw, s.heap.get? p.1 = some p.2
  nd : (st.rw.map (·.1)).Nodup
  ap : ∀ p ∈ C.ro, ∀ q ∈ st.rw, p.1 ≠ q.1
/-- what is kept from s to s': all but the entries of the start -/
noncomputable def EKeep (keys : List Addr) (s s' : Shared) : Prop := s' = { s with heap := s'.heap, toks := s'.toks } ∧ ∀ b o, b ∉ keys → s.heap.get? b = some o → s'.heap.get? b = some o
theorem EKeep.refl (keys : List Addr) (s : Shared) : EKeep keys s s := ⟨rfl, fun _ _ _ e => e⟩
theorem EKeep.trans {keys keys' : List Addr} {s s₁ s₂ : Shared} (h1 : EKeep keys s s₁) (h2 : EKeep keys' s₁ s₂) (hk : ∀ b ∈ keys', b ∈ keys ∨ s.heap.get? b = none) : EKeep keys s s₂ :=
  ⟨by rw [h2.1, h1.1], fun b o hb e => h2.2 b o (fun hb' => (hk b hb').elim hb fun e' => by rw [e'] at e; cases e) (h1.2 b o hb e)⟩
/-- the keys after a run: the keys of the start, and new ones -/
noncomputable def EKeys (st st' : ESt) (s : Shared) : Prop := ∀ b ∈ st'.rw.map (·.1), b ∈ st.rw.map (·.1) ∨ s.heap.get? b = none
theorem EKeys.refl (st : ESt) (s : Shared) : EKeys st st s := fun _ h => .inl h

theorem EInv.update {C : ECfg} {st : ESt} {s : Shared} (I : EInv C st s) {i : Nat} {b : Addr} {o : Obj} {f : Obj → Obj} {ps : List (Addr × Addr)} (h : nthL st.rw i = some (b, o)) (hf : (f o).isFreed = false) :
    EInv C { st with rw := setL st.rw i (f o), ps := ps } { s with heap := s.heap.update b f } ∧ EKeep (st.rw.map (·.1)) s { s with heap := s.heap.update b f } := by
  have hb := I.rw _ (nthL_mem _ _ h)
  have hs : Heap.SameBut b s.heap (s.heap.update b f) := Heap.SameBut.update ..
  have hin : b ∈ st.rw.map (·.1) := List.mem_map_of_mem (f := (·.1)) (nthL_mem _ _ h)
  refine ⟨⟨by rw [hs.1]; exact I.size, I.toks, fun p hp => ?_, fun p hp => ?_, by rw [setL_keys]; exact I.nd, fun p hp q hq => ?_⟩, rfl, fun c oc hc e => ?_⟩
  · exact (hs.2 _ (I.ap p hp _ (nthL_mem _ _ h))).trans (I.ro p hp)
  · rcases setL_mem _ _ h I.nd p hp with rfl | ⟨h1, h2⟩
    · first | exact Heap.get?_update_self f hb hf | exact Heap.get?_update_self _ hb hf
    · exact (hs.2 _ h2).trans (I.rw p h1)
  · rcases setL_mem _ _ h I.nd q hq with rfl | ⟨h1, h2⟩
    · exact fun z => I.ap p hp _ (nthL_mem _ _ h) z
    · exact I.ap p hp q h1
  · exact (hs.2 c fun e' => hc (e' ▸ hin)).trans e
theorem EInv.alloc {C : ECfg} {st : ESt} {s : Shared} (I : EInv C st s) {o : Obj} (hf : o.isFreed = false) :
    EInv C { st with rw := st.rw ++ [(C.N + st.nw, o)], nw := st.nw + 1 } { s with heap := s.heap.push o } ∧ EKeep (st.rw.map (·.1)) s { s with heap := s.heap.push o } ∧ s.heap.get? (C.N + st.nw) = none := by
  have hnone : s.heap.get? (C.N + st.nw) = none := by
    cases q : s.heap.get? (C.N + st.nw) with
    | none => rfl
    | some o' => exact absurd (Heap.lt_size q) (by rw [I.size]; exact Nat.lt_irrefl _)
  refine ⟨⟨?_, I.toks, fun p hp => Heap.get?_push_of_some _ (I.ro p hp), fun p hp => ?_, ?_, fun p hp q hq => ?_⟩, ⟨rfl, fun c oc _ e => Heap.get?_push_of_some _ e⟩, hnone⟩
  · show C.N + (st.nw + 1) = (s.heap.push o).objs.size
    rw [Heap.size_push, ← I.size, Nat.add_assoc]
  · rcases List.mem_append.mp hp with hp | hp
    · exact Heap.get?_push_of_some _ (I.rw p hp)
    · rw [List.mem_singleton.mp hp]
      show (s.heap.push o).get? (C.N + st.nw) = some o
      rw [I.size]; exact Heap.get?_push_size _ hf
  · rw [List.map_append, List.nodup_append]
    refine ⟨I.nd, by simp, fun x hx y hy => ?_⟩
    obtain ⟨p, hp, rfl⟩ := List.mem_map.mp hx
    have : y = C.N + st.nw := by simpa using hy
    intro e
    have q := I.rw p hp
    rw [e, this, hnone] at q; cases q
  · rcases List.mem_append.mp hq with hq | hq
    · exact I.ap p hp q hq
    · rw [List.mem_singleton.mp hq]
      intro e
      have z := I.ro p hp
      rw [e, hnone] at z; cases z

section
variable {prog : Program} {w : World} {C : ECfg}
/-- what a leaf asks -/
noncomputable def LeafAt {α : Type} (Q : α → Shared → Prop) (E : Value → Shared → Prop) : Leaf α → Shared → Prop
  | .ret a, s => Q a s
  | .exc e, s => E e s
noncomputable def CSound (prog : Program) (w : World) (C : ECfg) (callee : Option Value → Code → ESt → List Nat → EOut Fin) : Prop :=
  ∀ hd c st hs leaf st' hs', callee hd c st hs = .ok leaf st' hs' → (∀ q ∈ st.ps, q ∈ st'.ps) ∧ ((∀ q ∈ st'.ps, q.1 = q.2) → ∀ (A : Around) (s : Shared) (R : Result → Shared → Prop), A.handled = hd → EInv C st s →
    (∀ s', EInv C st' s' → EKeep (st.rw.map (·.1)) s s' → EKeys st st' s → LeafAt (fun fin s' => ∃ f, fin = .done f ∧ R (.ok f) s') (fun e s' => R (.error e) s') leaf s') → codeAny (model prog w) A c R s)

theorem evTree_sound (hS : C.S = ⟨prog, w.params⟩) {callee : Option Value → Code → ESt → List Nat → EOut Fin} (hc : CSound prog w C callee) (hd : Option Value) {α : Type} (t : Sem α) :
    ∀ st hs leaf st' hs', evTree C callee hd t st hs = .ok leaf st' hs' → (∀ q ∈ st.ps, q ∈ st'.ps) ∧ ((∀ q ∈ st'.ps, q.1 = q.2) → ∀ (A : Around) (s : Shared) (Q : α → Shared → Prop) (E : Value → Shared → Prop), A.handled = hd → EInv C st s →
      (∀ s', EInv C st' s' → EKeep (st.rw.map (·.1)) s s' → EKeys st st' s → LeafAt Q E leaf s') → wpAny (model prog w) A t Q E s) := by
  induction t with
  | pure a =>
    intro st hs leaf st' hs' h
    change EOut.ok _ _ _ = _ at h
    cases h
    exact ⟨fun _ h => h, fun _ A s Q E _ I k => wpAny_pure (k s I (EKeep.refl _ _) (EKeys.refl _ _))⟩
  | raise e =>
    intro st hs leaf st' hs' h
    change EOut.ok _ _ _ = _ at h
    cases h
    exact ⟨fun _ h => h, fun _ A s Q E _ I k => wpAny_throw (k s I (EKeep.refl _ _) (EKeys.refl _ _))⟩
  | rule tag k ih =>
    intro st hs leaf st' hs' h
    obtain ⟨h1, h2⟩ := ih () _ _ _ _ _ h
    exact ⟨h1, fun hp A s Q E hA I kk => fun Γ p hΓ => h2 hp A s Q E hA I kk Γ p hΓ⟩
  | «at» q k ih =>
    intro st hs leaf st' hs' h
    obtain ⟨h1, h2⟩ := ih () _ _ _ _ _ h
    exact ⟨h1, fun hp A s Q E hA I kk => fun Γ p hΓ => h2 hp A s Q E hA I kk Γ q hΓ⟩
  | point l k ih =>
    intro st hs leaf st' hs' h
    obtain ⟨h1, h2⟩ := ih () _ _ _ _ _ h
    exact ⟨h1, fun hp A s Q E hA I kk => fun Γ p hΓ => h2 hp A s Q E hA I kk Γ p hΓ⟩
  | ask k ih =>
    intro st hs leaf st' hs' h
    change evTree C callee hd (k C.S) st hs = _ at h
    rw [hS] at h
    obtain ⟨h1, h2⟩ := ih _ _ _ _ _ _ h
    exact ⟨h1, fun hp A s Q E hA I kk => fun Γ p hΓ => h2 hp A s Q E hA I kk Γ p hΓ⟩
  | load a part k ih =>
    intro st hs leaf st' hs' h
    cases hs with
    | nil => change EOut.stop _ _ _ = _ at h; cases h
    | cons x hs =>
      rw [show evTree C callee hd (.load a part k) st (x :: hs) = (match pick C st x with | some (b, o) => evTree C callee hd (k o) { st with ps := (a, b) :: st.ps } hs | none => EOut.stop 2 st hs) by kernel_rfl] at h
      cases e : pick C st x with
      | none => rw [e] at h; cases h
      | some q =>
        obtain ⟨b, o⟩ := q
        rw [e] at h
        obtain ⟨h1, h2⟩ := ih o _ _ _ _ _ h
        refine ⟨fun q hq => h1 q (.tail _ hq), fun hp A s Q E hA I kk => ?_⟩
        have eab : a = b := hp (a, b) (h1 _ (.head _))
        have ho : s.heap.get? a = some o := by
          rw [eab]
          unfold pick at e
          split at e
          · exact I.ro _ (nthL_mem _ _ e)
          · exact I.rw _ (nthL_mem _ _ e)
        exact wpAny_bind (m := loadPart a part) (f := k) (wpAny_loadPart ho (h2 hp A s Q E hA ⟨I.size, I.toks, I.ro, I.rw, I.nd, I.ap⟩ kk))
  | loadIfAlive a k ih =>
    intro st hs leaf st' hs' h
    cases hs with
    | nil => change EOut.stop _ _ _ = _ at h; cases h
    | cons x hs =>
      rw [show evTree C callee hd (.loadIfAlive a k) st (x :: hs) = (match pick C st x with | some (b, o) => evTree C callee hd (k (some o)) { st with ps := (a, b) :: st.ps } hs | none => EOut.stop 4 st hs) by kernel_rfl] at h
      cases e : pick C st x with
      | none => rw [e] at h; cases h
      | some q =>
        obtain ⟨b, o⟩ := q
        rw [e] at h
        obtain ⟨h1, h2⟩ := ih (some o) _ _ _ _ _ h
        refine ⟨fun q hq => h1 q (.tail _ hq), fun hp A s Q E hA I kk => ?_⟩
        have eab : a = b := hp (a, b) (h1 _ (.head _))
        have ho : s.heap.get? a = some o := by
          rw [eab]
          unfold pick at e
          split at e
          · exact I.ro _ (nthL_mem _ _ e)
          · exact I.rw _ (nthL_mem _ _ e)
        intro Γ p hΓ
        rw [Sem.wp_loadIfAlive, ho]
        exact h2 hp A s Q E hA ⟨I.size, I.toks, I.ro, I.rw, I.nd, I.ap⟩ kk Γ p hΓ
  | update a part f k ih =>
    intro st hs leaf st' hs' h
    cases hs with
    | nil => change EOut.stop _ _ _ = _ at h; cases h
    | cons x hs =>
      change (match nthL st.rw (x / 2) with | some (b, o) => (match (f o).isFreed with | false => evTree C callee hd (k ()) { st with rw := setL st.rw (x / 2) (f o), ps := (a, b) :: st.ps } hs | true => .stop 6 st hs) | none => .stop 7 st hs) = _ at h
      cases e : nthL st.rw (x / 2) with
      | none => rw [e] at h; cases h
      | some q =>
        obtain ⟨b, o⟩ := q
        rw [e] at h
        simp only at h
        cases hf : (f o).isFreed with
        | true => rw [hf] at h; cases h
        | false =>
          rw [hf] at h
          obtain ⟨h1, h2⟩ := ih () _ _ _ _ _ h
          refine ⟨fun q hq => h1 q (.tail _ hq), fun hp A s Q E hA I kk => ?_⟩
          have eab : a = b := hp (a, b) (h1 _ (.head _))
          subst eab
          obtain ⟨I', K'⟩ := I.update (f := f) (ps := (a, a) :: st.ps) e hf
          refine wpAny_bind (m := updatePart a part f) (f := k) (wpAny_updatePart (I.rw _ (nthL_mem _ _ e)) (h2 hp A _ Q E hA I' fun s' I₂ K₂ Y₂ => kk s' I₂ (K'.trans K₂ fun b hb => ?_) fun b hb => ?_))
          · have hb' : b ∈ (setL st.rw (x / 2) (f o)).map (·.1) := hb
            rw [setL_keys] at hb'
            exact .inl hb'
          · rcases Y₂ b hb with q | q
            · have hb' : b ∈ (setL st.rw (x / 2) (f o)).map (·.1) := q
              rw [setL_keys] at hb'
              exact .inl hb'
            · by_cases hba : b = a
              · exact .inl (hba ▸ List.mem_map_of_mem (f := (·.1)) (nthL_mem _ _ e))
              · refine .inr ?_
                have hs2 : Heap.SameBut a s.heap (s.heap.update a f) := Heap.SameBut.update ..
                exact (hs2.2 b hba).symm.trans q
  | alloc o k ih =>
    intro st hs leaf st' hs' h
    change (match o.isFreed with | false => evTree C callee hd (k (C.N + st.nw)) { st with rw := st.rw ++ [(C.N + st.nw, o)], nw := st.nw + 1 } hs | true => .stop 8 st hs) = _ at h
    cases hf : o.isFreed with
    | true => rw [hf] at h; cases h
    | false =>
      rw [hf] at h
      obtain ⟨h1, h2⟩ := ih _ _ _ _ _ _ h
      refine ⟨h1, fun hp A s Q E hA I kk => ?_⟩
      obtain ⟨I', K', hn⟩ := I.alloc hf
      refine wpAny_bind (m := PySem.alloc o) (f := k) (wpAny_alloc ?_)
      rw [← I.size]
      refine h2 hp A _ Q E hA I' fun s' I₂ K₂ Y₂ => kk s' I₂ (K'.trans K₂ fun b hb => ?_) fun b hb => ?_
      · rw [List.map_append] at hb
        rcases List.mem_append.mp hb with hb | hb
        · exact .inl hb
        · have : b = C.N + st.nw := by simpa using hb
          exact .inr (this ▸ hn)
      · rcases Y₂ b hb with q | q
        · rw [List.map_append] at q
          rcases List.mem_append.mp q with q | q
          · exact .inl q
          · have : b = C.N + st.nw := by simpa using q
            exact .inr (this ▸ hn)
        · refine .inr ?_
          cases z : s.heap.get? b with
          | none => rfl
          | some ob => have := Heap.get?_push_of_some o z; rw [q] at this; cases this
  | fresh k ih =>
    intro st hs leaf st' hs' h
    change evTree C callee hd (k (C.T + st.tk)) { st with tk := st.tk + 1 } hs = _ at h
    obtain ⟨h1, h2⟩ := ih _ _ _ _ _ _ h
    refine ⟨h1, fun hp A s Q E hA I kk => ?_⟩
    refine wpAny_bind (m := PySem.fresh) (f := k) (wpAny_fresh ?_)
    rw [← I.toks]
    refine h2 hp A _ Q E hA ⟨I.size, by show C.T + (st.tk + 1) = C.T + st.tk + 1; rw [Nat.add_assoc], I.ro, I.rw, I.nd, I.ap⟩ fun s' I₂ K₂ Y₂ => kk s' I₂ (EKeep.trans ⟨rfl, fun _ _ _ e => e⟩ K₂ fun b hb => .inl hb) Y₂
  | handled own k ih =>
    intro st hs leaf st' hs' h
    cases own with
    | true => change EOut.stop _ _ _ = _ at h; cases h
    | false =>
      change evTree C callee hd (k hd) st hs = _ at h
      obtain ⟨h1, h2⟩ := ih _ _ _ _ _ _ h
      refine ⟨h1, fun hp A s Q E hA I kk => ?_⟩
      refine wpAny_bind (m := PySem.handled) (f := k) (wpAny_handled ?_)
      rw [hA]
      exact h2 hp A s Q E hA I kk
  | call c h g l k ih =>
    intro st hs leaf st' hs' e
    rw [show evTree C callee hd (.call c h g l k) st hs = (match X.okMark h with
      | false => EOut.stop 10 st hs
      | true => match callee (h.or hd) c st hs with
        | .ok (.ret (.done f)) st hs => evTree C callee hd (k (.ok f)) st hs
        | .ok (.ret (.again _)) st hs => EOut.stop 9 st hs
        | .ok (.exc e) st hs => evTree C callee hd (k (.error e)) st hs
        | .stop n st hs => EOut.stop n st hs
        | .stopW w => EOut.stopW w) by kernel_rfl] at e
    cases hm : X.okMark h with
    | false => rw [hm] at e; cases e
    | true =>
      rw [hm] at e
      simp only at e
      have hnb : h ≠ some byPass := by
        intro z
        subst z
        simp [X.okMark] at hm
      cases q : callee (h.or hd) c st hs with
      | stop => rw [q] at e; cases e
      | stopW => rw [q] at e; cases e
      | ok lf st₁ hs₁ =>
        rw [q] at e
        obtain ⟨c1, c2⟩ := hc _ _ _ _ _ _ _ q
        cases lf with
        | ret fin =>
          cases fin with
          | again c' => cases e
          | done f =>
            obtain ⟨h1, h2⟩ := ih (.ok f) _ _ _ _ _ e
            refine ⟨fun z hz => h1 z (c1 z hz), fun hp A s Q E hA I kk => ?_⟩
            refine X.y_start α prog w A Q E s c h g l k hnb (c2 (fun z hz => hp z (h1 z hz)) (A.mark h) s _ (by show h.or A.handled = _; rw [hA]) I fun s₁ I₁ K₁ Y₁ => ⟨f, rfl, ?_⟩)
            refine h2 hp A s₁ Q E hA I₁ fun s' I₂ K₂ Y₂ => kk s' I₂ (K₁.trans K₂ Y₁) fun b hb => ?_
            rcases Y₂ b hb with z | z
            · exact Y₁ b z
            · by_cases hbk : b ∈ st.rw.map (·.1)
              · exact .inl hbk
              · refine .inr ?_
                cases z' : s.heap.get? b with
                | none => rfl
                | some ob => have := K₁.2 b ob hbk z'; rw [z] at this; cases this
        | exc v =>
          obtain ⟨h1, h2⟩ := ih (.error v) _ _ _ _ _ e
          refine ⟨fun z hz => h1 z (c1 z hz), fun hp A s Q E hA I kk => ?_⟩
          refine X.y_start α prog w A Q E s c h g l k hnb (c2 (fun z hz => hp z (h1 z hz)) (A.mark h) s _ (by show h.or A.handled = _; rw [hA]) I fun s₁ I₁ K₁ Y₁ => ?_)
          refine h2 hp A s₁ Q E hA I₁ fun s' I₂ K₂ Y₂ => kk s' I₂ (K₁.trans K₂ Y₁) fun b hb => ?_
          rcases Y₂ b hb with z | z
          · exact Y₁ b z
          · by_cases hbk : b ∈ st.rw.map (·.1)
            · exact .inl hbk
            · refine .inr ?_
              cases z' : s.heap.get? b with
              | none => rfl
              | some ob => have := K₁.2 b ob hbk z'; rw [z] at this; cases this
  | _ => intro st hs leaf st' hs' h; first | (change EOut.stop _ _ _ = _ at h; cases h) | (change EOut.stopW _ = _ at h; cases h)

theorem evCode_sound (hS : C.S = ⟨prog, w.params⟩) (hden : C.den = denote table) : ∀ n, CSound prog w C (evCode C n)
  | 0 => fun hd c st hs leaf st' hs' h => by cases h
  | n + 1 => fun hd c st hs leaf st' hs' h => by
    have ih := evCode_sound hS hden n
    simp only [evCode] at h
    cases e : evTree C (evCode C n) hd (C.den c) st hs with
    | stop => rw [e] at h; cases h
    | stopW => rw [e] at h; cases h
    | ok lf st₁ hs₁ =>
      rw [e] at h
      obtain ⟨h1, h2⟩ := evTree_sound hS ih hd _ _ _ _ _ _ e
      cases lf with
      | exc v =>
        cases h
        refine ⟨h1, fun hp A s R hA I k => codeAny_of_tree ?_⟩
        show wpAny _ _ (denote table c) _ _ s
        rw [← hden]
        exact h2 hp _ s _ _ hA I k
      | ret fin =>
        cases fin with
        | done f =>
          cases h
          refine ⟨h1, fun hp A s R hA I k => codeAny_of_tree ?_⟩
          show wpAny _ _ (denote table c) _ _ s
          rw [← hden]
          refine h2 hp _ s _ _ hA I fun s' I' K' Y' => ?_
          obtain ⟨f', e', r⟩ := k s' I' K' Y'
          cases e'
          exact r
        | again c' =>
          simp only at h
          cases hq : c'.quiet with
          | false => rw [hq] at h; cases h
          | true =>
            rw [hq] at h
            obtain ⟨g1, g2⟩ := ih _ _ _ _ _ _ _ h
            refine ⟨fun z hz => g1 z (h1 z hz), fun hp A s R hA I k => codeAny_of_tree ?_⟩
            show wpAny _ _ (denote table c) _ _ s
            rw [← hden]
            refine h2 (fun z hz => hp z (g1 z hz)) _ s _ _ hA I fun s₁ I₁ K₁ Y₁ => ⟨hq, ?_⟩
            refine g2 hp A s₁ R hA I₁ fun s' I₂ K₂ Y₂ => k s' I₂ (K₁.trans K₂ Y₁) fun b hb => ?_
            rcases Y₂ b hb with z | z
            · exact Y₁ b z
            · by_cases hbk : b ∈ st.rw.map (·.1)
              · exact .inl hbk
              · refine .inr ?_
                cases z' : s.heap.get? b with
                | none => rfl
                | some ob => have := K₁.2 b ob hbk z'; rw [z] at this; cases this
end
end Mine
namespace Mine
noncomputable def denZ : Code → Sem Fin := PySem.W.ZFast.zw11892475500146522536 PySem.W.ZFast.tableZ
theorem denZ_is : denZ = denote table := by
  unfold denZ
  rw [← PySem.W.ZFast.ze11892475500146522536, ← PySem.W.ZFast.tableZ_eq]
noncomputable def outSt : EOut Fin → Option ESt
  | .ok _ st _ => some st
  | _ => none
noncomputable def outVal : EOut Fin → Option Value
  | .ok (.ret (.done (.ret v))) _ _ => some v
  | _ => none
noncomputable def outExc : EOut Fin → Option Value
  | .ok (.exc v) _ _ => some v
  | _ => none
noncomputable def outPsL : EOut Fin → List Addr
  | .ok _ st _ => st.ps.map (·.1)
  | _ => []
noncomputable def outPsR : EOut Fin → List Addr
  | .ok _ st _ => st.ps.map (·.2)
  | _ => []
noncomputable def outRw : EOut Fin → List (Addr × Obj)
  | .ok _ st _ => st.rw
  | _ => []
theorem ps_eq : ∀ {l : List (Addr × Addr)}, l.map (·.1) = l.map (·.2) → ∀ q ∈ l, q.1 = q.2
  | _ :: l, h, q, hq => by
    rw [List.map_cons, List.map_cons] at h
    injection h with h1 h2
    rcases List.mem_cons.mp hq with rfl | hq
    · exact h1
    · exact ps_eq h2 q hq
section
variable {prog : Program} {w : World} {A : Around} {E : Value → Shared → Prop} {s : Shared} {h₀ : Heap} {L : Addr} {m : Str → Option Value} {news : List (Addr × Obj)}
noncomputable abbrev ecfg (prog : Program) (w : World) (s : Shared) (ro : List (Addr × Obj)) : ECfg := ⟨⟨prog, w.params⟩, denZ, s.heap.objs.size, s.toks, ro⟩
/-- behind a run: the frame and the ledger -/
theorem ev_after {C : ECfg} {st st' : ESt} {s' : Shared} (F : Fr h₀ L s.heap m) (N : News h₀ L s.heap news) (hrw : ∀ p ∈ st.rw, p ∈ news) (K : EKeep (st.rw.map (·.1)) s s') (Y : EKeys st st' s) (I : EInv C st' s') :
    Fr h₀ L s'.heap m ∧ News h₀ L s'.heap st'.rw ∧ ∀ rest : List (Addr × Obj), (∀ p ∈ rest, p ∈ news ∧ p.1 ∉ st.rw.map (·.1)) → News h₀ L s'.heap rest := by
  have key : ∀ b ∈ st.rw.map (·.1), b ≠ L ∧ h₀.get? b = none := fun b hb => by
    obtain ⟨p, hp, rfl⟩ := List.mem_map.mp hb
    exact (N p (hrw p hp)).2
  obtain ⟨oL, es, ep, hL, r⟩ := F.ns
  refine ⟨⟨⟨oL, es, ep, K.2 L oL (fun hb => (key L hb).1 rfl) hL, r⟩, fun b o e => K.2 b o (fun hb => ?_) (F.keep b o e), F.above⟩, fun p hp => ⟨I.rw p hp, ?_⟩, fun rest hr p hp => ⟨K.2 _ _ (hr p hp).2 (N p (hr p hp).1).1, (N p (hr p hp).1).2⟩⟩
  · have := (key b hb).2; rw [e] at this; cases this
  · rcases Y p.1 (List.mem_map_of_mem hp) with h | h
    · exact key _ h
    · refine ⟨fun e => ?_, ?_⟩
      · rw [e, hL] at h; cases h
      · cases z : h₀.get? p.1 with
        | none => rfl
        | some o => rw [F.keep _ _ z] at h; cases h
/-- a call that the kernel runs: objects of the ledger read or changed -/
theorem ev_call {f : Value} {pos : List Value} {kw : List (Str × Value)} {Q : Value → Shared → Prop} (fuel : Nat) (ro rw : List (Addr × Obj)) (hs : List Nat) {v : Value} (hh : A.handled = none)
    (F : Fr h₀ L s.heap m) (N : News h₀ L s.heap news)
    (hv : outVal (evCode (ecfg prog w s ro) fuel none (.call f ⟨pos, kw⟩) ⟨rw, 0, 0, []⟩ hs) = some v)
    (hp : outPsL (evCode (ecfg prog w s ro) fuel none (.call f ⟨pos, kw⟩) ⟨rw, 0, 0, []⟩ hs) = outPsR (evCode (ecfg prog w s ro) fuel none (.call f ⟨pos, kw⟩) ⟨rw, 0, 0, []⟩ hs))
    (hro : ∀ p ∈ ro, s.heap.get? p.1 = some p.2) (hrw : ∀ p ∈ rw, p ∈ news) (hnd : (rw.map (·.1)).Nodup) (hap : ∀ p ∈ ro, ∀ q ∈ rw, p.1 ≠ q.1)
    (h : ∀ h' tk, Fr h₀ L h' m → News h₀ L h' (outRw (evCode (ecfg prog w s ro) fuel none (.call f ⟨pos, kw⟩) ⟨rw, 0, 0, []⟩ hs)) → (∀ rest : List (Addr × Obj), (∀ p ∈ rest, p ∈ news ∧ p.1 ∉ rw.map (·.1)) → News h₀ L h' rest) →
      s.heap.objs.size ≤ h'.objs.size → Q v { s with heap := h', toks := tk }) :
    wpAny (model prog w) A (call f pos kw) Q E s := by
  refine wpAny_call ?_
  cases e : evCode (ecfg prog w s ro) fuel none (.call f ⟨pos, kw⟩) ⟨rw, 0, 0, []⟩ hs with
  | stop => rw [e] at hv; cases hv
  | stopW => rw [e] at hv; cases hv
  | ok lf st' hs' =>
    rw [e] at hv hp h
    cases lf with
    | exc => cases hv
    | ret fin =>
      cases fin with
      | again => cases hv
      | done fl =>
        cases fl with
        | ret v' =>
          cases hv
          obtain ⟨_, k⟩ := evCode_sound (prog := prog) (w := w) (C := ecfg prog w s ro) rfl denZ_is fuel none _ _ _ _ _ _ e
          refine k (ps_eq hp) A s _ hh ⟨rfl, rfl, hro, fun p hp => (N p (hrw p hp)).1, hnd, hap⟩ fun s' I K Y => ⟨_, rfl, ?_⟩
          obtain ⟨F', N', R'⟩ := ev_after F N hrw K Y I
          have z := h s'.heap s'.toks F' N' R' (by have := I.size; have e2 : s.heap.objs.size + st'.nw = s'.heap.objs.size := this; omega)
          have ee : s' = { s with heap := s'.heap, toks := s'.toks } := K.1
          rw [← ee] at z
          exact z
        | _ => cases hv
end
section
variable {prog : Program} {w : World} {A : Around} {E : Value → Shared → Prop} {s : Shared} {h₀ : Heap} {L : Addr} {m : Str → Option Value} {news : List (Addr × Obj)}
noncomputable def treeVal {α : Type} : EOut α → Option α
  | .ok (.ret v) _ _ => some v
  | _ => none
noncomputable def treePsL {α : Type} : EOut α → List Addr
  | .ok _ st _ => st.ps.map (·.1)
  | _ => []
noncomputable def treePsR {α : Type} : EOut α → List Addr
  | .ok _ st _ => st.ps.map (·.2)
  | _ => []
noncomputable def treeRw {α : Type} : EOut α → List (Addr × Obj)
  | .ok _ st _ => st.rw
  | _ => []
noncomputable abbrev evT (prog : Program) (w : World) (s : Shared) (ro : List (Addr × Obj)) {α : Type} (fuel : Nat) (t : Sem α) (rw : List (Addr × Obj)) (hs : List Nat) : EOut α :=
  evTree (ecfg prog w s ro) (evCode (ecfg prog w s ro) fuel) none t ⟨rw, 0, 0, []⟩ hs
/-- a tree that the kernel runs -/
theorem ev_tree {α : Type} {t : Sem α} (t' : Sem α) {Q : α → Shared → Prop} (fuel : Nat) (ro rw : List (Addr × Obj)) (hs : List Nat) {v : α} (hh : A.handled = none)
    (F : Fr h₀ L s.heap m) (N : News h₀ L s.heap news) (ht : t = t')
    (hv : treeVal (evT prog w s ro fuel t' rw hs) = some v)
    (hp : treePsL (evT prog w s ro fuel t' rw hs) = treePsR (evT prog w s ro fuel t' rw hs))
    (hro : ∀ p ∈ ro, s.heap.get? p.1 = some p.2) (hrw : ∀ p ∈ rw, p ∈ news) (hnd : (rw.map (·.1)).Nodup) (hap : ∀ p ∈ ro, ∀ q ∈ rw, p.1 ≠ q.1)
    (h : ∀ h' tk, Fr h₀ L h' m → News h₀ L h' (treeRw (evT prog w s ro fuel t' rw hs)) → (∀ rest : List (Addr × Obj), (∀ p ∈ rest, p ∈ news ∧ p.1 ∉ rw.map (·.1)) → News h₀ L h' rest) →
      s.heap.objs.size ≤ h'.objs.size → Q v { s with heap := h', toks := tk }) :
    wpAny (model prog w) A t Q E s := by
  subst ht
  cases e : evT prog w s ro fuel t rw hs with
  | stop => rw [e] at hv; cases hv
  | stopW => rw [e] at hv; cases hv
  | ok lf st' hs' =>
    rw [e] at hv hp h
    cases lf with
    | exc => cases hv
    | ret v' =>
      cases hv
      obtain ⟨_, k⟩ := evTree_sound (prog := prog) (w := w) (C := ecfg prog w s ro) rfl (evCode_sound (prog := prog) (w := w) (C := ecfg prog w s ro) rfl denZ_is fuel) none t _ _ _ _ _ e
      refine k (ps_eq hp) A s _ _ hh ⟨rfl, rfl, hro, fun p hp => (N p (hrw p hp)).1, hnd, hap⟩ fun s' I K Y => ?_
      obtain ⟨F', N', R'⟩ := ev_after F N hrw K Y I
      have z := h s'.heap s'.toks F' N' R' (by have := I.size; have e2 : s.heap.objs.size + st'.nw = s'.heap.objs.size := this; omega)
      have ee : s' = { s with heap := s'.heap, toks := s'.toks } := K.1
      rw [← ee] at z
      exact z
end
section
variable {prog : Program} {w : World} {A : Around} {E : Value → Shared → Prop} {s : Shared} {h₀ : Heap} {L : Addr} {m : Str → Option Value} {news : List (Addr × Obj)} {Q : Value → Shared → Prop}
noncomputable abbrev baObj (b : Array UInt8) : Obj := { cls := .type "bytearray", data := .bytearray b 0 }
noncomputable abbrev sGet : Str := ⟨#[95, 95, 103, 101, 116, 105, 116, 101, 109, 95, 95]⟩
theorem hasattr_bytes {x : Array UInt8} {t u : Tok} (hh : A.handled = none) (F : Fr h₀ L s.heap m) (N : News h₀ L s.heap news)
    (h : ∀ h' tk, Fr h₀ L h' m → News h₀ L h' news → Q (.bool true) { s with heap := h', toks := tk }) :
    wpAny (model prog w) A (call (.builtin "hasattr") [.bytes x t, .str (Str.ofString "__getitem__") u]) Q E s := by
  rw [show (Str.ofString "__getitem__" : Str) = sGet from by decide +kernel]
  exact ev_call 50 [] [] [] hh F N (by kernel_rfl) (by kernel_rfl) (fun _ h => nomatch h) (fun _ h => nomatch h) List.nodup_nil (fun _ h => nomatch h)
    fun h' tk F' _ R _ => h h' tk F' (R news fun p hp => ⟨hp, fun h => nomatch h⟩)
theorem hasattr_ba {a : Addr} {x : Array UInt8} {u : Tok} (hh : A.handled = none) (F : Fr h₀ L s.heap m) (N : News h₀ L s.heap news) (ha : (a, baObj x) ∈ news)
    (h : ∀ h' tk, Fr h₀ L h' m → News h₀ L h' news → Q (.bool true) { s with heap := h', toks := tk }) :
    wpAny (model prog w) A (call (.builtin "hasattr") [.ref a, .str (Str.ofString "__getitem__") u]) Q E s := by
  rw [show (Str.ofString "__getitem__" : Str) = sGet from by decide +kernel]
  exact ev_call 50 [(a, baObj x)] [] (List.replicate 20 0) hh F N (by kernel_rfl) (by kernel_rfl) (fun p hp => by rw [List.mem_singleton.mp hp]; exact (N _ ha).1) (fun _ h => nomatch h) List.nodup_nil (fun _ _ _ h => nomatch h)
    fun h' tk F' _ R _ => h h' tk F' (R news fun p hp => ⟨hp, fun h => nomatch h⟩)
noncomputable abbrev bmObj (id : String) (self : Value) : Obj := { cls := .type "builtin_function_or_method", data := .fields #[.builtin id, self] }
noncomputable abbrev sAppend : Str := ⟨#[97, 112, 112, 101, 110, 100]⟩
theorem getAttr_append {r : Addr} {vs : Array Value} {n : Nat} (hh : A.handled = none) (F : Fr h₀ L s.heap m) (N : News h₀ L s.heap news) (hr : (r, listOf vs n) ∈ news)
    (h : ∀ q h' tk, Fr h₀ L h' m → News h₀ L h' ((q, bmObj "list.append" (.ref r)) :: news) → (∀ p ∈ news, p.1 < q) → Q (.ref q) { s with heap := h', toks := tk }) :
    wpAny (model prog w) A (getAttr (.ref r) (Str.ofString "append") true) Q E s := by
  rw [show (Str.ofString "append" : Str) = sAppend from by decide +kernel]
  exact ev_tree (PySem.W.ZFast.zw4926136581373384958 (.ref r) sAppend true) 60 [(r, listOf vs n)] [] (List.replicate 6 0) hh F N (by rw [← PySem.W.ZFast.ze4926136581373384958]) (by kernel_rfl) (by kernel_rfl) (fun p hp => by rw [List.mem_singleton.mp hp]; exact (N _ hr).1) (fun _ h => nomatch h) List.nodup_nil (fun _ _ _ h => nomatch h)
    (v := .ref (s.heap.objs.size + 0))
    fun h' tk F' N' R _ => h _ h' tk F' (fun p hp => by
      rcases List.mem_cons.mp hp with rfl | hp
      · exact N' _ (by rw [show treeRw (evT prog w s [(r, listOf vs n)] 60 (PySem.W.ZFast.zw4926136581373384958 (.ref r) sAppend true) [] (List.replicate 6 0)) = [(s.heap.objs.size + 0, bmObj "list.append" (.ref r))] from by kernel_rfl]; exact .head _)
      · exact R news (fun p hp => ⟨hp, fun h => nomatch h⟩) p hp) fun p hp => Heap.lt_size (N p hp).1
theorem code_append {D : Addr} {its : Array Value} {n : Nat} {x : Value} {R : Result → Shared → Prop} (ho : s.heap.get? D = some (listOf its n))
    (h : ∀ h', Heap.SameBut D s.heap h' → h'.get? D = some (listOf (its.push x) (n + 1)) → R (.ok (.ret .none)) { s with heap := h' }) (hsz : its.size ≤ sizeLine) :
    codeAny (model prog w) A (.builtin "list.append" ⟨[.ref D, x], []⟩) R s := by
  refine codeAny_builtin entry_list_append ?_
  show wpAny _ _ (updateSeq D (·.push x) >>= fun _ => ret .none) _ _ s
  refine wpAny_bind ?_
  refine wpAny_updateSeq ho rfl (wpAny_pure (h _ (Heap.SameBut.update ..) ?_))
  rw [Heap.get?_update_self _ ho (by rw [mapSeq_push]; rfl), mapSeq_push]
theorem call_add {q r : Addr} {its : Array Value} {n : Nat} {x : Value} {news' : List (Addr × Obj)} (hh : A.handled = none) (F : Fr h₀ L s.heap m) (N : News h₀ L s.heap news) (hq : (q, bmObj "list.append" (.ref r)) ∈ news)
    (U : Upd r (listOf its n) (listOf (its.push x) (n + 1)) news news') (hsz : its.size ≤ sizeLine)
    (h : ∀ h' tk, Fr h₀ L h' m → News h₀ L h' news' → Q .none { s with heap := h', toks := tk }) :
    wpAny (model prog w) A (call (.ref q) [x] []) Q E s := by
  obtain ⟨pre, post, rfl, rfl, a, b⟩ := U.split
  have hr : (r, listOf its n) ∈ pre ++ (r, listOf its n) :: post := List.mem_append.mpr (.inr (.head _))
  refine wpAny_call (codeAny_of_tree ?_)
  show wpAny _ _ (denote table (.call (.ref q) ⟨[x], []⟩)) _ _ s
  refine ev_tree (denZ (.call (.ref q) ⟨[x], []⟩)) 60 [(q, bmObj "list.append" (.ref r)), (r, listOf its n)] [] [0, 2, 2, 2, 2, 2] hh F N (by rw [denZ_is]) (v := .again (.builtin "list.append" ⟨[.ref r, x], []⟩)) (by kernel_rfl) (by kernel_rfl) (fun p hp => by
      rcases List.mem_cons.mp hp with rfl | hp
      · exact (N _ hq).1
      · rw [List.mem_singleton.mp hp]; exact (N _ hr).1) (fun _ h => nomatch h) List.nodup_nil (fun _ _ _ h => nomatch h) fun h' tk F' _ R' _ => ⟨plainId_quiet (by decide +kernel) _, ?_⟩
  have N' := R' _ (fun p hp => ⟨hp, fun h => nomatch h⟩)
  refine code_append (s := { s with heap := h', toks := tk }) (N' _ hr).1 (fun h'' hs ho => ?_) hsz
  exact h h'' tk (F'.change hs (N' _ hr).2.1 (N' _ hr).2.2) (news_set N' a b hs ho)
end
end Mine
namespace Mine
noncomputable abbrev pg : Program := PySem.Challenge.pw_in0260_01
/-- what a pattern is made of -/
inductive U where
  | star | q | a | dot | ba | na | e
noncomputable def U.text : U → List Nat
  | .star => [42] | .q => [63] | .a => [97] | .dot => [46] | .ba => [91, 98, 45, 97, 93] | .na => [91, 33, 97, 93] | .e => [233]
noncomputable def utext (us : List U) : List Nat := us.flatMap U.text
/-- what is found -/
inductive It where
  | star | mark | a | dot | ba | na | e
  deriving DecidableEq
noncomputable def trStep (one : Bool) (l : List It) : U → List It
  | .star => if l.getLast? = some .star then l else l ++ [.star]
  | .q => l ++ [if one then .star else .mark]
  | .a => l ++ [.a]
  | .dot => l ++ [.dot]
  | .ba => l ++ [.ba]
  | .na => l ++ [.na]
  | .e => l ++ [.e]
noncomputable def trAll (one : Bool) (us : List U) : List It := us.foldl (trStep one) []
theorem trAll_snoc (one : Bool) (us : List U) (u : U) : trAll one (us ++ [u]) = trStep one (trAll one us) u := by
  simp [trAll]
theorem trAll_mark (us : List U) : It.mark ∉ trAll true us := by
  suffices h : ∀ (us : List U) (l : List It), It.mark ∉ l → It.mark ∉ us.foldl (trStep true) l from h us [] (by simp)
  intro us
  induction us with
  | nil => intro l h; exact h
  | cons u us ih =>
    intro l h
    refine ih _ ?_
    cases u <;> simp [trStep, h]
    split <;> simp [h]
noncomputable def partIs (st mk : Addr) : It → Value → Prop
  | .star, v => v = .ref st
  | .mark, v => v = .ref mk
  | .a, v => ∃ t, v = .str ⟨#[97]⟩ t
  | .dot, v => ∃ t, v = .str ⟨#[92, 46]⟩ t
  | .ba, v => ∃ t, v = .str ⟨#[40, 63, 33, 41]⟩ t
  | .na, v => ∃ t, v = .str ⟨#[91, 94, 97, 93]⟩ t
  | .e, v => ∃ t, v = .str ⟨#[233]⟩ t
inductive PartsAre (st mk : Addr) : List Value → List It → Prop
  | nil : PartsAre st mk [] []
  | snoc {vs is v i} : PartsAre st mk vs is → partIs st mk i v → PartsAre st mk (vs ++ [v]) (is ++ [i])
/-- what the table of the nested codes holds: three words for each -/
noncomputable def TabOk (ps : Array Value) : Prop := TriplesOk ps.toList ∧ ∀ pos, codeAmong pos ps.toList = none ∨ ∃ c, codeAmong pos ps.toList = some (.ref c)
theorem tabOk_nil : TabOk #[] := ⟨trivial, fun _ => .inl rfl⟩
theorem codeAmong_snoc2 {pos : Pos} {a b : Int} {c : Value} (l : List Value) (h : TriplesOk l) : codeAmong pos (l ++ [rawInt a, rawInt b, c]) = codeAmong pos l ∨ codeAmong pos (l ++ [rawInt a, rawInt b, c]) = some c ∨ codeAmong pos (l ++ [rawInt a, rawInt b, c]) = none := by
  fun_induction TriplesOk l with
  | case1 =>
    simp only [List.nil_append, codeAmong, rawInt]
    split
    · exact .inr (.inl rfl)
    · exact .inr (.inr rfl)
  | case2 a' t b' u x rest ih =>
    simp only [List.cons_append, codeAmong]
    split
    · exact .inl rfl
    · exact ih h
  | case3 l h1 h2 => exact h.elim
theorem TabOk.snoc {ps : Array Value} {a b : Int} {c : Addr} (h : TabOk ps) : TabOk (ps ++ #[rawInt a, rawInt b, .ref c]) := by
  refine ⟨by simpa using TriplesOk_snoc a b (.ref c) _ h.1, fun pos => ?_⟩
  have e : (ps ++ #[rawInt a, rawInt b, .ref c]).toList = ps.toList ++ [rawInt a, rawInt b, .ref c] := by simp
  rw [e]
  rcases codeAmong_snoc2 (pos := pos) (a := a) (b := b) (c := .ref c) _ h.1 with q | q | q
  · rw [q]; exact h.2 pos
  · exact .inr ⟨c, q⟩
  · exact .inl q
section
variable {prog : Program} {w : World} {A : Around} {E : Value → Shared → Prop} {s : Shared} {h₀ : Heap} {L : Addr} {m : Str → Option Value} {news : List (Addr × Obj)} {Q : Value → Shared → Prop}
theorem str_item {value slice : PySem.Expr} {x : Str} {t u : Tok} {i : Int} {c : Nat} (h0 : 0 ≤ i) (hi : i < 2 ^ 63) (hx : x.cps[i.toNat]? = some c) (h : Q (.str ⟨#[c]⟩ s.toks) { s with toks := s.toks + 1 })
    (hs : subscripted slice false (.str x t) (.int i u) = operate [.str x t, .int i u] (getItem (.str x t) (.int i u)) := by with_unfolding_all rfl) :
    wpAny (model prog w) A (subscriptTail value slice (.str x t) (.int i u)) Q E s := by
  refine tail_any (typeIs_str s x t) F.slot_str_getitem.lookup (P.getItem_str ?_ ?_ h) hs
  · simp only [Bool.or_eq_false_iff, decide_eq_false_iff_not]
    exact ⟨by omega, by omega⟩
  · have hlt : i.toNat < x.cps.size := by
      rcases Array.getElem?_eq_some_iff.mp hx with ⟨q, _⟩
      exact q
    have e : seqIndex? i x.length = some i.toNat := by
      unfold seqIndex?
      have h2 : i < (x.length : Int) := by show i < (x.cps.size : Int); omega
      have h3 : ¬ i < 0 := by omega
      simp [h3, h0, h2]
    rw [e]; exact hx
theorem last_item {value slice : PySem.Expr} {r : Addr} {vs : List Value} {v : Value} {n : Nat} {u : Tok} (N : News h₀ L s.heap news) (hr : (r, listOf (vs ++ [v]).toArray n) ∈ news) (h : Q v s)
    (hs : subscripted slice false (.ref r) (.int (-1) u) = operate [.ref r, .int (-1) u] (getItem (.ref r) (.int (-1) u)) := by with_unfolding_all rfl) :
    wpAny (model prog w) A (subscriptTail value slice (.ref r) (.int (-1) u)) Q E s := by
  have hl : s.heap.IsList r (vs ++ [v]).toArray := News.isList N hr
  have hz : (vs ++ [v]).toArray.size = vs.length + 1 := by simp
  refine tail_any hl.typeIs slot_list_getitem.lookup (wpAny_getItem_list_neg hl (by decide) (by rw [hz]; omega) (by decide) ?_ h) hs
  rw [hz]
  have e : ((-1 : Int) + ((vs.length + 1 : Nat) : Int)).toNat = vs.length := by omega
  rw [e]; simp
theorem not_mt {vs : List Value} {v : Value} : (!(vs ++ [v]).toArray.isEmpty) = true := by simp
end
section
variable {prog : Program} {w : World} {M : Model} {A : Around} {E : Value → Shared → Prop} {s : Shared} {h₀ : Heap} {L : Addr} {m : Str → Option Value} {news : List (Addr × Obj)} {Q : Value → Shared → Prop}
noncomputable def BmAt (q : Addr) (id : String) (self : Value) (h : Heap) : Prop := h.get? q = some (bmObj id self)
theorem bmAt_of {q : Addr} {id : String} {self : Value} {h : Heap} (N : News h₀ L h news) (hm : (q, bmObj id self) ∈ news) : BmAt q id self h := N.get hm
theorem callWith_bmF {pos : Pos} {q : Addr} {id : String} {self : Value} {first : List Value} {args : List (Bool × Sem Value)} (hplain : args.any (·.1) = false)
    (h : wpAny M A (evalArgs (.ref q) true args []) (fun x s₁ => BmAt q id self s₁.heap ∧ wpAny M A (call (.ref q) (first ++ x.pos) x.kw) Q E s₁) E s) : wpAny M A (callWith pos (.ref q) first args []) Q E s := by
  unfold callWith
  refine wpAny_bind (wpAny_holding (wpAny_mono h (fun x s₁ h₁ => wpAny_bind (wpAny_standAt ?_)) fun _ _ x => x))
  obtain ⟨ho, hcall⟩ := h₁
  simp only [hplain, List.any_nil, Bool.or_false]
  refine wpAny_bind (m := keeperOf (.ref q)) ?_
  unfold keeperOf
  refine wpAny_bind (wpAny_load ho ?_)
  simp only [show (Value.type "builtin_function_or_method" != Value.type "method") = true by decide, show (Value.type "builtin_function_or_method" == Value.type "builtin_function_or_method" || Value.type "builtin_function_or_method" == Value.type "method-wrapper") = true by decide, if_true]
  refine wpAny_pure ?_
  exact wpAny_bind (wpAny_mono hcall (fun r s₂ hr => wpAny_bind (wpAny_holding (wpAny_point (wpAny_pure hr)))) fun _ _ x => x)
theorem callWith_bm {pos : Pos} {q : Addr} {id : String} {self : Value} {env : Env} {e : PySem.Expr} {rest : List PySem.Expr} (_N : News h₀ L s.heap news) (_hm : (q, bmObj id self) ∈ news)
    (h : wpAny M A (spliced (backTo pos (starEach (e :: rest) env))) (fun vs s₁ => BmAt q id self s₁.heap ∧ wpAny M A (call (.ref q) vs) Q E s₁) E s)
    (he : starEach (e :: rest) env = (false, eval e env) :: starEach rest env := by rfl) (hplain : (backTo pos (starEach rest env)).any (·.1) = false := by rfl) :
    wpAny M A (callWith pos (.ref q) [] (backTo pos (starEach (e :: rest) env)) []) Q E s := by
  rw [he] at h ⊢
  refine callWith_bmF (id := id) (self := self) (by show (false || (backTo pos (starEach rest env)).any (·.1)) = false; rw [hplain]; rfl) ?_
  exact PySem.Calls.evalArgs_plain h
end
section
variable {g h' : Heap} {L : Addr} {s : Shared}
noncomputable def TrInv (P : Str) (t : Tok) (st mk : Addr) (bs bm : Array UInt8) (one : Bool) (us : List U) (q r y1 y2 : Addr) (o1 o2 : Obj) (k : Nat) (m₁ : Str → Option Value) (news₁ : List (Addr × Obj)) : Prop :=
  ∃ (pre rest : List U) (vals : List Value) (nn ti tn : Nat) (ps : Array Value), us = pre ++ rest ∧ k = rest.length ∧ PartsAre st mk vals (trAll one pre) ∧ vals.length ≤ pre.length ∧
    news₁ = [(q, bmObj "list.append" (.ref r)), (r, listOf vals.toArray nn), (st, baObj bs), (mk, baObj bm), (58, tabObj ps), (y1, o1), (y2, o2)] ∧ TabOk ps ∧
    m₁ (Str.ofString "pat") = some (.str P t) ∧ m₁ (Str.ofString "STAR") = some (.ref st) ∧ m₁ (Str.ofString "QUESTION_MARK") = some (.ref mk) ∧ m₁ (Str.ofString "res") = some (.ref r) ∧ m₁ (Str.ofString "add") = some (.ref q) ∧
    m₁ (Str.ofString "n") = some (.int P.length tn) ∧ m₁ (Str.ofString "i") = some (.int (utext pre).length ti)
theorem PartsAre.inv {st mk : Addr} {vals : List Value} {is : List It} (h : PartsAre st mk vals is) : (vals = [] ∧ is = []) ∨ ∃ vs v is' i, vals = vs ++ [v] ∧ is = is' ++ [i] ∧ PartsAre st mk vs is' ∧ partIs st mk i v := by
  cases h with
  | nil => exact .inl ⟨rfl, rfl⟩
  | snoc h hi => exact .inr ⟨_, _, _, _, rfl, rfl, h, hi⟩
end
section
variable {prog : Program} {w : World} {M : Model} {A : Around} {E : Value → Shared → Prop} {s : Shared} {h₀ : Heap} {L : Addr} {m : Str → Option Value} {news : List (Addr × Obj)} {Q : Value → Shared → Prop}
theorem gm_translate {x : Str} {t : Tok} {pl : Sem Bool} {Q : Value × List Value → Shared → Prop} (h : Q (.builtin "str.translate", [.str x t]) s) : wpAny M A (getMethod (.str x t) (Str.ofString "translate") pl) Q E s := by
  with_reducible exact GM.of (.str x t) (typeIs_str _ _ _) F.slot_str_translate F.type_str_translate GM.noRef h
theorem gm_encode {x : Str} {t : Tok} {pl : Sem Bool} {Q : Value × List Value → Shared → Prop} (h : Q (.builtin "str.encode", [.str x t]) s) : wpAny M A (getMethod (.str x t) (Str.ofString "encode") pl) Q E s := by
  with_reducible exact GM.of (.str x t) (typeIs_str _ _ _) F.slot_str_encode F.type_str_encode GM.noRef h
noncomputable def ob39 (w : World) (a : Addr) : Obj := match (Mine.hd.heap_39 w.params).lookup a with | some o => o | none => baObj #[]
theorem ob39_get {a : Addr} {h : Heap} (X : (Mine.hd.heap_39 w.params).In h) (e : ((Mine.hd.heap_39 w.params).lookup a).isSome = true) : h.get? a = some (ob39 w a) := by
  unfold ob39
  cases e2 : (Mine.hd.heap_39 w.params).lookup a with
  | none => rw [e2] at e; cases e
  | some o => exact X _ _ e2
noncomputable def strPart : Option Value → Option Str
  | some (.str x _) => some x
  | _ => none
noncomputable def bytesPart : Option Value → Option (Array UInt8)
  | some (.bytes x _) => some x
  | _ => none
noncomputable def intPart : Option Value → Option Int
  | some (.int x _) => some x
  | _ => none
theorem strPart_eq {v : Option Value} {x : Str} (h : strPart v = some x) : ∃ t, v = some (.str x t) := by
  unfold strPart at h; split at h <;> simp_all
theorem bytesPart_eq {v : Option Value} {x : Array UInt8} (h : bytesPart v = some x) : ∃ t, v = some (.bytes x t) := by
  unfold bytesPart at h; split at h <;> simp_all
theorem intPart_eq {v : Option Value} {x : Int} (h : intPart v = some x) : ∃ t, v = some (.int x t) := by
  unfold intPart at h; split at h <;> simp_all
noncomputable def tx (w : World) (b : Bool) : World := { w with params := { w.params with followText := fun n => if n == "special-get-raises" then b else w.params.followText n } }
theorem tx_self (w : World) : tx w (w.params.followText "special-get-raises") = w := by
  unfold tx
  have : (fun n => if n == "special-get-raises" then w.params.followText "special-get-raises" else w.params.followText n) = w.params.followText := by
    funext n
    by_cases h : n = "special-get-raises"
    · subst h; simp
    · simp [h]
  rw [this]
theorem byText {P : World → Prop} (w : World) (h1 : P (tx w true)) (h2 : P (tx w false)) : P w := by
  rw [← tx_self w]
  cases w.params.followText "special-get-raises"
  · exact h2
  · exact h1
end
section
variable {prog : Program} {w : World} {M : Model} {A : Around} {E : Value → Shared → Prop} {s : Shared} {h₀ : Heap} {L : Addr} {m : Str → Option Value} {news : List (Addr × Obj)} {Q : Value → Shared → Prop}
theorem tr_a {w : World} {t : Tok} (hh : A.handled = none) (F : Fr h₀ L s.heap m) (N : News h₀ L s.heap news) (X : (Mine.hd.heap_39 w.params).In h₀)
    (h : ∀ h' tk t', Fr h₀ L h' m → News h₀ L h' news → Q (.str ⟨#[97]⟩ t') { s with heap := h', toks := tk }) :
    wpAny (model prog w) A (call (.builtin "str.translate") [.str ⟨#[97]⟩ t, .ref 46] []) Q E s := by
  revert X
  refine byText (P := fun w => (Mine.hd.heap_39 w.params).In h₀ → wpAny (model prog w) A (call (.builtin "str.translate") [.str ⟨#[97]⟩ t, .ref 46] []) Q E s) w (fun X => ?_) (fun X => ?_)
  · obtain ⟨t', e⟩ := strPart_eq (x := ⟨#[97]⟩) (v := outVal (evCode (ecfg prog (tx w true) s [(46, ob39 (tx w true) 46)]) 60 none (.call (.builtin "str.translate") ⟨[.str ⟨#[97]⟩ t, .ref 46], []⟩) ⟨[], 0, 0, []⟩ [0, 0, 0, 0, 0, 3])) (by kernel_rfl)
    exact ev_call 60 [(46, ob39 (tx w true) 46)] [] [0, 0, 0, 0, 0, 3] hh F N e (by kernel_rfl) (fun p hp => by rw [List.mem_singleton.mp hp]; exact ob39_get (X.keeps F.keep) (by kernel_rfl)) (fun _ h => nomatch h) List.nodup_nil (fun _ _ _ h => nomatch h)
      fun h' tk F' _ R _ => h h' tk _ F' (R news fun p hp => ⟨hp, fun h => nomatch h⟩)
  · obtain ⟨t', e⟩ := strPart_eq (x := ⟨#[97]⟩) (v := outVal (evCode (ecfg prog (tx w false) s [(46, ob39 (tx w false) 46)]) 60 none (.call (.builtin "str.translate") ⟨[.str ⟨#[97]⟩ t, .ref 46], []⟩) ⟨[], 0, 0, []⟩ [0, 0, 0, 0, 0, 3])) (by kernel_rfl)
    exact ev_call 60 [(46, ob39 (tx w false) 46)] [] [0, 0, 0, 0, 0, 3] hh F N e (by kernel_rfl) (fun p hp => by rw [List.mem_singleton.mp hp]; exact ob39_get (X.keeps F.keep) (by kernel_rfl)) (fun _ h => nomatch h) List.nodup_nil (fun _ _ _ h => nomatch h)
      fun h' tk F' _ R _ => h h' tk _ F' (R news fun p hp => ⟨hp, fun h => nomatch h⟩)
theorem tr_e {w : World} {t : Tok} (hh : A.handled = none) (F : Fr h₀ L s.heap m) (N : News h₀ L s.heap news) (X : (Mine.hd.heap_39 w.params).In h₀)
    (h : ∀ h' tk t', Fr h₀ L h' m → News h₀ L h' news → Q (.str ⟨#[233]⟩ t') { s with heap := h', toks := tk }) :
    wpAny (model prog w) A (call (.builtin "str.translate") [.str ⟨#[233]⟩ t, .ref 46] []) Q E s := by
  revert X
  refine byText (P := fun w => (Mine.hd.heap_39 w.params).In h₀ → wpAny (model prog w) A (call (.builtin "str.translate") [.str ⟨#[233]⟩ t, .ref 46] []) Q E s) w (fun X => ?_) (fun X => ?_)
  · obtain ⟨t', e⟩ := strPart_eq (x := ⟨#[233]⟩) (v := outVal (evCode (ecfg prog (tx w true) s [(46, ob39 (tx w true) 46)]) 60 none (.call (.builtin "str.translate") ⟨[.str ⟨#[233]⟩ t, .ref 46], []⟩) ⟨[], 0, 0, []⟩ [0, 0, 0, 0, 0, 3])) (by kernel_rfl)
    exact ev_call 60 [(46, ob39 (tx w true) 46)] [] [0, 0, 0, 0, 0, 3] hh F N e (by kernel_rfl) (fun p hp => by rw [List.mem_singleton.mp hp]; exact ob39_get (X.keeps F.keep) (by kernel_rfl)) (fun _ h => nomatch h) List.nodup_nil (fun _ _ _ h => nomatch h)
      fun h' tk F' _ R _ => h h' tk _ F' (R news fun p hp => ⟨hp, fun h => nomatch h⟩)
  · obtain ⟨t', e⟩ := strPart_eq (x := ⟨#[233]⟩) (v := outVal (evCode (ecfg prog (tx w false) s [(46, ob39 (tx w false) 46)]) 60 none (.call (.builtin "str.translate") ⟨[.str ⟨#[233]⟩ t, .ref 46], []⟩) ⟨[], 0, 0, []⟩ [0, 0, 0, 0, 0, 3])) (by kernel_rfl)
    exact ev_call 60 [(46, ob39 (tx w false) 46)] [] [0, 0, 0, 0, 0, 3] hh F N e (by kernel_rfl) (fun p hp => by rw [List.mem_singleton.mp hp]; exact ob39_get (X.keeps F.keep) (by kernel_rfl)) (fun _ h => nomatch h) List.nodup_nil (fun _ _ _ h => nomatch h)
      fun h' tk F' _ R _ => h h' tk _ F' (R news fun p hp => ⟨hp, fun h => nomatch h⟩)
end
section
variable {prog : Program} {w : World} {M : Model} {A : Around} {E : Value → Shared → Prop} {s : Shared} {h₀ : Heap} {L : Addr} {m : Str → Option Value} {news : List (Addr × Obj)} {Q : Value → Shared → Prop}
noncomputable def dictEs (o : Obj) : Array DictEntry := match o.data with | .dict es _ => es | _ => #[]
noncomputable def dictEp (o : Obj) : Nat := match o.data with | .dict _ n => n | _ => 0
noncomputable def intEntry (e : DictEntry) : Bool := match e.key with | .int k _ => e.hash == hashInt k | _ => false
theorem intKeys_of {es : Array DictEntry} (h : es.toList.all intEntry = true) : IntKeys es := by
  intro e he
  have := List.all_eq_true.mp h e (by simpa using he)
  unfold intEntry at this
  split at this
  · rename_i k t hk
    exact ⟨k, t, hk, by simpa using this⟩
  · cases this
theorem map46 {h : Heap} (X : (Mine.hd.heap_39 w.params).In h) : h.IntMap 46 (fun k => findBy Value.isInt (dictEs (ob39 w 46)) k) :=
  ⟨ob39 w 46, dictEs (ob39 w 46), dictEp (ob39 w 46), ob39_get X (by kernel_rfl), by kernel_rfl, by kernel_rfl, intKeys_of (by kernel_rfl), fun _ => rfl⟩
theorem tl_text {c : Nat} {x : Str} {Q : Builtin.Str.Mapped → Shared → Prop} (X : (Mine.hd.heap_39 w.params).In s.heap) (hv : strPart (findBy Value.isInt (dictEs (ob39 w 46)) (c : Int)) = some x)
    (h : Q (.text x) { s with toks := s.toks + 2 }) : wpAny (model prog w) A (Builtin.Str.tableLookup (.ref 46) c) Q E s := by
  obtain ⟨t, e⟩ := strPart_eq hv
  unfold Builtin.Str.tableLookup
  refine wpAny_bind (wpAny_attempt (wpAny_bind (wpAny_mkInt (wpAny_getItem_intMap (s := { s with toks := s.toks + 1 }) (map46 X) e ?_))))
  exact wpAny_bind (wpAny_of_eq (a := none) rfl (wpAny_bind (wpAny_of_eq (a := some x) rfl (wpAny_pure h))))
theorem tr_dot {t : Tok} (X : (Mine.hd.heap_39 w.params).In s.heap)
    (h : ∀ tk t', Q (.str ⟨#[92, 46]⟩ t') { s with toks := tk }) :
    wpAny (model prog w) A (call (.builtin "str.translate") [.str ⟨#[46]⟩ t, .ref 46] []) Q E s := by
  refine wpAny_call_entry F.slot_str_translate (typeIs_str _ _ _) F.entry_str_translate ?_ (F.args_str_translate_2 _ _)
  unfold Builtin.«str.translate»
  refine wpAny_bind (wpAny_of_eq (a := (.str ⟨#[46]⟩ t, ⟨#[46]⟩, .ref 46)) (by kernel_rfl) ?_)
  dsimp only
  refine wpAny_ite ?_
  rw [if_neg (by decide)]
  rw [← Array.forIn_toList]
  simp only [List.forIn_cons, List.forIn_nil]
  refine wpAny_bind (wpAny_bind ?_)
  rw [if_neg (by decide), if_pos (by decide +kernel)]
  simp only [List.lookup]
  refine wpAny_bind (tl_text (w := w) (c := 46) (x := ⟨#[92, 46]⟩) X (by kernel_rfl) ?_)
  have hif : (if ((⟨#[92, 46]⟩ : Str).length == 1 && (⟨#[92, 46]⟩ : Str).cps.all fun x => decide (x < 128)) = true then some ((⟨#[92, 46]⟩ : Str).cps[0]?) else none) = none := if_neg (by decide +kernel)
  dsimp only at hif ⊢
  rw [hif]
  dsimp only
  refine wpAny_bind (wpAny_pure ?_)
  dsimp only
  refine wpAny_bind (wpAny_rule ?_)
  rw [if_neg (by decide)]
  refine wpAny_bind (tl_text (w := w) (c := 46) (x := ⟨#[92, 46]⟩) X (by kernel_rfl) ?_)
  refine wpAny_pure ?_
  refine wpAny_pure ?_
  dsimp only
  rw [if_neg (by decide)]
  exact wpAny_bind (wpAny_mkStr (x := ⟨#[92, 46]⟩) (wpAny_pure ⟨_, rfl, h _ _⟩) (by decide))
end
section
variable {prog : Program} {w : World} {A : Around} {E : Value → Shared → Prop} {Q : Flow → Shared → Prop} {s : Shared} {env : Env}
noncomputable def WLoop (prog : Program) (w : World) (A : Around) (env : Env) (test : PySem.Expr) (body : List PySem.Stmt) (Q : Flow → Shared → Prop) (E : Value → Shared → Prop) (s : Shared) : Prop :=
  codeAny (model prog w) A (.whileLoop test body [] env) (fun r s' => match r with | .ok f => Q f s' | .error e => cameBackBy (model prog w) A env E e s') s
theorem WLoop.start {test : PySem.Expr} {body : List PySem.Stmt} {pos : Pos} (h : WLoop prog w A env test body Q E s) : wpAny (model prog w) A (exec (.While test body [] pos) env) Q E s := wpAny_While h
theorem WLoop.step {test : PySem.Expr} {body : List PySem.Stmt}
    (h : wpAny (model prog w) A (isTrue test env (eval test env)) (fun b s₂ =>
        if b = true then wpAny (model prog w) A (execs body env) (fun f s₃ => match f with
          | .next => WLoop prog w A env test body Q E s₃
          | .cont => WLoop prog w A env test body Q E s₃
          | .brk => Q .next s₃
          | .ret v => Q (.ret v) s₃) E s₂ else Q .next s₂) E s)
    (hE : PassesOwn (model prog w) A env E := by passes_own) : WLoop prog w A env test body Q E s := by
  unfold WLoop
  refine codeAny_of_tree ?_
  show wpAny _ A ((whileTurn test body [] env).onRaise (fun x => do noteFrame x env; theTreesLotGoes x)) _ _ s
  refine wpAny_noted ?_
  simp only [whileTurn]
  refine wpAny_bind (wpAny_mono h (fun b s₂ h₂ => ?_) hE)
  cases b with
  | false =>
    simp only [Bool.false_eq_true, if_false] at h₂ ⊢
    exact wpAny_bind (wpAny_execs_nil (wpAny_pure h₂))
  | true =>
    simp only [if_true] at h₂ ⊢
    refine wpAny_bind (wpAny_mono h₂ (fun f s₃ h₃ => ?_) hE)
    cases f with
    | next => exact wpAny_pure ⟨rfl, h₃⟩
    | cont => exact wpAny_pure ⟨rfl, h₃⟩
    | brk => exact wpAny_pure h₃
    | ret v => exact wpAny_pure h₃
end
section
variable {prog : Program} {w : World} {A : Around} {E : Value → Shared → Prop} {s : Shared} {Q : Value → Shared → Prop}
noncomputable def TextAt (x : Str) (l : Nat) (ks : List Nat) : Prop := ∀ k, k < ks.length → x.cps[l + k]? = ks[k]?
theorem textAt_of {x : Str} {pre mid post : List Nat} (h : x.cps.toList = pre ++ (mid ++ post)) : TextAt x pre.length mid := by
  intro k hk
  rw [← Array.getElem?_toList, h, List.getElem?_append_right (by omega), show pre.length + k - pre.length = k by omega, List.getElem?_append_left hk]
theorem str_at {value slice : PySem.Expr} {x : Str} {t u : Tok} {i : Int} {c l : Nat} {ks : List Nat} (k : Nat) (H : TextAt x l ks) (hl : l < 2 ^ 62) (hi : i = (l : Int) + (k : Int)) (hk : ks[k]? = some c) (h : Q (.str ⟨#[c]⟩ s.toks) { s with toks := s.toks + 1 })
    (hs : subscripted slice false (.str x t) (.int i u) = operate [.str x t, .int i u] (getItem (.str x t) (.int i u)) := by with_unfolding_all rfl) (hks : ks.length < 1000 := by decide) :
    wpAny (model prog w) A (subscriptTail value slice (.str x t) (.int i u)) Q E s := by
  have hk2 : k < ks.length := (List.getElem?_eq_some_iff.mp hk).1
  refine str_item (by omega) (by omega) ?_ h hs
  rw [show i.toNat = l + k by omega, H k hk2, hk]
end
section
variable {prog : Program} {w : World} {A : Around} {E : Value → Shared → Prop} {s : Shared} {Q : Value → Shared → Prop} {h₀ : Heap} {L : Addr} {m : Str → Option Value} {news : List (Addr × Obj)}
theorem txt_slice {x : Str} {l : Nat} {ks : List Nat} (H : TextAt x l ks) (a b : Nat) (hab : a ≤ b) (hb : b ≤ ks.length) (hx : l + ks.length ≤ x.length) (hne : b - a < x.length) :
    Txt.slice x (some ((l : Int) + (a : Int))) (some ((l : Int) + (b : Int))) = ⟨((ks.drop a).take (b - a)).toArray⟩ := by
  unfold Txt.slice
  rw [show (l : Int) + (a : Int) = ((l + a : Nat) : Int) by omega, show (l : Int) + (b : Int) = ((l + b : Nat) : Int) by omega, PySem.StrLaws.strSliceIndices_plain (by omega) (by omega)]
  rw [if_neg (by simp; omega)]
  rw [show l + b - (l + a) = b - a by omega]
  have key : ∀ c, c ≤ b - a → List.filterMap (fun x_1 => x.cps[x_1]?) (List.map (fun k => l + a + k) (List.range c)) = (ks.drop a).take c := by
    intro c hc
    induction c with
    | zero => rfl
    | succ c ih =>
      rw [List.range_succ, List.map_append, List.filterMap_append, ih (by omega)]
      have hk : a + c < ks.length := by omega
      have := H (a + c) hk
      simp only [List.map_cons, List.map_nil, List.filterMap_cons, List.filterMap_nil]
      rw [show l + a + c = l + (a + c) by omega, this, List.getElem?_eq_getElem hk]
      rw [List.take_succ]
      congr 1
      rw [List.getElem?_drop, List.getElem?_eq_getElem hk]
      rfl
  rw [key _ (Nat.le_refl _)]
theorem slice_at {value slice : PySem.Expr} {x : Str} {t ui uj : Tok} {i j : Int} {l : Nat} {ks : List Nat} (a b : Nat) (c : Array Nat) (H : TextAt x l ks) (hF : Fr h₀ L s.heap m) (hN : News h₀ L s.heap news) (hi : i = (l : Int) + (a : Int)) (hj : j = (l : Int) + (b : Int)) (hx : l + ks.length ≤ x.length) (hne : b - a < x.length) (hsz : x.length ≤ sizeLine)
    (hab : a ≤ b) (hb : b ≤ ks.length) (hc : ((ks.drop a).take (b - a)).toArray = c)
    (h : ∀ h' t' k, Fr h₀ L h' m → News h₀ L h' news → Q (.str ⟨c⟩ t') { s with heap := h', toks := k })
    (hs : subscripted slice false (.str x t) (.ref s.heap.objs.size) = operate [.ref s.heap.objs.size, .str x t] (getItem (.str x t) (.ref s.heap.objs.size)) := by with_unfolding_all rfl)
    (ht : ∀ r, letTemporaryGo value (.str x t) r = pure () := by intro _; with_unfolding_all rfl) :
    wpAny (model prog w) A (subscriptTail value slice (.str x t) (.ref s.heap.objs.size)) Q E { s with heap := s.heap.push { cls := .type "slice", data := .fields #[.int i ui, .int j uj, .none] } } := by
  refine slice_strN_ss hF hN (fun h' t' k F' N' => ?_) hs ht hsz
  rw [hi, hj, txt_slice H a b hab hb hx hne, hc]
  exact h h' t' k F' N'
end
section
variable {prog : Program} {w : World} {A : Around} {E : Value → Shared → Prop} {s : Shared} {Q : Value → Shared → Prop} {h₀ : Heap} {L : Addr} {m : Str → Option Value} {news : List (Addr × Obj)}
theorem rep_na {t1 t2 t3 : Tok} (hh : A.handled = none) (F : Fr h₀ L s.heap m) (N : News h₀ L s.heap news)
    (h : ∀ h' tk t', Fr h₀ L h' m → News h₀ L h' news → Q (.str (Str.ofString "!a") t') { s with heap := h', toks := tk }) :
    wpAny (model prog w) A (call (.builtin "str.replace") [.str (Str.ofString "!a") t1, .str (Str.ofString "\\") t2, .str (Str.ofString "\\\\") t3] []) Q E s := by
  rw [show Str.ofString "!a" = ⟨#[33, 97]⟩ from by decide +kernel, show Str.ofString "\\" = ⟨#[92]⟩ from by decide +kernel, show Str.ofString "\\\\" = ⟨#[92, 92]⟩ from by decide +kernel] at *
  exact ev_call 60 [] [] [] hh F N (v := .str ⟨#[33, 97]⟩ t1) (by kernel_rfl) (by kernel_rfl) (fun _ h => nomatch h) (fun _ h => nomatch h) List.nodup_nil (fun _ h => nomatch h)
    fun h' tk F' _ R _ => h h' tk _ F' (R news fun p hp => ⟨hp, fun h => nomatch h⟩)
theorem rep_nil {t1 t2 t3 : Tok} (hh : A.handled = none) (F : Fr h₀ L s.heap m) (N : News h₀ L s.heap news)
    (h : ∀ h' tk t', Fr h₀ L h' m → News h₀ L h' news → Q (.str ⟨#[]⟩ t') { s with heap := h', toks := tk }) :
    wpAny (model prog w) A (call (.builtin "str.replace") [.str ⟨#[]⟩ t1, .str (Str.ofString "\\") t2, .str (Str.ofString "\\\\") t3] []) Q E s := by
  rw [show Str.ofString "\\" = ⟨#[92]⟩ from by decide +kernel, show Str.ofString "\\\\" = ⟨#[92, 92]⟩ from by decide +kernel] at *
  exact ev_call 60 [] [] [] hh F N (v := .str ⟨#[]⟩ t1) (by kernel_rfl) (by kernel_rfl) (fun _ h => nomatch h) (fun _ h => nomatch h) List.nodup_nil (fun _ h => nomatch h)
    fun h' tk F' _ R _ => h h' tk _ F' (R news fun p hp => ⟨hp, fun h => nomatch h⟩)
theorem notin_na {t1 t2 : Tok} (hh : A.handled = none) (F : Fr h₀ L s.heap m) (N : News h₀ L s.heap news)
    (h : ∀ h' tk, Fr h₀ L h' m → News h₀ L h' news → Q (.bool true) { s with heap := h', toks := tk }) :
    wpAny (model prog w) A (compareOp .NotIn (.str (Str.ofString "-") t1) (.str (Str.ofString "!a") t2)) Q E s := by
  rw [show Str.ofString "!a" = ⟨#[33, 97]⟩ from by decide +kernel, show Str.ofString "-" = ⟨#[45]⟩ from by decide +kernel] at *
  exact ev_tree (PySem.W.ZFast.zw12886488535604756494 .NotIn (.str ⟨#[45]⟩ t1) (.str ⟨#[33, 97]⟩ t2)) 60 [] [] [] hh F N (by rw [← PySem.W.ZFast.ze12886488535604756494]) (v := .bool true) (by kernel_rfl) (by kernel_rfl) (fun _ h => nomatch h) (fun _ h => nomatch h) List.nodup_nil (fun _ h => nomatch h)
    fun h' tk F' _ R _ => h h' tk F' (R news fun p hp => ⟨hp, fun h => nomatch h⟩)
theorem notin_ba {t1 t2 : Tok} (hh : A.handled = none) (F : Fr h₀ L s.heap m) (N : News h₀ L s.heap news)
    (h : ∀ h' tk, Fr h₀ L h' m → News h₀ L h' news → Q (.bool false) { s with heap := h', toks := tk }) :
    wpAny (model prog w) A (compareOp .NotIn (.str (Str.ofString "-") t1) (.str (Str.ofString "b-a") t2)) Q E s := by
  rw [show Str.ofString "b-a" = ⟨#[98, 45, 97]⟩ from by decide +kernel, show Str.ofString "-" = ⟨#[45]⟩ from by decide +kernel] at *
  exact ev_tree (PySem.W.ZFast.zw12886488535604756494 .NotIn (.str ⟨#[45]⟩ t1) (.str ⟨#[98, 45, 97]⟩ t2)) 60 [] [] [] hh F N (by rw [← PySem.W.ZFast.ze12886488535604756494]) (v := .bool false) (by kernel_rfl) (by kernel_rfl) (fun _ h => nomatch h) (fun _ h => nomatch h) List.nodup_nil (fun _ h => nomatch h)
    fun h' tk F' _ R _ => h h' tk F' (R news fun p hp => ⟨hp, fun h => nomatch h⟩)
end
section
variable {prog : Program} {w : World} {A : Around} {E : Value → Shared → Prop} {s : Shared} {h₀ : Heap} {L : Addr} {m : Str → Option Value} {news : List (Addr × Obj)}
theorem gm_sub {pl : Sem Bool} {Q : Value × List Value → Shared → Prop} (hh : A.handled = none) (F : Fr h₀ L s.heap m) (N : News h₀ L s.heap news) (X : (Mine.hd.heap_39 w.params).In h₀)
    (h : ∀ h' tk, Fr h₀ L h' m → News h₀ L h' news → Q (.builtin "re.Pattern.sub", [.ref 44]) { s with heap := h', toks := tk }) :
    wpAny (model prog w) A (getMethod (.ref 44) (Str.ofString "sub") pl) Q E s := by
  rw [show Str.ofString "sub" = ⟨#[115, 117, 98]⟩ from by decide +kernel] at *
  exact ev_tree (PySem.W.ZFast.zw6042679816869820781 (.ref 44) ⟨#[115, 117, 98]⟩ pl) 60 [(44, ob39 w 44)] [] [0, 0, 0, 0] hh F N (by rw [← PySem.W.ZFast.ze6042679816869820781]) (v := (.builtin "re.Pattern.sub", [.ref 44])) (by kernel_rfl) (by kernel_rfl) (fun p hp => by rw [List.mem_singleton.mp hp]; exact ob39_get (X.keeps F.keep) (by kernel_rfl)) (fun _ h => nomatch h) List.nodup_nil (fun _ _ _ h => nomatch h)
    fun h' tk F' _ R _ => h h' tk F' (R news fun p hp => ⟨hp, fun h => nomatch h⟩)
end
section
variable {prog : Program} {w : World} {A : Around} {E : Value → Shared → Prop} {s : Shared} {h₀ : Heap} {L : Addr} {m mg mb : Str → Option Value} {news : List (Addr × Obj)} {p : Program} {loose : List Str} {mean : ExcName → Option Value} {Q : Value → Shared → Prop}
noncomputable def IsFn (o : Obj) : Prop := ∃ fd, o = { cls := .type "function", data := .func fd }
theorem updF_same {d : Addr} {o : Obj} {l : List (Addr × Obj)} {g : Obj → List (Addr × Obj)} (U : UpdF d o l g) : g o = l := by
  induction U with
  | head _ => rfl
  | tail _ _ ih => exact congrArg (_ :: ·) ih
theorem updF_mem {d : Addr} {o o' : Obj} {l : List (Addr × Obj)} {g : Obj → List (Addr × Obj)} (U : UpdF d o l g) : (d, o') ∈ g o' := by
  induction U with
  | head _ => exact .head _
  | tail _ _ ih => exact .tail _ ih
theorem News.drop2 {h₀ h' : Heap} {L : Addr} {a b : Addr × Obj} {l : List (Addr × Obj)} (N : News h₀ L h' (a :: b :: l)) : News h₀ L h' (a :: l) := fun q hq => by
  rcases List.mem_cons.mp hq with rfl | hq
  · exact N _ (.head _)
  · exact N _ (.tail _ (.tail _ hq))
/-- a lambda without a closure: a new function, whatever stood in the table -/
theorem lam_any {params : Arguments} {body : PySem.Expr} {scope : Scope} {pos : Pos} {cn : Str} {cs : Scope} {a : Addr} {ccd : Value} {cl : List (Str × Addr)} {c P : Addr} {ps : Array Value} {g : Obj → List (Addr × Obj)}
    (hdef : defaultsOf params (envX cn cs L a ccd cl) = ([], [])) (hcl : closureFor scope (envX cn cs L a ccd cl) = pure [])
    (F : Fr h₀ L s.heap m) (N : News h₀ L s.heap news) (T : Top p loose mean mg mb h₀) (C : CodeHd h₀ c P) (hcd : ccd = .ref c) (U : UpdF P (tabObj ps) news g) (ht : TabOk ps)
    (h : ∀ f o h' tk ps', IsFn o → Fr h₀ L h' m → News h₀ L h' ((f, o) :: g (tabObj ps')) → TabOk ps' → (∀ q ∈ news, q.1 < f) → Q (.ref f) { s with heap := h', toks := tk }) :
    wpAny (model prog w) A (eval (.Lambda params body scope pos) (envX cn cs L a ccd cl)) Q E s := by
  refine kla_eval hdef ?_
  rcases ht.2 pos with hn | ⟨c', hc⟩
  · refine kla_nest F N T C hcd U ht.1 hn hcl fun f c' oc vs t ctv h' tk F' N' _ _ l1 l2 => ?_
    exact h f _ h' tk (ps ++ #[rawInt pos.line, rawInt pos.col, .ref c']) ⟨_, rfl⟩ F' (News.drop2 N') ht.snoc (fun q hq => Nat.lt_trans (l1 q hq) l2)
  · have hm : (P, tabObj ps) ∈ news := by have := updF_mem (o' := tabObj ps) U; rwa [updF_same U] at this
    refine kla_hit F N T C hcd hm ht.1 hc hcl fun f ctv h' tk F' N' l1 => ?_
    exact h f _ h' tk ps ⟨_, rfl⟩ F' (by rw [updF_same U]; exact N') ht l1
theorem sub_na {f : Addr} {t1 : Tok} (hh : A.handled = none) (F : Fr h₀ L s.heap m) (N : News h₀ L s.heap news) (X : (Mine.hd.heap_39 w.params).In h₀) {o : Obj} (hf : (f, o) ∈ news) (ho : IsFn o)
    (h : ∀ h' tk t', Fr h₀ L h' m → News h₀ L h' news → Q (.str (Str.ofString "!a") t') { s with heap := h', toks := tk }) :
    wpAny (model prog w) A (call (.builtin "re.Pattern.sub") [.ref 44, .ref f, .str (Str.ofString "!a") t1] []) Q E s := by
  obtain ⟨fd, rfl⟩ := ho
  rw [show Str.ofString "!a" = ⟨#[33, 97]⟩ from by decide +kernel] at *
  obtain ⟨t', e⟩ := strPart_eq (x := ⟨#[33, 97]⟩) (v := outVal (evCode (ecfg prog w s [(43, ob39 w 43), (44, ob39 w 44), (f, { cls := .type "function", data := .func fd })]) 60 none (.call (.builtin "re.Pattern.sub") ⟨[.ref 44, .ref f, .str ⟨#[33, 97]⟩ t1], []⟩) ⟨[], 0, 0, []⟩ [2, 4, 2, 0, 2, 0, 1, 1, 1, 1, 1, 1])) (by kernel_rfl)
  exact ev_call 60 [(43, ob39 w 43), (44, ob39 w 44), (f, { cls := .type "function", data := .func fd })] [] [2, 4, 2, 0, 2, 0, 1, 1, 1, 1, 1, 1] hh F N e (by kernel_rfl) (fun p hp => by
      rcases List.mem_cons.mp hp with rfl | hp
      · exact ob39_get (X.keeps F.keep) (by kernel_rfl)
      rcases List.mem_cons.mp hp with rfl | hp
      · exact ob39_get (X.keeps F.keep) (by kernel_rfl)
      · rw [List.mem_singleton.mp hp]; exact (N _ hf).1) (fun _ h => nomatch h) List.nodup_nil (fun _ _ _ h => nomatch h)
    fun h' tk F' _ R _ => h h' tk _ F' (R news fun p hp => ⟨hp, fun h => nomatch h⟩)
theorem sub_nil {f : Addr} {t1 : Tok} (hh : A.handled = none) (F : Fr h₀ L s.heap m) (N : News h₀ L s.heap news) (X : (Mine.hd.heap_39 w.params).In h₀) {o : Obj} (hf : (f, o) ∈ news) (ho : IsFn o)
    (h : ∀ h' tk t', Fr h₀ L h' m → News h₀ L h' news → Q (.str ⟨#[]⟩ t') { s with heap := h', toks := tk }) :
    wpAny (model prog w) A (call (.builtin "re.Pattern.sub") [.ref 44, .ref f, .str ⟨#[]⟩ t1] []) Q E s := by
  obtain ⟨fd, rfl⟩ := ho
  obtain ⟨t', e⟩ := strPart_eq (x := ⟨#[]⟩) (v := outVal (evCode (ecfg prog w s [(43, ob39 w 43), (44, ob39 w 44), (f, { cls := .type "function", data := .func fd })]) 60 none (.call (.builtin "re.Pattern.sub") ⟨[.ref 44, .ref f, .str ⟨#[]⟩ t1], []⟩) ⟨[], 0, 0, []⟩ [2, 4, 2, 0, 2, 0, 1])) (by kernel_rfl)
  exact ev_call 60 [(43, ob39 w 43), (44, ob39 w 44), (f, { cls := .type "function", data := .func fd })] [] [2, 4, 2, 0, 2, 0, 1] hh F N e (by kernel_rfl) (fun p hp => by
      rcases List.mem_cons.mp hp with rfl | hp
      · exact ob39_get (X.keeps F.keep) (by kernel_rfl)
      rcases List.mem_cons.mp hp with rfl | hp
      · exact ob39_get (X.keeps F.keep) (by kernel_rfl)
      · rw [List.mem_singleton.mp hp]; exact (N _ hf).1) (fun _ h => nomatch h) List.nodup_nil (fun _ _ _ h => nomatch h)
    fun h' tk F' _ R _ => h h' tk _ F' (R news fun p hp => ⟨hp, fun h => nomatch h⟩)
end
section
open PySem.Builtin PySem.Builtin.Str PySem.StrLaws
variable {prog : Program} {w : World} {A : Around} {E : Value → Shared → Prop} {s : Shared} {Q : Value → Shared → Prop}
noncomputable def find4V (x y : Str) (i j : Int) : Int := match occurrences x y (fromIndex x.length i) (min (fromIndex x.length j) x.length) 1 with | k :: _ => (k : Int) | [] => -1
theorem gives_find4 (x y : Str) (i j : Int) (t u v v' : Tok) : Gives («str.find» ⟨[.str x t, .str y u, .int i v, .int j v'], []⟩) (.int (find4V x y i j)) := by
  show Gives (match occurrences x y (fromIndex x.length i) (min (fromIndex x.length j) x.length) 1 with | k :: _ => retInt k | [] => (do rule "str.find.not-found"; retInt (-1))) _
  unfold find4V
  cases occurrences x y (fromIndex x.length i) (min (fromIndex x.length j) x.length) 1 with
  | nil => exact .rule (.of_eq rfl)
  | cons k _ => exact .of_eq rfl
theorem find4 {x y : Str} {i j : Int} {t u v v' : Tok} (hq : Q (.int (find4V x y i j) s.toks) { s with toks := s.toks + 1 }) : wpAny (model prog w) A (call (.builtin "str.find") [.str x t, .str y u, .int i v, .int j v']) Q E s :=
  call_gives F.slot_str_find (typeIs_str _ _ _) F.entry_str_find (F.args_str_find_4 _ _ _ _) (gives_find4 x y i j t u v v') hq
theorem find4V_hit {x : Str} {c lo hi : Nat} (hx : x.cps[lo]? = some c) (h1 : lo < hi) (h2 : hi ≤ x.length) : find4V x ⟨#[c]⟩ lo hi = lo := by
  unfold find4V
  have e1 : fromIndex x.length (lo : Int) = lo := by unfold fromIndex; have : ¬ (lo : Int) < 0 := by omega
                                                     simp [this]
  have e2 : fromIndex x.length (hi : Int) = hi := by unfold fromIndex; have : ¬ (hi : Int) < 0 := by omega
                                                     simp [this]
  have hat : At x ⟨#[c]⟩ hi lo := ⟨by show lo + 1 ≤ hi; omega, ((subAt_one x c lo).mpr (by rw [← hx, Array.getElem?_toList])).2⟩
  rw [e1, e2, Nat.min_eq_left h2, occ_eq]
  rcases occ_first x ⟨#[c]⟩ hi 1 (Nat.le_refl 1) (List.range' lo (hi + 1 - lo)) lo (fun i hi => by have := List.mem_range'_1.mp hi; omega) with ⟨_, hn⟩ | ⟨pre, a, post, e, h0, _, hn⟩
  · exact absurd hat (hn lo (by rw [List.mem_range'_1]; omega))
  · have ea : a = lo := by
      cases pre with
      | nil =>
        rw [show hi + 1 - lo = (hi - lo) + 1 by omega, List.range'_succ] at e
        simp at e
        exact e.1.symm
      | cons b pre =>
        rw [show hi + 1 - lo = (hi - lo) + 1 by omega, List.range'_succ] at e
        simp at e
        exact absurd hat (e.1 ▸ hn b (.head _))
    subst ea
    generalize (forIn (List.range' a (hi + 1 - a)) ((#[] : Array Nat), a) (occBody x ⟨#[c]⟩ hi 1)).run.fst = arr at h0
    have h1 : arr.toList[0]? = some a := by simpa using h0
    cases hL : arr.toList with
    | nil => rw [hL] at h1; cases h1
    | cons b t => rw [hL] at h1; simp at h1; rw [h1]
theorem find4V_miss {x y : Str} {lo hi : Nat} (h1 : hi < lo) (h2 : hi ≤ x.length) : find4V x y lo hi = -1 := by
  unfold find4V
  have e1 : fromIndex x.length (lo : Int) = lo := by unfold fromIndex; have : ¬ (lo : Int) < 0 := by omega
                                                     simp [this]
  have e2 : fromIndex x.length (hi : Int) = hi := by unfold fromIndex; have : ¬ (hi : Int) < 0 := by omega
                                                     simp [this]
  rw [e1, e2, Nat.min_eq_left h2, occ_eq, show hi + 1 - lo = 0 by omega]
  rfl
theorem find_at {x : Str} {l : Nat} {ks : List Nat} {i j : Int} {t u v v' : Tok} (a b : Nat) (H : TextAt x l ks) (hi : i = (l : Int) + (a : Int)) (hj : j = (l : Int) + (b : Int)) (hx : l + ks.length ≤ x.length) (hab : a < b) (hb : b ≤ ks.length) (hk : ks[a]? = some 45)
    (hq : ∀ n : Int, n = (l : Int) + (a : Int) → Q (.int n s.toks) { s with toks := s.toks + 1 }) : wpAny (model prog w) A (call (.builtin "str.find") [.str x t, .str (Str.ofString "-") u, .int i v, .int j v']) Q E s := by
  rw [show Str.ofString "-" = ⟨#[45]⟩ from by decide +kernel]
  refine find4 (hq _ ?_)
  rw [hi, hj, show (l : Int) + (a : Int) = ((l + a : Nat) : Int) by omega, show (l : Int) + (b : Int) = ((l + b : Nat) : Int) by omega]
  exact find4V_hit (by rw [H a (by omega), hk]) (by omega) (by omega)
theorem find_no {x y : Str} {l : Nat} {ks : List Nat} {i j : Int} {t u v v' : Tok} (a b : Nat) (_H : TextAt x l ks) (hi : i = (l : Int) + (a : Int)) (hj : j = (l : Int) + (b : Int)) (hx : l + b ≤ x.length) (hab : b < a)
    (hq : Q (.int (-1) s.toks) { s with toks := s.toks + 1 }) : wpAny (model prog w) A (call (.builtin "str.find") [.str x t, .str y u, .int i v, .int j v']) Q E s := by
  refine find4 ?_
  rw [hi, hj, show (l : Int) + (a : Int) = ((l + a : Nat) : Int) by omega, show (l : Int) + (b : Int) = ((l + b : Nat) : Int) by omega, find4V_miss (by omega) (by omega)]
  exact hq
end
section
variable {prog : Program} {w : World} {A : Around} {E : Value → Shared → Prop} {s : Shared} {Q : Value → Shared → Prop} {h₀ : Heap} {L : Addr} {news : List (Addr × Obj)}
theorem list_item {value slice : PySem.Expr} {r : Addr} {vs : Array Value} {v : Value} {n : Nat} {u : Tok} {i : Int} (k : Nat) (N : News h₀ L s.heap news) (hr : (r, listOf vs n) ∈ news) (hi : i = (k : Int)) (hv : vs[k]? = some v) (hk : k < 1000) (h : Q v s)
    (hs : subscripted slice false (.ref r) (.int i u) = operate [.ref r, .int i u] (getItem (.ref r) (.int i u)) := by with_unfolding_all rfl) :
    wpAny (model prog w) A (subscriptTail value slice (.ref r) (.int i u)) Q E s := by
  have hl : s.heap.IsList r vs := News.isList N hr
  subst hi
  exact tail_any hl.typeIs slot_list_getitem.lookup (wpAny_getItem_list hl (by omega) (by omega) (by rw [← hv]; simp) h) hs
theorem list_item2_0 {value slice : PySem.Expr} {r : Addr} {a b : Value} {n : Nat} {u : Tok} {i : Int} (N : News h₀ L s.heap news) (hr : (r, listOf ((#[].push a).push b) n) ∈ news) (hi : i = 0) (h : Q a s)
    (hs : subscripted slice false (.ref r) (.int i u) = operate [.ref r, .int i u] (getItem (.ref r) (.int i u)) := by with_unfolding_all rfl) :
    wpAny (model prog w) A (subscriptTail value slice (.ref r) (.int i u)) Q E s := list_item 0 N hr (by rw [hi]; rfl) rfl (by decide) h hs
theorem list_item2_1 {value slice : PySem.Expr} {r : Addr} {a b : Value} {n : Nat} {u : Tok} {i : Int} (N : News h₀ L s.heap news) (hr : (r, listOf ((#[].push a).push b) n) ∈ news) (hi : i = 1) (h : Q b s)
    (hs : subscripted slice false (.ref r) (.int i u) = operate [.ref r, .int i u] (getItem (.ref r) (.int i u)) := by with_unfolding_all rfl) :
    wpAny (model prog w) A (subscriptTail value slice (.ref r) (.int i u)) Q E s := list_item 1 N hr (by rw [hi]; rfl) rfl (by decide) h hs
end
section
variable {prog : Program} {w : World} {A : Around} {E : Value → Shared → Prop} {s : Shared} {Q : Value → Shared → Prop}
/-- a call that the kernel runs; nothing old is changed -/
theorem ev_callK {f : Value} {pos : List Value} {kw : List (Str × Value)} (fuel : Nat) (ro : List (Addr × Obj)) (hs : List Nat) {v : Value} (hh : A.handled = none)
    (hv : outVal (evCode (ecfg prog w s ro) fuel none (.call f ⟨pos, kw⟩) ⟨[], 0, 0, []⟩ hs) = some v)
    (hp : outPsL (evCode (ecfg prog w s ro) fuel none (.call f ⟨pos, kw⟩) ⟨[], 0, 0, []⟩ hs) = outPsR (evCode (ecfg prog w s ro) fuel none (.call f ⟨pos, kw⟩) ⟨[], 0, 0, []⟩ hs))
    (hro : ∀ p ∈ ro, s.heap.get? p.1 = some p.2)
    (h : ∀ s', Keeps s s' → Q v s') :
    wpAny (model prog w) A (call f pos kw) Q E s := by
  refine wpAny_call ?_
  cases e : evCode (ecfg prog w s ro) fuel none (.call f ⟨pos, kw⟩) ⟨[], 0, 0, []⟩ hs with
  | stop => rw [e] at hv; cases hv
  | stopW => rw [e] at hv; cases hv
  | ok lf st' hs' =>
    rw [e] at hv hp
    cases lf with
    | exc => cases hv
    | ret fin =>
      cases fin with
      | again => cases hv
      | done fl =>
        cases fl with
        | ret v' =>
          cases hv
          obtain ⟨_, k⟩ := evCode_sound (prog := prog) (w := w) (C := ecfg prog w s ro) rfl denZ_is fuel none _ _ _ _ _ _ e
          refine k (ps_eq hp) A s _ hh ⟨rfl, rfl, hro, fun p hp => (nomatch hp), List.nodup_nil, fun _ _ _ hq => (nomatch hq)⟩ fun s' I K Y => ⟨_, rfl, ?_⟩
          exact h s' ⟨s'.heap, s'.toks, K.1, fun b o e => K.2 b o (fun h => nomatch h) e⟩
        | _ => cases hv
theorem Keeps.trans {a b c : Shared} (x : Keeps a b) (y : Keeps b c) : Keeps a c := by
  obtain ⟨h, t, rfl, k⟩ := x
  obtain ⟨h', t', rfl, k'⟩ := y
  exact ⟨h', t', rfl, fun b o e => k' b o (k b o e)⟩
theorem Keeps.refl (a : Shared) : Keeps a a := ⟨a.heap, a.toks, rfl, fun _ _ e => e⟩
noncomputable abbrev sBs : Str := ⟨#[92]⟩
noncomputable abbrev sBs2 : Str := ⟨#[92, 92]⟩
theorem repK_1 {t1 t2 t3 : Tok} (hh : A.handled = none) (h : ∀ s' t', Keeps s s' → Q (.str ⟨#[]⟩ t') s') :
    wpAny (model prog w) A (call (.builtin "str.replace") [.str ⟨#[]⟩ t1, .str (Str.ofString "\\") t2, .str (Str.ofString "\\\\") t3] []) Q E s := by
  rw [show Str.ofString "\\" = ⟨#[92]⟩ from by decide +kernel, show Str.ofString "\\\\" = ⟨#[92, 92]⟩ from by decide +kernel] at *
  exact ev_callK 60 [] [] hh (v := .str ⟨#[]⟩ t1) (by kernel_rfl) (by kernel_rfl) (fun _ h => nomatch h) fun s' k => h s' _ k
theorem repK_2 {t1 t2 t3 : Tok} (hh : A.handled = none) (h : ∀ s' t', Keeps s s' → Q (.str ⟨#[]⟩ t') s') :
    wpAny (model prog w) A (call (.builtin "str.replace") [.str ⟨#[]⟩ t1, .str (Str.ofString "-") t2, .str (Str.ofString "\\-") t3] []) Q E s := by
  rw [show Str.ofString "-" = ⟨#[45]⟩ from by decide +kernel, show Str.ofString "\\-" = ⟨#[92, 45]⟩ from by decide +kernel] at *
  exact ev_callK 60 [] [] hh (v := .str ⟨#[]⟩ t1) (by kernel_rfl) (by kernel_rfl) (fun _ h => nomatch h) fun s' k => h s' _ k
theorem elt_wp {env : Env} {m₂ : Str → Option Value} {t : Tok} {pn pa pb pd pe c1 c2 c3 c4 : Pos} {k1 k2 k3 k4 : Nat} (hh : A.handled = none) (hn : s.heap.Ns env.locals m₂) (hm : m₂ (Str.ofString "s") = some (.str ⟨#[]⟩ t))
    (hl1 : (pa.endLine == pb.line) = true) (hl2 : (pd.endLine == pe.line) = true) (hk : env.scope.kind = .function) (hl : env.kindOf (Str.ofString "s") = some .local) :
    wpAny (model prog w) A (eval (.Call (.Attribute (.Call (.Attribute (.Name (Str.ofString "s") pn) (Str.ofString "replace") pa) [.Constant (.str (Str.ofString "\\")) k1 c1, .Constant (.str (Str.ofString "\\\\")) k2 c2] [] pb) (Str.ofString "replace") pd) [.Constant (.str (Str.ofString "-")) k3 c3, .Constant (.str (Str.ofString "\\-")) k4 c4] [] pe) env)
      (fun y s' => (∃ u, y = .str ⟨#[]⟩ u) ∧ Keeps s s') E s := by
  refine wpAny_Call_method_lateS rfl rfl hl2 ?_
  refine wpAny_Call_method_lateS rfl rfl hl1 ?_
  refine wpAny_Name (wpAny_loadName_local hk hl hn hm ?_)
  refine ⟨"str", "str.replace", F.plainAttrs_str, F.slot_str_replace, F.type_str_replace, typeIs_str _ _ _, GM.noRef, ?_⟩
  refine callWith_method1 ?_
  refine args_cons ?_
  refine wpAny_Constant_str ?_
  refine args_cons ?_
  refine wpAny_Constant_str ?_
  refine args_nil ?_
  refine repK_1 hh fun s₁ t₁ K₁ => ?_
  refine ⟨"str", "str.replace", F.plainAttrs_str, F.slot_str_replace, F.type_str_replace, typeIs_str _ _ _, GM.noRef, ?_⟩
  refine callWith_method1 ?_
  refine args_cons ?_
  refine wpAny_Constant_str ?_
  refine args_cons ?_
  refine wpAny_Constant_str ?_
  refine args_nil ?_
  refine repK_2 hh fun s₂ t₂ K₂ => ?_
  have k0 : ∀ (a : Shared) (n : Nat), Keeps a { a with toks := n } := fun a n => ⟨a.heap, n, rfl, fun _ _ e => e⟩
  exact ⟨⟨_, rfl⟩, Keeps.trans (k0 s _) (Keeps.trans K₁ (Keeps.trans (k0 s₁ _) K₂))⟩
end
section
variable {prog : Program} {w : World} {A : Around} {E : Value → Shared → Prop} {s : Shared} {h₀ : Heap} {L : Addr} {m mg mb : Str → Option Value} {news : List (Addr × Obj)} {p : Program} {loose : List Str} {mean : ExcName → Option Value} {Q : Value → Shared → Prop}
/-- a generator over a list: what stood in the ledger stays -/
theorem gen_K {elt iter : PySem.Expr} {x : Str} {px : Pos} {scope : Scope} {cl clo : List (Str × Addr)} {pos : Pos} {cn : Str} {cs : Scope} {a : Addr} {ccd : Value} {c P : Addr} {ps : Array Value} {g : Obj → List (Addr × Obj)} {l : Addr} {items : Array Value} {nl : Nat} {F₀ : Nat → Value → Prop}
    (hh : A.handled = none) (F : Fr h₀ L s.heap m) (N : News h₀ L s.heap news) (T : Top p loose mean mg mb h₀) (C : CodeHd h₀ c P) (hcd : ccd = .ref c) (U : UpdF P (tabObj ps) news g) (ht : TabOk ps) (G : AllBare s.gens)
    (hco : scope.isCoroutine = false) (hclos : closureFor scope (envX cn cs L a ccd clo) = pure cl) (hcell : ∀ y ∈ scope.names, y.2 ≠ .cell) (h0 : scope.names.lookup (".0" : Str) = some NameKind.local)
    (hx : scope.names.lookup x = some .local) (hkind : scope.kind = .function) (hroom : A.depth < recursionLimit) (hl : (l, listOf items nl) ∈ news)
    (hit : wpAny (model prog w) A (eval iter (envX cn cs L a ccd clo)) (fun v s' => v = .ref l ∧ s' = s) E s)
    (helt : ∀ (code : Value) (C : Addr) (A' : Around) E' i v (s₂ : Shared) m₂, A'.handled = none → items[i]? = some v → s₂.heap.Ns C m₂ → m₂ x = some v →
      wpAny (model prog w) A' (eval elt (genEnv scope cl C code builtinsNs (envX cn cs L a ccd clo))) (fun y s₃ => F₀ i y ∧ Keeps s₂ s₃) E' s₂)
    (h : ∀ a K h' tk gs ps', Fr h₀ L h' m → News h₀ L h' (g (tabObj ps')) → TabOk ps' → AllBare gs → L ≤ K → (∀ q ∈ g (tabObj ps'), q.1 ≤ K) →
      Gen prog w A K a items.size (fun j y => ∃ i, (List.range items.size)[j]? = some i ∧ F₀ i y) { s with heap := h', toks := tk, gens := gs } → Q (.ref a) { s with heap := h', toks := tk, gens := gs })
    (hs : ∀ x, genFold iter (envX cn cs L a ccd clo) x = pure x) :
    wpAny (model prog w) A (eval (.GeneratorExp elt [⟨.Name x px, iter, [], 0⟩] scope pos) (envX cn cs L a ccd clo)) Q E s := by
  have hli : s.heap.IsList l items := News.isList N hl
  have hlt : l < s.heap.objs.size := Heap.lt_size (N _ hl).1
  refine wpAny_GeneratorExp_walksQ hh hco hclos hcell h0 hx hkind hroom (wpAny_mono hit (fun xv s₁ h₁' => ?_) fun _ _ e => e) hs
  obtain ⟨rfl, rfl⟩ := h₁'
  refine wpAny_pyIter_list hli ?_
  have hm : (P, tabObj ps) ∈ news := by have := updF_mem (o' := tabObj ps) U; rwa [updF_same U] at this
  have hlim : (s₁.heap.push { cls := .type "list_iterator", data := .fields #[.ref l, .int 0 0] }).NoLimit := (T.nolimit.keeps F.keep).push _
  refine ⟨hlim, ?_⟩
  have hps : ∀ b o, s₁.heap.get? b = some o → (s₁.heap.push { cls := .type "list_iterator", data := .fields #[.ref l, .int 0 0] }).get? b = some o := fun b o e => Heap.get?_push_of_some _ e
  have hgs := (T.g.keeps F.keep).keeps hps
  obtain ⟨bm, ob, b1, b2, b3, b4, b5, b6⟩ := T.bmain
  have hmP := N (P, tabObj ps) hm
  have hgP : mainGlobals ≠ P := fun q => by
    obtain ⟨o, es, ep, e, hd, _⟩ := T.g.keeps F.keep
    rw [q, hmP.1] at e; cases e; cases hd
  have hbP : bm ≠ P := fun q => by
    have e := F.keep _ _ b3
    rw [q, hmP.1] at e; cases e; cases b4
  have hLs : L < s₁.heap.objs.size := F.ns.lt
  have hlP : l ≠ P := fun q => by
    have e := (N _ hl).1
    rw [q, hmP.1] at e; cases e
  have fin : ∀ (code : Value) (h₃ : Heap) (tk₃ : Nat) (ps' : Array Value), Heap.ExtBut P (s₁.heap.push { cls := .type "list_iterator", data := .fields #[.ref l, .int 0 0] }) h₃ → s₁.heap.objs.size + 1 ≤ h₃.objs.size → h₃.get? P = some (tabObj ps') → TabOk ps' →
      wpAny (model prog w) A (builtinsFor mainGlobals (envX cn cs L a ccd clo).builtins) (fun bi s₄ => ∃ I fp wr n₀ P St₀ pz F, (Value.ref s₁.heap.objs.size) = .ref I ∧ (∀ A' : Around, A'.handled = none → Walks prog w A' I fp wr n₀ P St₀) ∧ St₀ 0 s₄.heap ∧ (∀ b ∈ fp, b < s₄.heap.objs.size) ∧ s₄.heap.NoLimit ∧ cStatics ∉ wr ∧
          (∀ href : Heap, (∀ b o, s₄.heap.get? b = some o → href.get? b = some o) →
            QuietGen prog w (genEnv scope cl s₄.heap.objs.size code bi (envX cn cs L a ccd clo)) x [] elt (List.range s₄.heap.objs.size) wr P pz F href) ∧
          (∀ a h₅ tk gs, gs.bare = true → s₄.heap.objs.size < a → h₅.objs.size = a + 1 → (∀ b o, s₄.heap.get? b = some o → h₅.get? b = some o) →
            WalksS prog w A.in4 a (a :: s₄.heap.objs.size :: List.range s₄.heap.objs.size) (s₄.heap.objs.size :: wr) (GenOnlyQ s₄.gens.size) (passing pz n₀ 0).length
              (fun j y => ∃ i, (passing pz n₀ 0)[j]? = some i ∧ F i y) (GenAt prog w A.in4 a s₄.gens.size s₄.heap.objs.size (List.range s₄.heap.objs.size) wr pz n₀ F) →
            GenAt prog w A.in4 a s₄.gens.size s₄.heap.objs.size (List.range s₄.heap.objs.size) wr pz n₀ F 0 { s₄ with gens := s₄.gens.push gs, toks := tk, heap := h₅ } →
            Q (.ref a) { s₄ with gens := s₄.gens.push gs, toks := tk, heap := h₅ })) E { s₁ with heap := h₃, toks := tk₃ } := by
    intro code h₃ tk₃ ps' hx₃ hsz hP₃ ht'
    have hg₃ : h₃.Ns mainGlobals mg := hgs.extBut hx₃ hgP
    refine wpAny_builtinsFor hg₃ b1 b2 (hx₃ _ _ hbP (hps _ _ (F.keep _ _ b3))) b4 b5 b6 ?_
    have hcP : cStatics ≠ P := fun e => by
      obtain ⟨_, hns, _⟩ := hlim
      obtain ⟨o, es, ep, ho, hd, _⟩ := hns
      rw [e, hps _ _ hmP.1] at ho; cases ho; cases hd
    have hl₃ : h₃.NoLimit := hlim.extBut hx₃ hcP
    have hcw : cStatics ∉ [s₁.heap.objs.size] := fun hm => by
      have hc : cStatics < s₁.heap.objs.size := let ⟨_, hn, _⟩ := (T.nolimit.keeps F.keep); hn.lt
      rw [List.mem_singleton.mp hm] at hc
      exact Nat.lt_irrefl _ hc
    have old₃ : ∀ b o, b ≠ P → s₁.heap.get? b = some o → h₃.get? b = some o := fun b o hb e => hx₃ b o hb (hps b o e)
    refine ⟨s₁.heap.objs.size, [s₁.heap.objs.size, l], [s₁.heap.objs.size], items.size, _, _, (fun _ => true), F₀, rfl, fun A' hA => Walks.list hA _ _ (Nat.ne_of_lt hlt) items, ⟨⟨_, hx₃ _ _ (fun e => Nat.lt_irrefl _ (by have := Heap.lt_size hmP.1; rw [← e] at this; exact this)) (Heap.get?_push_size _ rfl), rfl, rfl⟩, ?_⟩, ?_, hl₃, hcw, ?_, ?_⟩
    · obtain ⟨o, e, r⟩ := hli
      exact ⟨o, old₃ _ _ hlP e, r⟩
    · intro b hb
      show b < h₃.objs.size
      rcases List.mem_cons.mp hb with rfl | hb
      · exact hsz
      · rw [List.mem_singleton.mp hb]; exact Nat.lt_trans hlt hsz
    · intro href hhref
      refine ⟨fun A' E' i v s₂ m₂ _ _ _ _ _ => ?_, fun A' E' i v s₂ m₂ hA hP _ hn hm _ => ?_⟩
      · exact wpAny_pure ⟨rfl, Keeps.refl _⟩
      · exact helt code _ A' E' i v s₂ m₂ hA hP hn hm
    · intro a' h₅ tk gs hgb hag hsz₅ hk₅ W hat
      have hp0 : passing (fun _ => true) items.size 0 = List.range items.size := by simp [passing]
      have hag' : h₃.objs.size < a' := hag
      have hk₅' : ∀ b o, h₃.get? b = some o → h₅.get? b = some o := hk₅
      have F₅ : Fr h₀ L h₅ m := by
        obtain ⟨oL, es, ep, hL, r⟩ := F.ns
        exact ⟨⟨oL, es, ep, hk₅' _ _ (old₃ _ _ hmP.2.1.symm hL), r⟩, fun b o e => hk₅' _ _ (old₃ _ _ (fun q => by have := hmP.2.2; rw [← q, e] at this; cases this) (F.keep b o e)), F.above⟩
      have N₅ : News h₀ L h₅ (g (tabObj ps')) := by
        obtain ⟨own, rest, rfl, hgr, h1, h2⟩ := U.split
        intro q hq
        rw [hgr] at hq
        rcases List.mem_append.mp hq with hq | hq
        · have n := N q (List.mem_append_left _ hq)
          exact ⟨hk₅' _ _ (old₃ _ _ (h1 q hq) n.1), n.2⟩
        · rcases List.mem_cons.mp hq with rfl | hq
          · exact ⟨hk₅' _ _ hP₃, hmP.2⟩
          · have n := N q (List.mem_append_right _ (.tail _ hq))
            exact ⟨hk₅' _ _ (old₃ _ _ (h2 q hq) n.1), n.2⟩
      have hKs : ∀ q ∈ g (tabObj ps'), q.1 ≤ s₁.heap.objs.size - 1 := by
        obtain ⟨own, rest, rfl, hgr, h1, h2⟩ := U.split
        intro q hq
        rw [hgr] at hq
        have : q.1 < s₁.heap.objs.size := by
          rcases List.mem_append.mp hq with hq | hq
          · exact Heap.lt_size (N q (List.mem_append_left _ hq)).1
          · rcases List.mem_cons.mp hq with rfl | hq
            · exact Heap.lt_size hmP.1
            · exact Heap.lt_size (N q (List.mem_append_right _ (.tail _ hq))).1
        exact Nat.le_sub_one_of_lt this
      refine h a' (s₁.heap.objs.size - 1) h₅ tk _ ps' F₅ N₅ ht' (G.push hgb) (Nat.le_sub_one_of_lt hLs) hKs ?_
      rw [hp0, List.length_range] at W
      refine ⟨_, _, _, _, W, hat, (fun i s' st => st.1.typeIs), List.mem_cons_self, ?_, ?_⟩
      · intro b hb
        show b < h₅.objs.size
        rw [hsz₅]
        rcases List.mem_cons.mp hb with rfl | hb
        · exact Nat.lt_succ_self _
        · rcases List.mem_cons.mp hb with rfl | hb
          · exact Nat.lt_succ_of_lt hag
          · exact Nat.lt_succ_of_lt (Nat.lt_trans (List.mem_range.mp hb) hag)
      · intro b hb
        rcases List.mem_cons.mp hb with rfl | hb
        · show s₁.heap.objs.size - 1 < h₃.objs.size
          omega
        · rw [List.mem_singleton.mp hb]; exact Nat.sub_lt (Nat.lt_of_le_of_lt (Nat.zero_le _) hLs) Nat.one_pos
  have C' : CodeHd (s₁.heap.push { cls := .type "list_iterator", data := .fields #[.ref l, .int 0 0] }) c P := (C.keeps F.keep).keeps hps
  have hP' := hps _ _ hmP.1
  rcases ht.2 pos with hn | ⟨c', hc⟩
  · refine wpAny_genexprCodeX (c := c) (P := P) hcd (C'.code hP' ht.1) (C'.tab hP') hn fun c' h₃ tk₃ hx₃ hge hlt hcode₃ _ htab₃ _ => ?_
    exact fin _ h₃ tk₃ _ hx₃ (by rw [Heap.size_push] at hge; omega) htab₃.2 ht.snoc
  · refine wpAny_genexprCode_hit (c := c) (P := P) hcd (C'.code hP' ht.1) hc ?_
    exact fin _ _ s₁.toks ps (Heap.ExtBut.refl _ _) (by rw [Heap.size_push]; omega) hP' ht
end
noncomputable def WhileStepG (h₀ : Heap) (L : Addr) (os : OsState) (J : Nat → (Str → Option Value) → List (Addr × Obj) → Prop) (n : Nat) (f : Flow) (s₃ : Shared) : Prop :=
  f = .next ∧ s₃.os = os ∧ AllBare s₃.gens ∧ ∃ m₂ news₂ n', Fr h₀ L s₃.heap m₂ ∧ News h₀ L s₃.heap news₂ ∧ n' < n ∧ J n' m₂ news₂
section
variable {prog : Program} {w : World} {A : Around} {E : Value → Shared → Prop} {Q : Flow → Shared → Prop} {s : Shared} {env : Env} {h₀ : Heap} {L : Addr}
theorem While_invG {test : PySem.Expr} {body : List PySem.Stmt} {pos : Pos} {m : Str → Option Value} {news : List (Addr × Obj)} (J : Nat → (Str → Option Value) → List (Addr × Obj) → Prop) {n₀ : Nat}
    (F : Fr h₀ L s.heap m) (N : News h₀ L s.heap news) (G : AllBare s.gens) (hJ : J n₀ m news)
    (turn : ∀ n m₁ news₁ h₁ gs dr tk₁, AllBare gs → Fr h₀ L h₁ m₁ → News h₀ L h₁ news₁ → J n m₁ news₁ → ∀ R : Flow → Shared → Prop, (∀ f s', WhileStepG h₀ L s.os J n f s' → R f s') →
      wpAny (model prog w) A (isTrue test env (eval test env)) (fun b s₂ =>
        if b = true then wpAny (model prog w) A (execs body env) R E s₂ else Q .next s₂) E ⟨h₁, gs, dr, tk₁, s.os⟩)
    (hE : PassesOwn (model prog w) A env E := by passes_own) :
    wpAny (model prog w) A (exec (.While test body [] pos) env) Q E s := by
  refine wpAny_While (codeAny_whileLoop (fun n s' => ∃ m₁ news₁, s'.os = s.os ∧ AllBare s'.gens ∧ Fr h₀ L s'.heap m₁ ∧ News h₀ L s'.heap news₁ ∧ J n m₁ news₁) ?_ n₀ ⟨m, news, rfl, G, F, N, hJ⟩)
  rintro n ⟨h₁, gs, dr, tk₁, os⟩ ⟨m₁, news₁, ho, G₁, F₁, N₁, J₁⟩
  obtain rfl : os = s.os := ho
  refine wpAny_mono (turn n m₁ news₁ h₁ gs dr tk₁ G₁ F₁ N₁ J₁ (WhileStepG h₀ L s.os J n) fun _ _ x => x) (fun b s₂ h₂ => ?_) hE
  cases b with
  | false =>
    simp only [Bool.false_eq_true, if_false] at h₂ ⊢
    exact wpAny_execs_nil h₂
  | true =>
    simp only [if_true] at h₂ ⊢
    refine wpAny_mono h₂ (fun f s₃ h₃ => ?_) hE
    obtain ⟨rfl, ho₃, G₃, m₂, news₂, n', F₂, N₂, hn, J₂⟩ := h₃
    exact ⟨n', hn, m₂, news₂, ho₃, G₃, F₂, N₂, J₂⟩
end
section
variable {prog : Program} {w : World} {A : Around} {E : Value → Shared → Prop} {s : Shared} {h₀ : Heap} {L K : Addr} {m : Str → Option Value} {news : List (Addr × Obj)} {Q : Value → Shared → Prop}
noncomputable abbrev NilAt (j : Nat) (y : Value) : Prop := ∃ i, (List.range 1)[j]? = some i ∧ ∃ u, y = .str ⟨#[]⟩ u
theorem join_nil {a : Addr} {t : Tok} (F : Fr h₀ L s.heap m) (N : News h₀ L s.heap news) (G : AllBare s.gens) (X : Gen prog w A K a 1 NilAt s) (hLK : L ≤ K) (hK : ∀ q ∈ news, q.1 ≤ K)
    (h : ∀ h' gs dr tk t', AllBare gs → Fr h₀ L h' m → News h₀ L h' news → Q (.str ⟨#[]⟩ t') ⟨h', gs, dr, tk, s.os⟩) :
    wpAny (model prog w) A (call (.builtin "str.join") [.str (Str.ofString "-") t, .ref a] []) Q E s := by
  refine join_rowsK F G X hLK (fun _ => ⟨#[]⟩) (fun j v ⟨_, _, u, e⟩ => ⟨u, e⟩) (by decide +kernel) ?_ (by decide)
  rintro ⟨h', gs, dr, tk, os⟩ t' F' G' ho hk
  obtain rfl : os = s.os := ho
  exact h h' gs dr tk t' G' F' fun q hq => ⟨hk _ _ (hK q hq) (N q hq).1, (N q hq).2⟩
end
section
variable {g h' : Heap} {L : Addr} {s : Shared}
theorem trInv_next {y1 y2 : Addr} {o1 o2 : Obj} {P : Str} {t : Tok} {st mk : Addr} {bs bm : Array UInt8} {one : Bool} {us : List U} {q r : Addr} {pre rest : List U} {u : U} {vals : List Value} {nn ti tn tk : Nat} {ps : Array Value} {z : Int} {m₁ : Str → Option Value} {gs : Array GenState} {dr : Drawn} {news₁ : List (Addr × Obj)}
    (G : AllBare gs) (hu : us = pre ++ u :: rest) (F : Fr g L h' m₁) (N : News g L h' news₁) (hnews : ∀ p ∈ [(q, bmObj "list.append" (.ref r)), (r, listOf vals.toArray nn), (st, baObj bs), (mk, baObj bm), (58, tabObj ps), (y1, o1), (y2, o2)], p ∈ news₁)
    (hv : PartsAre st mk vals (trStep one (trAll one pre) u)) (hvl : vals.length ≤ pre.length + 1) (ht : TabOk ps) (hz : z = (utext pre).length + u.text.length)
    (e : m₁ (Str.ofString "pat") = some (.str P t) ∧ m₁ (Str.ofString "STAR") = some (.ref st) ∧ m₁ (Str.ofString "QUESTION_MARK") = some (.ref mk) ∧ m₁ (Str.ofString "res") = some (.ref r) ∧ m₁ (Str.ofString "add") = some (.ref q) ∧
      m₁ (Str.ofString "n") = some (.int P.length tn) ∧ m₁ (Str.ofString "i") = some (.int z ti)) :
    WhileStepG g L s.os (TrInv P t st mk bs bm one us q r y1 y2 o1 o2) (u :: rest).length .next ⟨h', gs, dr, tk, s.os⟩ := by
  refine ⟨rfl, rfl, G, _, _, rest.length, F, (fun p hp => N p (hnews p hp)), Nat.lt_succ_self rest.length, ⟨pre ++ [u], rest, vals, nn, ti, tn, ps, by rw [hu]; simp, rfl, by rw [trAll_snoc]; exact hv, by simpa using hvl, rfl, ht, e.1, e.2.1, e.2.2.1, e.2.2.2.1, e.2.2.2.2.1, e.2.2.2.2.2.1, ?_⟩⟩
  rw [e.2.2.2.2.2.2, hz]
  simp [utext]
end
section
theorem items1 {v w : Value} {i : Nat} (h : (#[v] : Array Value)[i]? = some w) : w = v := by
  cases i with
  | zero => simpa using h.symm
  | succ i => simp at h
theorem slices_nil : (Txt.slice (Str.ofString "b") none (some (-1)) ++ Txt.slice (Str.ofString "a") (some 1) none : Str) = ⟨#[]⟩ := by decide +kernel
end
section
variable {prog : Program} {w : World} {A : Around} {E : Value → Shared → Prop} {s : Shared} {Q : Value → Shared → Prop} {h₀ : Heap} {L : Addr} {m : Str → Option Value} {news : List (Addr × Obj)}
theorem enc_a {t1 t2 : Tok} (hh : A.handled = none) (F : Fr h₀ L s.heap m) (N : News h₀ L s.heap news)
    (h : ∀ h' tk t', Fr h₀ L h' m → News h₀ L h' news → Q (.bytes #[97] t') { s with heap := h', toks := tk }) :
    wpAny (model prog w) A (call (.builtin "str.encode") [.str ⟨#[97]⟩ t1, .str (Str.ofString "ascii") t2] []) Q E s := by
  rw [show Str.ofString "ascii" = ⟨#[97, 115, 99, 105, 105]⟩ from by decide +kernel] at *
  obtain ⟨t', e⟩ := bytesPart_eq (x := #[97]) (v := outVal (evCode (ecfg prog w s []) 60 none (.call (.builtin "str.encode") ⟨[.str ⟨#[97]⟩ t1, .str ⟨#[97, 115, 99, 105, 105]⟩ t2], []⟩) ⟨[], 0, 0, []⟩ [])) (by kernel_rfl)
  exact ev_call 60 [] [] [] hh F N e (by kernel_rfl) (fun _ h => nomatch h) (fun _ h => nomatch h) List.nodup_nil (fun _ h => nomatch h)
    fun h' tk F' _ R _ => h h' tk _ F' (R news fun p hp => ⟨hp, fun h => nomatch h⟩)
theorem enc_dot {t1 t2 : Tok} (hh : A.handled = none) (F : Fr h₀ L s.heap m) (N : News h₀ L s.heap news)
    (h : ∀ h' tk t', Fr h₀ L h' m → News h₀ L h' news → Q (.bytes #[92, 46] t') { s with heap := h', toks := tk }) :
    wpAny (model prog w) A (call (.builtin "str.encode") [.str ⟨#[92, 46]⟩ t1, .str (Str.ofString "ascii") t2] []) Q E s := by
  rw [show Str.ofString "ascii" = ⟨#[97, 115, 99, 105, 105]⟩ from by decide +kernel] at *
  obtain ⟨t', e⟩ := bytesPart_eq (x := #[92, 46]) (v := outVal (evCode (ecfg prog w s []) 60 none (.call (.builtin "str.encode") ⟨[.str ⟨#[92, 46]⟩ t1, .str ⟨#[97, 115, 99, 105, 105]⟩ t2], []⟩) ⟨[], 0, 0, []⟩ [])) (by kernel_rfl)
  exact ev_call 60 [] [] [] hh F N e (by kernel_rfl) (fun _ h => nomatch h) (fun _ h => nomatch h) List.nodup_nil (fun _ h => nomatch h)
    fun h' tk F' _ R _ => h h' tk _ F' (R news fun p hp => ⟨hp, fun h => nomatch h⟩)
theorem enc_ba {t1 t2 : Tok} (hh : A.handled = none) (F : Fr h₀ L s.heap m) (N : News h₀ L s.heap news)
    (h : ∀ h' tk t', Fr h₀ L h' m → News h₀ L h' news → Q (.bytes #[40, 63, 33, 41] t') { s with heap := h', toks := tk }) :
    wpAny (model prog w) A (call (.builtin "str.encode") [.str ⟨#[40, 63, 33, 41]⟩ t1, .str (Str.ofString "ascii") t2] []) Q E s := by
  rw [show Str.ofString "ascii" = ⟨#[97, 115, 99, 105, 105]⟩ from by decide +kernel] at *
  obtain ⟨t', e⟩ := bytesPart_eq (x := #[40, 63, 33, 41]) (v := outVal (evCode (ecfg prog w s []) 60 none (.call (.builtin "str.encode") ⟨[.str ⟨#[40, 63, 33, 41]⟩ t1, .str ⟨#[97, 115, 99, 105, 105]⟩ t2], []⟩) ⟨[], 0, 0, []⟩ [])) (by kernel_rfl)
  exact ev_call 60 [] [] [] hh F N e (by kernel_rfl) (fun _ h => nomatch h) (fun _ h => nomatch h) List.nodup_nil (fun _ h => nomatch h)
    fun h' tk F' _ R _ => h h' tk _ F' (R news fun p hp => ⟨hp, fun h => nomatch h⟩)
theorem enc_na {t1 t2 : Tok} (hh : A.handled = none) (F : Fr h₀ L s.heap m) (N : News h₀ L s.heap news)
    (h : ∀ h' tk t', Fr h₀ L h' m → News h₀ L h' news → Q (.bytes #[91, 94, 97, 93] t') { s with heap := h', toks := tk }) :
    wpAny (model prog w) A (call (.builtin "str.encode") [.str ⟨#[91, 94, 97, 93]⟩ t1, .str (Str.ofString "ascii") t2] []) Q E s := by
  rw [show Str.ofString "ascii" = ⟨#[97, 115, 99, 105, 105]⟩ from by decide +kernel] at *
  obtain ⟨t', e⟩ := bytesPart_eq (x := #[91, 94, 97, 93]) (v := outVal (evCode (ecfg prog w s []) 60 none (.call (.builtin "str.encode") ⟨[.str ⟨#[91, 94, 97, 93]⟩ t1, .str ⟨#[97, 115, 99, 105, 105]⟩ t2], []⟩) ⟨[], 0, 0, []⟩ [])) (by kernel_rfl)
  exact ev_call 60 [] [] [] hh F N e (by kernel_rfl) (fun _ h => nomatch h) (fun _ h => nomatch h) List.nodup_nil (fun _ h => nomatch h)
    fun h' tk F' _ R _ => h h' tk _ F' (R news fun p hp => ⟨hp, fun h => nomatch h⟩)
theorem isin_str {a : Addr} {bs : Array UInt8} (hh : A.handled = none) (F : Fr h₀ L s.heap m) (N : News h₀ L s.heap news) (ha : (a, baObj bs) ∈ news)
    (h : ∀ h' tk, Fr h₀ L h' m → News h₀ L h' news → Q (.bool false) { s with heap := h', toks := tk }) :
    wpAny (model prog w) A (call (.builtin "isinstance") [.ref a, .type "str"] []) Q E s :=
  ev_call 60 [(a, baObj bs)] [] (List.replicate 20 0) hh F N (v := .bool false) (by kernel_rfl) (by kernel_rfl) (fun p hp => by rw [List.mem_singleton.mp hp]; exact (N _ ha).1) (fun _ h => nomatch h) List.nodup_nil (fun _ _ _ h => nomatch h)
    fun h' tk F' _ R _ => h h' tk F' (R news fun p hp => ⟨hp, fun h => nomatch h⟩)
theorem isin_tup {w : World} {a : Addr} {bs : Array UInt8} (hh : A.handled = none) (F : Fr h₀ L s.heap m) (N : News h₀ L s.heap news) (X : (Mine.hd.heap_39 w.params).In h₀) (ha : (a, baObj bs) ∈ news)
    (h : ∀ h' tk, Fr h₀ L h' m → News h₀ L h' news → Q (.bool true) { s with heap := h', toks := tk }) :
    wpAny (model prog w) A (call (.builtin "isinstance") [.ref a, .ref 32] []) Q E s :=
  ev_call 60 [(a, baObj bs), (32, ob39 w 32)] [] [0, 2, 2, 2, 2, 0, 0, 0, 0, 0, 0, 0, 0] hh F N (v := .bool true) (by kernel_rfl) (by kernel_rfl) (fun p hp => by
      rcases List.mem_cons.mp hp with rfl | hp
      · exact (N _ ha).1
      · rw [List.mem_singleton.mp hp]; exact ob39_get (X.keeps F.keep) (by kernel_rfl)) (fun _ h => nomatch h) List.nodup_nil (fun _ _ _ h => nomatch h)
    fun h' tk F' _ R _ => h h' tk F' (R news fun p hp => ⟨hp, fun h => nomatch h⟩)
end
theorem uee_typeCall (rest : List Value) : checkTypeCall "UnicodeEncodeError" ⟨rest, []⟩ = pure () := by kernel_rfl
theorem uee_madeBy : Bind.madeBy (.type "UnicodeEncodeError") = pure (some "UnicodeEncodeError.__new__") := by kernel_rfl
theorem uee_newCheck (rest : List Value) : checkBuiltinCall "UnicodeEncodeError.__new__" ⟨.type "UnicodeEncodeError" :: rest, []⟩ = pure () := by kernel_rfl
theorem uee_newEntry : entryFor table "UnicodeEncodeError.__new__" = some Builtin.«BaseException.__new__» := entryFor_alias (id' := "BaseException.__new__") (by kernel_rfl) (by first | rfl | (unfold String.splitOn; simp +decide [String.splitOnAux])) (by decide +kernel) (by kernel_rfl)
theorem uee_subOwner : isSubtype (.type "UnicodeEncodeError") (.type ("UnicodeEncodeError.__new__".dropRight 8)) = pure true := by rw [isSubtype_type]; kernel_rfl
theorem uee_madeHere : Bind.madeHere "BaseException.__new__" (.type "UnicodeEncodeError") = pure () := by kernel_rfl
theorem uee_notAttr : isSubtype (.type "UnicodeEncodeError") (.type "AttributeError") = pure false := by rw [isSubtype_type]; kernel_rfl
theorem uee_notName : isSubtype (.type "UnicodeEncodeError") (.type "NameError") = pure false := by rw [isSubtype_type]; kernel_rfl
theorem uee_self : isSubtype (.type "UnicodeEncodeError") (.type "UnicodeEncodeError") = pure true := by rw [isSubtype_type]; kernel_rfl
theorem uee_init : Slot "UnicodeEncodeError" "__init__" "UnicodeEncodeError.__init__" := .of (owner := "UnicodeEncodeError") (n := "__init__") (by rw [typeLookup_type, builtinLookup_eq_fast]; kernel_rfl) (by decide +kernel) (by decide +kernel) (by decide +kernel)
    (by first | exact .inl (by decide +kernel) | exact .inr (by decide +kernel)) (by rw [isSubtype_type]; kernel_rfl)
theorem uee_mro : ∃ l, mroOf (.type "UnicodeEncodeError") = pure l ∧ l.isEmpty = false := by
  have h : (fastBuiltinMro "UnicodeEncodeError").map (·.isEmpty) = some false := by kernel_rfl
  rw [mroOf_type]
  cases hm : fastBuiltinMro "UnicodeEncodeError" with
  | none => rw [hm] at h; cases h
  | some l => rw [hm] at h; exact ⟨l, rfl, by simpa using h⟩
section
variable {prog : Program} {w : World} {A : Around} {E : Value → Shared → Prop} {s : Shared} {h₀ : Heap} {L : Addr} {m : Str → Option Value} {news : List (Addr × Obj)} {Q : Value → Shared → Prop}
noncomputable abbrev sAscii : Str := ⟨#[97, 115, 99, 105, 105]⟩
noncomputable abbrev sOrd : Str := ⟨#[111, 114, 100, 105, 110, 97, 108, 32, 110, 111, 116, 32, 105, 110, 32, 114, 97, 110, 103, 101, 40, 49, 50, 56, 41]⟩
noncomputable abbrev ueeVs (t : Addr) : Array Value := #[.ref t, .none, .none, .none, .bool false, .none]
noncomputable abbrev ueeObj (t : Addr) : Obj := { cls := .type "UnicodeEncodeError", data := .fields (ueeVs t) }
noncomputable def IsUee (o : Obj) : Prop := ∃ t x1 x2 x3 x4 x5, o = { cls := .type "UnicodeEncodeError", data := .fields #[.ref t, .none, .none, .none, .bool false, .none, x1, x2, x3, x4, x5] }
theorem uee_initK {e t : Addr} {t1 t2 t3 t4 t5 : Tok} (hh : A.handled = none) (F : Fr h₀ L s.heap m) (N : News h₀ L s.heap ((e, ueeObj t) :: news)) (hne : ∀ p ∈ news, p.1 ≠ e)
    (h : ∀ h' tk o, Fr h₀ L h' m → News h₀ L h' ((e, o) :: news) → IsUee o → Q .none { s with heap := h', toks := tk }) :
    wpAny (model prog w) A (call (.builtin "UnicodeEncodeError.__init__") [.ref e, .str sAscii t1, .str ⟨#[233]⟩ t2, .int 0 t3, .int 1 t4, .str sOrd t5] []) Q E s := by
  refine ev_call 60 [] [(e, ueeObj t)] (List.replicate 28 1) hh F N (v := .none) (by kernel_rfl) (by kernel_rfl) (fun _ h => nomatch h) (fun p hp => by rw [List.mem_singleton.mp hp]; exact .head _) (by simp) (fun _ h => nomatch h) fun h' tk F' N' R _ => ?_
  have hN2 := R news fun p hp => ⟨.tail _ hp, fun hq => hne p hp (by simpa using hq)⟩
  have k1 : (outRw (evCode (ecfg prog w s []) 60 none (.call (.builtin "UnicodeEncodeError.__init__") ⟨[.ref e, .str sAscii t1, .str ⟨#[233]⟩ t2, .int 0 t3, .int 1 t4, .str sOrd t5], []⟩) ⟨[(e, ueeObj t)], 0, 0, []⟩ (List.replicate 28 1))).head?.map (·.1) = some e := by kernel_rfl
  have k2 : (outRw (evCode (ecfg prog w s []) 60 none (.call (.builtin "UnicodeEncodeError.__init__") ⟨[.ref e, .str sAscii t1, .str ⟨#[233]⟩ t2, .int 0 t3, .int 1 t4, .str sOrd t5], []⟩) ⟨[(e, ueeObj t)], 0, 0, []⟩ (List.replicate 28 1))).head?.map (·.2) = some { cls := .type "UnicodeEncodeError", data := .fields #[.ref (s.heap.objs.size + 0), .none, .none, .none, .bool false, .none, .str sAscii t1, .str ⟨#[233]⟩ t2, .int 0 0, .int 1 0, .str sOrd t5] } := by kernel_rfl
  generalize (outRw (evCode (ecfg prog w s []) 60 none (.call (.builtin "UnicodeEncodeError.__init__") ⟨[.ref e, .str sAscii t1, .str ⟨#[233]⟩ t2, .int 0 t3, .int 1 t4, .str sOrd t5], []⟩) ⟨[(e, ueeObj t)], 0, 0, []⟩ (List.replicate 28 1))) = l at N' k1 k2
  cases l with
  | nil => cases k1
  | cons q l =>
    obtain ⟨e', o⟩ := q
    obtain rfl : e' = e := Option.some.inj k1
    refine h h' tk o F' (fun p hp => ?_) ⟨_, _, _, _, _, _, Option.some.inj k2⟩
    rcases List.mem_cons.mp hp with rfl | hp
    · exact N' _ (.head _)
    · exact hN2 p hp
end
section
variable {prog : Program} {w : World} {A : Around} {E : Value → Shared → Prop} {s : Shared} {h₀ : Heap} {L : Addr} {m : Str → Option Value} {news : List (Addr × Obj)} {Q : Value → Shared → Prop}
theorem uee_new {rest : List Value} (hrest : rest.length ≤ sizeLine)
    (h : Q (.ref (s.heap.push { cls := .type "tuple", data := .seq rest.toArray }).objs.size) { s with heap := (s.heap.push { cls := .type "tuple", data := .seq rest.toArray }).push (ueeObj s.heap.objs.size) }) :
    wpAny (model prog w) A (call (.builtin "UnicodeEncodeError.__new__") (.type "UnicodeEncodeError" :: rest)) Q E s := by
  refine call_builtin_at (by decide +kernel) uee_newEntry (uee_newCheck rest) ?_
  unfold Builtin.«BaseException.__new__»
  refine PyProof.Rows.wpAt_bind (PyProof.Rows.wpAt_owner rfl (by decide +kernel) (PyProof.Rows.wpAt_of_any ?_))
  dsimp only
  refine wpAny_bind (m := isType _) (wpAny_of_eq (a := true) rfl ?_)
  simp only [Bool.not_true, Bool.false_eq_true, if_false]
  refine wpAny_bind (wpAny_of_eq uee_subOwner ?_)
  simp only [Bool.not_true, Bool.false_eq_true, if_false]
  refine wpAny_bind (wpAny_of_eq uee_madeHere ?_)
  refine wpAny_bind (wpAny_of_eq (a := 0) ?own ?_)
  case own =>
    show (do
      if ← isSubtype (.type "UnicodeEncodeError") (.type "AttributeError") then return 2
      if ← isSubtype (.type "UnicodeEncodeError") (.type "NameError") then return 1
      return 0 : Sem Nat) = pure 0
    simp only [uee_notAttr, uee_notName, pure_bind, Bool.false_eq_true, if_false]
  unfold newTuple
  refine wpAny_bind (wpAny_newObj_type (wpAny_bind (wpAny_newObj_type (wpAny_pure ⟨_, rfl, ?_⟩) (by size_fits))) (by show rest.toArray.size ≤ sizeLine; rw [List.size_toArray]; exact hrest))
  first
    | exact h
    | simpa using h
theorem call_uee {t1 t2 t3 t4 t5 : Tok} (hh : A.handled = none) (F : Fr h₀ L s.heap m) (N : News h₀ L s.heap news)
    (h : ∀ e h' tk o, Fr h₀ L h' m → News h₀ L h' ((e, o) :: news) → IsUee o → (∀ p ∈ news, p.1 < e) → Q (.ref e) { s with heap := h', toks := tk }) :
    wpAny (model prog w) A (call (.type "UnicodeEncodeError") [.str sAscii t1, .str ⟨#[233]⟩ t2, .int 0 t3, .int 1 t4, .str sOrd t5]) Q E s := by
  refine wpAny_call (codeAny_of_tree ?_)
  show wpAny _ _ (callAny (.type "UnicodeEncodeError") ⟨[.str sAscii t1, .str ⟨#[233]⟩ t2, .int 0 t3, .int 1 t4, .str sOrd t5], []⟩) _ _ s
  simp only [callAny]
  refine wpAny_pure ⟨Code.quiet_builtin _ (by decide +kernel), codeAny_builtin entry_type_call ?_⟩
  rw [Around.under_plain (weight_type_call "UnicodeEncodeError" _ _) (by first | rfl | kernel_rfl | decide +kernel)]
  unfold Builtin.«type.__call__»
  dsimp only
  rw [if_neg (by decide +kernel), if_neg (by decide +kernel)]
  obtain ⟨l, hl, hle⟩ := uee_mro
  refine wpAny_bind (wpAny_of_eq (uee_typeCall _) (wpAny_bind (wpAny_of_eq hl ?_)))
  rw [if_neg (by rw [hle]; exact Bool.false_ne_true)]
  refine wpAny_bind (wpAny_of_eq uee_madeBy ?_)
  dsimp only
  refine wpAny_bind (wpAny_pure (wpAny_bind (wpAny_holding (uee_new (show 5 ≤ sizeLine by decide) ?_))))
  refine wpAny_bind (wpAny_isInstance (T := "UnicodeEncodeError") ⟨_, Heap.get?_push_size _ rfl, rfl⟩ uee_self ?_)
  simp only [Bool.not_true, Bool.false_eq_true, if_false]
  have F1 := (F.push { cls := .type "tuple", data := .seq [.str sAscii t1, .str ⟨#[233]⟩ t2, .int 0 t3, .int 1 t4, .str sOrd t5].toArray }).push (ueeObj s.heap.objs.size)
  have N1 : News h₀ L ((s.heap.push { cls := .type "tuple", data := .seq [.str sAscii t1, .str ⟨#[233]⟩ t2, .int 0 t3, .int 1 t4, .str sOrd t5].toArray }).push (ueeObj s.heap.objs.size)) (((s.heap.push { cls := .type "tuple", data := .seq [.str sAscii t1, .str ⟨#[233]⟩ t2, .int 0 t3, .int 1 t4, .str sOrd t5].toArray }).objs.size, ueeObj s.heap.objs.size) :: news) := by
    have a := News.push (F.push _) (News.push F N { cls := .type "tuple", data := .seq [.str sAscii t1, .str ⟨#[233]⟩ t2, .int 0 t3, .int 1 t4, .str sOrd t5].toArray }) (ueeObj s.heap.objs.size)
    exact News.drop2 a
  have hlt : ∀ p ∈ news, p.1 < (s.heap.push { cls := .type "tuple", data := .seq [.str sAscii t1, .str ⟨#[233]⟩ t2, .int 0 t3, .int 1 t4, .str sOrd t5].toArray }).objs.size := fun p hp => by
    have := Heap.lt_size (N p hp).1
    rw [Heap.size_push]
    exact Nat.lt_succ_of_lt this
  refine wpAny_bind (wpAny_holding (wpAny_callSpecial?_slot (name := Str.ofString "__init__") (T := "UnicodeEncodeError") ⟨_, Heap.get?_push_size _ rfl, rfl⟩ uee_init
    (uee_initK hh F1 N1 (fun p hp => Nat.ne_of_lt (hlt p hp)) fun h' tk o F' N' hu => ?_)))
  dsimp only
  rw [if_neg (by simp)]
  exact wpAny_pure (h _ h' tk o F' N' hu hlt)
end
section
open PySem.Builtin PySem.Builtin._codecs
variable {prog : Program} {w : World} {A : Around} {E : Value → Shared → Prop} {s : Shared} {h₀ : Heap} {L : Addr} {m : Str → Option Value} {news : List (Addr × Obj)} {Q : Value → Shared → Prop}
theorem road_e {self : Value} : encodeRoad "str.encode" self ⟨#[233]⟩ sAscii none = (encodeNarrow "str.encode" asciiCodec none self ⟨#[233]⟩ >>= fun b => mkBytes b) := by
  unfold encodeRoad
  have e : (normalName sAscii).toString = "ascii" := by decide +kernel
  rw [e]
  rfl
theorem fault_is {α : Type} {self : Value} : (raiseEncodeFault {} asciiCodec.name self 0 1 asciiCodec.reason : Sem α) = ((do let a ← mkStr asciiCodec.name; let b ← pure self; let c ← mkInt 0; let d ← mkInt 1; let e ← mkStr asciiCodec.reason; call (.type "UnicodeEncodeError") [a, b, c, d, e]) >>= fun x => raiseNew x) := rfl
theorem enc_e {t1 t2 : Tok} (hh : A.handled = none) (Fh : Fr h₀ L s.heap m) (N : News h₀ L s.heap news)
    (h : ∀ e h' tk o, Fr h₀ L h' m → News h₀ L h' ((e, o) :: news) → IsUee o → (∀ p ∈ news, p.1 < e) → E (.ref e) { s with heap := h', toks := tk }) :
    wpAny (model prog w) A (call (.builtin "str.encode") [.str ⟨#[233]⟩ t1, .str (Str.ofString "ascii") t2] []) Q E s := by
  rw [show Str.ofString "ascii" = sAscii from by decide +kernel]
  refine wpAny_call_entry F.slot_str_encode (typeIs_str _ _ _) F.entry_str_encode ?_ (F.args_str_encode_2 _ _)
  unfold Builtin.«str.encode»
  refine wpAny_bind (wpAny_of_eq (a := (.str ⟨#[233]⟩ t1, ⟨#[233]⟩, [.str sAscii t2])) (by kernel_rfl) ?_)
  dsimp only
  refine wpAny_bind (wpAny_of_eq (a := [some (.str sAscii t2), none]) (by kernel_rfl) ?_)
  dsimp only
  refine wpAny_bind (wpAny_of_eq (a := some sAscii) (by kernel_rfl) ?_)
  refine wpAny_bind (wpAny_of_eq (a := none) (by kernel_rfl) ?_)
  show wpAny _ _ (encodeRoad "str.encode" (.str ⟨#[233]⟩ t1) ⟨#[233]⟩ sAscii none >>= _) _ _ _
  rw [road_e]
  refine wpAny_bind (wpAny_bind ?_)
  unfold encodeNarrow
  have hname : ((none : Option Str).getD (Str.ofString "strict")).toString = "strict" := by decide +kernel
  rw [hname]
  dsimp only
  rw [Std.Legacy.Range.forIn_eq_forIn_range']
  simp only [show (⟨#[233]⟩ : Str).length = 1 from rfl, Std.Legacy.Range.size, List.range'_one, Nat.sub_zero, Nat.add_sub_cancel, Nat.div_one, List.forIn_cons, List.forIn_nil]
  refine wpAny_bind (wpAny_bind ?_)
  rw [if_neg (by decide)]
  simp only [show (#[233] : Array Nat)[0]? = some 233 from rfl]
  rw [if_neg (by decide +kernel)]
  refine wpAny_bind (wpAny_rule ?_)
  rw [if_pos (show ("strict" == "strict" && !(asciiCodec.name == "utf-8")) = true by decide +kernel)]
  refine wpAny_bind ?_
  rw [show (0 + (Array.findIdx? (fun y => !asciiCodec.bad y) (#[233] : Array Nat).extract).getD (#[233] : Array Nat).size) = 1 by decide +kernel]
  rw [fault_is]
  refine wpAny_bind (wpAny_bind (wpAny_mkStr ?_ (by decide +kernel)))
  refine wpAny_bind (wpAny_pure ?_)
  refine wpAny_bind (wpAny_mkInt ?_)
  refine wpAny_bind (wpAny_mkInt ?_)
  refine wpAny_bind (wpAny_mkStr ?_ (by decide +kernel))
  rw [show (asciiCodec.name : Str) = sAscii from by decide +kernel, show (asciiCodec.reason : Str) = sOrd from by decide +kernel]
  refine call_uee (h₀ := h₀) (L := L) (m := m) (news := news) hh Fh N fun e h' tk o F' N' hu hlt => ?_
  unfold raiseNew
  refine wpAny_bind (wpAny_handled ?_)
  rw [show A.in1.handled = none from hh]
  first
    | refine wpAny_throw ?_
    | refine wpAny_bind (wpAny_pure (wpAny_throw ?_))
  exact h e h' tk o F' N' hu hlt
end
section
variable {prog : Program} {w : World} {A₀ : Around} {E : Value → Shared → Prop} {s' : Shared} {base g g₀ : Heap} {outer : List Env} {L a e : Addr} {m : Str → Option Value} {name : Str} {scope : Scope} {cd : Value}
  {b₀ : PySem.Stmt} {suite : List PySem.Stmt} {pos np : Pos} {rest : List ExceptHandler} {Q : Flow → Shared → Prop} {news : List (Addr × Obj)} {KF : Frag}
  {p : Program} {loose : List Str} {mean : ExcName → Option Value} {mg mb : Str → Option Value} {x : Str} {X T' : String} {o : Obj} {vs : Array Value} {a0 : Value}
/-- a new exception of a built-in, caught in the function that it was raised in -/
theorem caught_fresh (F : Fr g L s'.heap m) (N : News g L s'.heap ((e, o) :: news)) (hlt : ∀ q ∈ news, q.1 ≠ e) (ho : o.cls = .type X) (hd0 : o.data = .fields vs) (h0 : vs[0]? = some a0) (h1 : vs[1]? = some .none)
    (K : Below A₀ base outer g) (XB : KF.In base) (TB : Top p loose mean mg mb base)
    (ex : nsIn KF mainGlobals x = some none) (hv : bootBuiltins x = some (.type T')) (hn' : x ≠ "__name__")
    (hexc : isSubtype (.type T') (.type "BaseException") = pure true) (hnt : isSubtype (.type ((Manifest.find? T').elim "type" fun y => y.metatype)) (.type "tuple") = pure false) (hsub : isSubtype (.type X) (.type T') = pure true)
    (k : ∀ h' g', KtsTurn (outer.filterMap (·.frame)) g g' → Fr g' L h' m → News g' L h' news → Below A₀ base outer g' → KF.In g' → Top p loose mean mg mb g' →
      wpAny (model prog w) ((A₀.deeper (envOf name scope L a cd)).mark (some (.ref e))) (execs (b₀ :: suite) (envOf name scope L a cd)) Q E { s' with heap := h' })
    (hk : scope.kind = .function := by rfl) (hx : (envOf name scope L a cd).kindOf x = some .globalImplicit := by rfl) (hd : (x == ("__debug__" : Str)) = false := by decide)
    (hE : PassesOwnAt (model prog w) ((A₀.deeper (envOf name scope L a cd)).mark (some (.ref e))) (A₀.deeper (envOf name scope L a cd)) (envOf name scope L a cd) E := by passes_own) :
    wpAny (model prog w) (A₀.deeper (envOf name scope L a cd)) (noteFrame (.ref e) (envOf name scope L a cd))
      (fun _ s₂ => wpAny (model prog w) (A₀.deeper (envOf name scope L a cd)) (setFlight (.ref e) none) (fun _ s₃ =>
        wpAny (model prog w) (A₀.deeper (envOf name scope L a cd)) (handleBy (.ref e) (envOf name scope L a cd) (.ExceptHandler (some (.Name x np)) none (b₀ :: suite) pos :: rest)) Q E s₃) E s₂) E s' := by
  have he := (N _ (.head _)).1
  have hge := (N _ (.head _)).2
  have K' := K.push (name := name) (a := a) (cd := cd) F hk
  let hid : List Addr := e :: (envOf name scope L a cd :: outer).filterMap (·.frame)
  have hin : ∀ env ∈ (envOf name scope L a cd :: outer), ∀ b, env.frame = some b → b ∈ hid := fun env he b hb => .tail _ (List.mem_filterMap.mpr ⟨env, he, hb⟩)
  have gfr : ∀ b ∈ outer.filterMap (·.frame), ∃ o, g.get? b = some o := fun b hb => by
    obtain ⟨_, o, ho, _⟩ := K.frames.mem hb
    exact ⟨o, ho⟩
  have nhid : ∀ b o, g.get? b = some o → b ∉ outer.filterMap (·.frame) → b ∉ hid := fun b o q nm hm => by
    rcases List.mem_cons.mp hm with rfl | hm
    · rw [hge.2] at q; cases q
    · rcases kts_mem hm with z | z
      · rw [z, kts_self F] at q; cases q
      · exact nm z
  have hBG : ∀ b o, s'.heap.get? b = some o → b ∉ hid → (hideAll s'.heap hid).get? b = some o := fun b o q nm => hideAll_get _ q nm
  have st : base.StaysIn (hideAll s'.heap hid) := fun b o q => hideAll_get _ (K'.stays b o q) fun hm => by
    rcases List.mem_cons.mp hm with rfl | hm
    · have := fresh_of_stays K.stays hge.2; rw [this] at q; cases q
    · rw [(K'.frames.mem hm).1] at q; cases q
  have hl : ∀ q ∈ news, (hideAll s'.heap hid).get? q.1 = some q.2 ∧ g.get? q.1 = none ∧ base.get? q.1 = none := fun q hq => by
    have n := N q (.tail _ hq)
    refine ⟨hideAll_get _ n.1 fun hm => ?_, n.2.2, fresh_of_stays K.stays n.2.2⟩
    rcases List.mem_cons.mp hm with z | hm
    · exact hlt q hq z
    · rcases kts_mem hm with z | z
      · exact n.2.1 z
      · obtain ⟨o, ho⟩ := gfr _ z
        rw [n.2.2] at ho; cases ho
  have hen : (hideAll s'.heap hid).get? e = none := hideAll_none _ (.head _)
  have hL : (hideAll s'.heap hid).get? L = none := hideAll_none _ (.tail _ (.head _))
  have note : ∀ {P : Unit → Shared → Prop}, (∀ h', Heap.HeldW (hideAll s'.heap hid) (envOf name scope L a cd :: outer) e o.cls a0 L h' → s'.heap.UpToSlots h' → P () { s' with heap := h' }) →
      wpAny (model prog w) (A₀.deeper (envOf name scope L a cd)) (noteFrame (.ref e) (envOf name scope L a cd)) P E s' := by
    intro P hP
    unfold noteFrame
    simp only [show (envOf name scope L a cd).frame = some L from rfl]
    refine wpAny_bind (wpAny_field he hd0 h1 ?_)
    rw [if_neg (by decide)]
    refine wpAny_entryW (base := hideAll s'.heap hid) (Around.frames_deeper K.stack) (funFrames_hide K'.frames hin) rfl he (fun b o hb => of_hideAll _ hb) hen hd0 (Array.getElem?_eq_some_iff.mp h1).1 h0 fun h' hN => ?_
    obtain ⟨k1, k2, k3, k4⟩ := hN
    exact hP h' ⟨k1, hen, k2, k3⟩ k4
  have hLe : L ≠ e := fun z => hge.1 z.symm
  have FG : Fr g L (hideAll s'.heap [e]) m := by
    obtain ⟨oL, es, ep, hL, r⟩ := F.ns
    exact ⟨⟨oL, es, ep, hideAll_get _ hL (by simpa using hLe), r⟩, fun b o q => hideAll_get _ (F.keep b o q) (by
      intro hm
      rw [List.mem_singleton.mp hm] at q
      rw [hge.2] at q; cases q), F.above⟩
  have hBG' : ∀ b o, (hideAll s'.heap [e]).get? b = some o → b ∉ (envOf name scope L a cd :: outer).filterMap (·.frame) → (hideAll s'.heap hid).get? b = some o := fun b o q nm => by
    refine hideAll_get _ (of_hideAll _ q) fun hm => ?_
    rcases List.mem_cons.mp hm with z | hm
    · rw [z, hideAll_none _ (.head _)] at q; cases q
    · exact nm hm
  have sm0 : (hideAll s'.heap [e]).UpToSlots s'.heap := Heap.UpToSlots.of_keeps fun b o q => of_hideAll _ q
  refine note fun h₄ hheld₄ hsm₄ => ?_
  refine wpAny_landsW hheld₄ fun h₅ hheld hsm₅' => ?_
  have hsm₅ := hsm₄.trans hsm₅'
  obtain ⟨g₅, T₅, F₅, K₅⟩ := kts_ground K FG hBG' hheld.1 (sm0.trans hsm₅)
  have X₅ : KF.In g₅ := XB.keeps K₅.stays
  have P₅ : TopRead p loose mg mb g₅ := topRead_of (TB.keeps K₅.stays)
  obtain ⟨ob, hob, hobc⟩ := hheld.there
  refine wpAny_handleBy_builtin (X := X) (T := T') (b := true) hexc hnt hsub (name_B F₅ X₅ P₅ ex hv hn' ⟨rfl, ⟨ob, hob, hobc.trans ho⟩, ?_⟩ hk hx hd)
  refine lands_againW hheld fun h₆ hfl₆ hsm₆ => ?_
  obtain ⟨g₆, T₆, F₆, K₆⟩ := kts_ground K FG hBG' hfl₆.1 ((sm0.trans hsm₅).trans hsm₆)
  have Nl : News g₆ L h₆ news := fun q hq => ⟨hfl₆.1 _ _ (hl q hq).1, (N q (.tail _ hq)).2.1, T₆.none_ _ (hl q hq).2.1⟩
  exact wpAny_passesOwnAt hE (k h₆ g₆ T₆ F₆ Nl K₆ (XB.keeps K₆.stays) (TB.keeps K₆.stays))
end
section
variable {prog : Program} {w : World} {A : Around} {E : Value → Shared → Prop} {s : Shared} {h₀ : Heap} {L : Addr} {m : Str → Option Value} {news : List (Addr × Obj)}
noncomputable def treeExc {α : Type} : EOut α → Option Value
  | .ok (.exc v) _ _ => some v
  | _ => none
noncomputable abbrev evH (prog : Program) (w : World) (s : Shared) (ro : List (Addr × Obj)) (hd : Option Value) {α : Type} (fuel : Nat) (t : Sem α) (rw : List (Addr × Obj)) (hs : List Nat) : EOut α :=
  evTree (ecfg prog w s ro) (evCode (ecfg prog w s ro) fuel) hd t ⟨rw, 0, 0, []⟩ hs
/-- a tree that the kernel runs and that raises, whatever is handled -/
theorem ev_treeX {α : Type} {t : Sem α} (t' : Sem α) {Q : α → Shared → Prop} (fuel : Nat) (ro rw : List (Addr × Obj)) (hs : List Nat) (hd : Option Value) {v : Value} (hh : A.handled = hd)
    (F : Fr h₀ L s.heap m) (N : News h₀ L s.heap news) (ht : t = t')
    (hv : treeExc (evH prog w s ro hd fuel t' rw hs) = some v)
    (hp : treePsL (evH prog w s ro hd fuel t' rw hs) = treePsR (evH prog w s ro hd fuel t' rw hs))
    (hro : ∀ p ∈ ro, s.heap.get? p.1 = some p.2) (hrw : ∀ p ∈ rw, p ∈ news) (hnd : (rw.map (·.1)).Nodup) (hap : ∀ p ∈ ro, ∀ q ∈ rw, p.1 ≠ q.1)
    (h : ∀ h' tk, Fr h₀ L h' m → News h₀ L h' (treeRw (evH prog w s ro hd fuel t' rw hs)) → (∀ rest : List (Addr × Obj), (∀ p ∈ rest, p ∈ news ∧ p.1 ∉ rw.map (·.1)) → News h₀ L h' rest) →
      s.heap.objs.size ≤ h'.objs.size → E v { s with heap := h', toks := tk }) :
    wpAny (model prog w) A t Q E s := by
  subst ht
  cases e : evH prog w s ro hd fuel t rw hs with
  | stop => rw [e] at hv; cases hv
  | stopW => rw [e] at hv; cases hv
  | ok lf st' hs' =>
    rw [e] at hv hp h
    cases lf with
    | ret => cases hv
    | exc v' =>
      cases hv
      obtain ⟨_, k⟩ := evTree_sound (prog := prog) (w := w) (C := ecfg prog w s ro) rfl (evCode_sound (prog := prog) (w := w) (C := ecfg prog w s ro) rfl denZ_is fuel) hd t _ _ _ _ _ e
      refine k (ps_eq hp) A s _ _ hh ⟨rfl, rfl, hro, fun p hp => (N p (hrw p hp)).1, hnd, hap⟩ fun s' I K Y => ?_
      obtain ⟨F', N', R'⟩ := ev_after F N hrw K Y I
      have z := h s'.heap s'.toks F' N' R' (by have := I.size; have e2 : s.heap.objs.size + st'.nw = s'.heap.objs.size := this; omega)
      have ee : s' = { s with heap := s'.heap, toks := s'.toks } := K.1
      rw [← ee] at z
      exact z
end
section
variable {M : Model} {A : Around} {E : Value → Shared → Prop} {s : Shared}
/-- e stands with these fields, and its traceback's first entry is T -/
structure Noted (B : Heap) (l : List Env) (e T : Addr) (oe : Obj) (h : Heap) : Prop where
  stays : B.StaysIn h
  frames : h.FunFrames B l
  there : h.get? e = some (oe.mapFields (·.setIfInBounds 1 (.ref T)))
  tb : ∃ oT ts, h.get? T = some oT ∧ oT.data = .fields ts ∧ 3 < ts.size
  ne : T ≠ e
  new : B.get? T = none
theorem note_first {B : Heap} {env : Env} {outer : List Env} {L e : Addr} {oe : Obj} {vs : Array Value} {Q : Unit → Shared → Prop}
    (hfr : A.frames = some (env :: outer)) (hl : s.heap.FunFrames B (env :: outer)) (hf : env.frame = some L)
    (he : s.heap.get? e = some oe) (hkb : B.StaysIn s.heap) (hen : B.get? e = none) (hd : oe.data = .fields vs) (h1 : vs[1]? = some .none)
    (h : ∀ T h', Noted B (env :: outer) e T oe h' → s.heap.UpToSlots h' → Q () { s with heap := h' }) : wpAny M A (noteFrame (.ref e) env) Q E s := by
  have hne : e ∉ (env :: outer).filterMap (·.frame) := fun hm => by
    obtain ⟨_, o, ho, hnf⟩ := hl.mem hm
    rw [he] at ho; injection ho with ho; subst ho; exact hnf vs hd
  have hsz := (Array.getElem?_eq_some_iff.mp h1).1
  unfold noteFrame
  simp only [hf]
  refine wpAny_bind (wpAny_field he hd h1 ?_)
  rw [if_neg (by decide)]
  refine wpAny_bind (wpAny_frameOf_fun hfr hl hf fun g hg => ?_)
  refine wpAny_bind (wpAny_entryPlaceOf fun pl hpl => ?_)
  unfold EntryCells.newEntry newFields
  refine wpAny_bind (wpAny_newObj_type ?_ (hpl.sizeOk5 _ _ _ _ _))
  have eg : g.get? e = some oe := (hg.2.1 e hne).trans he
  have bg : B.StaysIn g := fun b o hb => (hg.2.1 b fun hm => by rw [(hl.mem hm).1] at hb; cases hb).trans (hkb b o hb)
  have e2 := Heap.get?_push_of_some (h := g) { cls := .type "traceback", dict := none, data := .fields ([Value.none, .ref L, .none, rawInt L, .none] ++ (if pl.isEmpty then List.replicate 6 Value.none else pl)).toArray } eg
  refine wpAny_setField e2 hd hsz ?_
  have hTe : g.objs.size ≠ e := Nat.ne_of_gt (Heap.lt_size eg)
  have keep : ∀ b o, b ≠ e → g.get? b = some o → ((g.push { cls := .type "traceback", dict := none, data := .fields ([Value.none, .ref L, .none, rawInt L, .none] ++ (if pl.isEmpty then List.replicate 6 Value.none else pl)).toArray }).update e (Obj.mapFields (·.setIfInBounds 1 (Value.ref g.objs.size)))).get? b = some o := fun b o hbe hb => by
    rw [Heap.get?_update_other _ _ (Ne.symm hbe)]
    exact Heap.get?_push_of_some _ hb
  refine h g.objs.size _ ⟨fun b o hb => keep b o (fun q => by rw [q, hen] at hb; cases hb) (bg b o hb), hl.of_keeps fun b o hb hnf => ?_, Heap.get?_update_self _ e2 (Obj.isFreed_of_fields (Obj.data_mapFields hd _)),
    ⟨_, _, (Heap.get?_update_other _ _ (Ne.symm hTe)).trans (Heap.get?_push_size g rfl), rfl, by simp only [List.size_toArray, List.length_append, List.length_cons, List.length_nil]; omega⟩, hTe, bg.fresh⟩ fun b o hb hnf => ?_
  · obtain ⟨sl, hs⟩ := hg.2.2 b o hb
    exact ⟨_, keep b _ (fun q => by rw [q, he] at hb; injection hb with hb; subst hb; exact hnf vs hd) hs, rfl⟩
  · obtain ⟨sl, hs⟩ := hg.2.2 b o hb
    exact ⟨sl, keep b _ (fun q => by rw [q, he] at hb; injection hb with hb; subst hb; exact hnf vs hd) hs⟩
end
section
variable {M : Model} {A : Around} {E : Value → Shared → Prop} {s : Shared}
theorem land_noted {B : Heap} {l : List Env} {e T : Addr} {oe : Obj} {vs : Array Value} {Q : Unit → Shared → Prop} (hd : oe.data = .fields vs) (hsz : 1 < vs.size) (N : Noted B l e T oe s.heap)
    (h : ∀ h', Noted B l e T oe h' → s.heap.UpToSlots h' → Q () { s with heap := h' }) : wpAny M A (setFlight (.ref e) none) Q E s := by
  obtain ⟨hst, hfr, hth, ⟨oT, ts, hT, hdT, h3⟩, hne, hnew⟩ := N
  have hd' : (oe.mapFields (·.setIfInBounds 1 (.ref T))).data = .fields (vs.setIfInBounds 1 (.ref T)) := Obj.data_mapFields hd _
  have other : ∀ b, b ≠ T → (s.heap.update T (Obj.mapFields (·.setIfInBounds 3 ((none : Option Addr).elim Value.none fun f => rawInt f)))).get? b = s.heap.get? b :=
    fun b hb => Heap.get?_update_other _ _ (Ne.symm hb)
  have norec : ∀ b o, s.heap.get? b = some o → (∀ vs, o.data ≠ .fields vs) → b ≠ T := fun b o hb hnf q => by
    rw [q, hT] at hb; injection hb with hb; subst hb; exact hnf ts hdT
  unfold setFlight
  refine wpAny_bind (wpAny_field hth hd' (x := .ref T) (by simp [hsz]) ?_)
  rw [if_pos (show (Value.ref T != Value.none) = true from by simp)]
  refine wpAny_setField hT hdT h3 (h _ ⟨fun b o hb => (other b fun q => by rw [q, hnew] at hb; cases hb).trans (hst b o hb), hfr.of_keeps fun b o hb hnf => ⟨o, (other b (norec b o hb hnf)).trans hb, rfl⟩,
    (other e (Ne.symm hne)).trans hth, ⟨_, _, Heap.get?_update_self _ hT (Obj.isFreed_of_fields (Obj.data_mapFields hdT _)), Obj.data_mapFields hdT _, by simpa using h3⟩, hne, hnew⟩ fun b o hb hnf => ⟨o.slots, (other b (norec b o hb hnf)).trans hb⟩)
end
section
variable {prog : Program} {w : World} {A₀ : Around} {E : Value → Shared → Prop} {s' : Shared} {base g g₀ : Heap} {outer : List Env} {L a e : Addr} {m : Str → Option Value} {name : Str} {scope : Scope} {cd : Value}
  {b₀ : PySem.Stmt} {suite : List PySem.Stmt} {pos np : Pos} {rest : List ExceptHandler} {Q : Flow → Shared → Prop} {news : List (Addr × Obj)} {KF : Frag}
  {p : Program} {loose : List Str} {mean : ExcName → Option Value} {mg mb : Str → Option Value} {x : Str} {X T' : String} {o : Obj} {vs : Array Value} {a0 : Value}
/-- a new exception of a built-in, caught in the function that it was raised in; it stays in the ledger -/
theorem caught_fresh2 (F : Fr g L s'.heap m) (N : News g L s'.heap ((e, o) :: news)) (hlt : ∀ q ∈ news, q.1 ≠ e) (ho : o.cls = .type X) (hd0 : o.data = .fields vs) (h0 : vs[0]? = some a0) (h1 : vs[1]? = some .none)
    (K : Below A₀ base outer g) (XB : KF.In base) (TB : Top p loose mean mg mb base)
    (ex : nsIn KF mainGlobals x = some none) (hv : bootBuiltins x = some (.type T')) (hn' : x ≠ "__name__")
    (hexc : isSubtype (.type T') (.type "BaseException") = pure true) (hnt : isSubtype (.type ((Manifest.find? T').elim "type" fun y => y.metatype)) (.type "tuple") = pure false) (hsub : isSubtype (.type X) (.type T') = pure true)
    (k : ∀ T h' g', KtsTurn (outer.filterMap (·.frame)) g g' → Fr g' L h' m → News g' L h' ((e, o.mapFields (·.setIfInBounds 1 (.ref T))) :: news) → (∀ q ∈ news, q.1 ≠ T) → T ≠ e → Below A₀ base outer g' → KF.In g' → Top p loose mean mg mb g' →
      wpAny (model prog w) ((A₀.deeper (envOf name scope L a cd)).mark (some (.ref e))) (execs (b₀ :: suite) (envOf name scope L a cd)) Q E { s' with heap := h' })
    (hk : scope.kind = .function := by rfl) (hx : (envOf name scope L a cd).kindOf x = some .globalImplicit := by rfl) (hd : (x == ("__debug__" : Str)) = false := by decide)
    (hE : PassesOwnAt (model prog w) ((A₀.deeper (envOf name scope L a cd)).mark (some (.ref e))) (A₀.deeper (envOf name scope L a cd)) (envOf name scope L a cd) E := by passes_own) :
    wpAny (model prog w) (A₀.deeper (envOf name scope L a cd)) (noteFrame (.ref e) (envOf name scope L a cd))
      (fun _ s₂ => wpAny (model prog w) (A₀.deeper (envOf name scope L a cd)) (setFlight (.ref e) none) (fun _ s₃ =>
        wpAny (model prog w) (A₀.deeper (envOf name scope L a cd)) (handleBy (.ref e) (envOf name scope L a cd) (.ExceptHandler (some (.Name x np)) none (b₀ :: suite) pos :: rest)) Q E s₃) E s₂) E s' := by
  have he := (N _ (.head _)).1
  have hge := (N _ (.head _)).2
  have K' := K.push (name := name) (a := a) (cd := cd) F hk
  let hid : List Addr := e :: (envOf name scope L a cd :: outer).filterMap (·.frame)
  have hin : ∀ env ∈ (envOf name scope L a cd :: outer), ∀ b, env.frame = some b → b ∈ hid := fun env he b hb => .tail _ (List.mem_filterMap.mpr ⟨env, he, hb⟩)
  have gfr : ∀ b ∈ outer.filterMap (·.frame), ∃ o, g.get? b = some o := fun b hb => by
    obtain ⟨_, o, ho, _⟩ := K.frames.mem hb
    exact ⟨o, ho⟩
  have nhid : ∀ b o, g.get? b = some o → b ∉ outer.filterMap (·.frame) → b ∉ hid := fun b o q nm hm => by
    rcases List.mem_cons.mp hm with rfl | hm
    · rw [hge.2] at q; cases q
    · rcases kts_mem hm with z | z
      · rw [z, kts_self F] at q; cases q
      · exact nm z
  have hBG : ∀ b o, s'.heap.get? b = some o → b ∉ hid → (hideAll s'.heap hid).get? b = some o := fun b o q nm => hideAll_get _ q nm
  have st : base.StaysIn (hideAll s'.heap hid) := fun b o q => hideAll_get _ (K'.stays b o q) fun hm => by
    rcases List.mem_cons.mp hm with rfl | hm
    · have := fresh_of_stays K.stays hge.2; rw [this] at q; cases q
    · rw [(K'.frames.mem hm).1] at q; cases q
  have hl : ∀ q ∈ news, (hideAll s'.heap hid).get? q.1 = some q.2 ∧ g.get? q.1 = none ∧ base.get? q.1 = none := fun q hq => by
    have n := N q (.tail _ hq)
    refine ⟨hideAll_get _ n.1 fun hm => ?_, n.2.2, fresh_of_stays K.stays n.2.2⟩
    rcases List.mem_cons.mp hm with z | hm
    · exact hlt q hq z
    · rcases kts_mem hm with z | z
      · exact n.2.1 z
      · obtain ⟨o, ho⟩ := gfr _ z
        rw [n.2.2] at ho; cases ho
  have hen : (hideAll s'.heap hid).get? e = none := hideAll_none _ (.head _)
  have hL : (hideAll s'.heap hid).get? L = none := hideAll_none _ (.tail _ (.head _))
  have hLe : L ≠ e := fun z => hge.1 z.symm
  have FG : Fr g L (hideAll s'.heap [e]) m := by
    obtain ⟨oL, es, ep, hL, r⟩ := F.ns
    exact ⟨⟨oL, es, ep, hideAll_get _ hL (by simpa using hLe), r⟩, fun b o q => hideAll_get _ (F.keep b o q) (by
      intro hm
      rw [List.mem_singleton.mp hm] at q
      rw [hge.2] at q; cases q), F.above⟩
  have hBG' : ∀ b o, (hideAll s'.heap [e]).get? b = some o → b ∉ (envOf name scope L a cd :: outer).filterMap (·.frame) → (hideAll s'.heap hid).get? b = some o := fun b o q nm => by
    refine hideAll_get _ (of_hideAll _ q) fun hm => ?_
    rcases List.mem_cons.mp hm with z | hm
    · rw [z, hideAll_none _ (.head _)] at q; cases q
    · exact nm hm
  have sm0 : (hideAll s'.heap [e]).UpToSlots s'.heap := Heap.UpToSlots.of_keeps fun b o q => of_hideAll _ q
  have h1z := (Array.getElem?_eq_some_iff.mp h1).1
  refine note_first (B := hideAll s'.heap hid) (Around.frames_deeper K.stack) (funFrames_hide K'.frames hin) rfl he (fun b o hb => of_hideAll _ hb) hen hd0 h1 fun T h₄ N₄ hsm₄ => ?_
  refine land_noted hd0 h1z N₄ fun h₅ N₅ hsm₅' => ?_
  have hsm₅ := hsm₄.trans hsm₅'
  obtain ⟨g₅, T₅, F₅, K₅⟩ := kts_ground K FG hBG' N₅.stays (sm0.trans hsm₅)
  have X₅ : KF.In g₅ := XB.keeps K₅.stays
  have P₅ : TopRead p loose mg mb g₅ := topRead_of (TB.keeps K₅.stays)
  refine wpAny_handleBy_builtin (X := X) (T := T') (b := true) hexc hnt hsub (name_B F₅ X₅ P₅ ex hv hn' ⟨rfl, ⟨_, N₅.there, (Obj.cls_mapFields _ _).trans ho⟩, ?_⟩ hk hx hd)
  refine land_noted hd0 h1z N₅ fun h₆ N₆ hsm₆ => ?_
  obtain ⟨g₆, T₆, F₆, K₆⟩ := kts_ground K FG hBG' N₆.stays ((sm0.trans hsm₅).trans hsm₆)
  have Nl : News g₆ L h₆ ((e, o.mapFields (·.setIfInBounds 1 (.ref T))) :: news) := fun q hq => by
    rcases List.mem_cons.mp hq with rfl | hq
    · exact ⟨N₆.there, hge.1, T₆.none_ _ hge.2⟩
    · exact ⟨N₆.stays _ _ (hl q hq).1, (N q (.tail _ hq)).2.1, T₆.none_ _ (hl q hq).2.1⟩
  have hTn : ∀ q ∈ news, q.1 ≠ T := fun q hq z => by
    have := (hl q hq).1
    rw [z, N₆.new] at this; cases this
  exact wpAny_passesOwnAt hE (k T h₆ g₆ T₆ F₆ Nl hTn N₆.ne K₆ (XB.keeps K₆.stays) (TB.keeps K₆.stays))
end
section
variable {prog : Program} {w : World} {A : Around} {E : Value → Shared → Prop} {s : Shared} {h₀ : Heap} {L : Addr} {m : Str → Option Value} {news : List (Addr × Obj)} {Q : Value → Shared → Prop}
noncomputable abbrev veObj (t : Addr) : Obj := { cls := .type "ValueError", data := .fields #[.ref t, .none, .none, .none, .bool false, .none] }
noncomputable abbrev tup1 (v : Value) : Obj := { cls := .type "tuple", data := .seq #[v] }
theorem call_VE {v : Value} (F : Fr h₀ L s.heap m) (N : News h₀ L s.heap news)
    (h : ∀ e t h', Fr h₀ L h' m → News h₀ L h' ((e, veObj t) :: (t, tup1 v) :: news) → (∀ p ∈ news, p.1 < e) → e < t → Q (.ref e) { s with heap := h' }) :
    wpAny (model prog w) A (call (.type "ValueError") [v]) Q E s := by
  have hc := excClass_ValueError
  refine wpAny_call (codeAny_of_tree ?_)
  show wpAny _ _ (callAny (.type "ValueError") ⟨[v], []⟩) _ _ s
  simp only [callAny]
  refine wpAny_pure ⟨Code.quiet_builtin _ (by decide +kernel), codeAny_builtin entry_type_call ?_⟩
  rw [Around.under_plain (weight_type_call "ValueError" _ _) (by first | rfl | kernel_rfl | decide +kernel)]
  unfold Builtin.«type.__call__»
  dsimp only
  rw [if_neg (by rw [hc.notType]; exact Bool.false_ne_true), if_neg (by rw [hc.canNew]; exact Bool.false_ne_true)]
  obtain ⟨l, hl, hle⟩ := hc.mro
  refine wpAny_bind (wpAny_of_eq (hc.typeCall _) (wpAny_bind (wpAny_of_eq hl ?_)))
  rw [if_neg (by rw [hle]; exact Bool.false_ne_true)]
  refine wpAny_bind (wpAny_of_eq hc.madeBy ?_)
  dsimp only
  refine wpAny_bind (wpAny_pure (wpAny_bind (wpAny_holding (new_exc hc ?_ (show 1 ≤ sizeLine by decide)))))
  refine wpAny_bind (wpAny_isInstance (T := "ValueError") ⟨_, Heap.get?_push_size _ rfl, rfl⟩ hc.self ?_)
  simp only [Bool.not_true, Bool.false_eq_true, if_false]
  let g1 := s.heap.push { cls := .type "tuple", data := .seq [v].toArray }
  let g2 := g1.push (veObj s.heap.objs.size)
  have F1 : Fr h₀ L g1 m := F.push _
  have N1 := News.push F N { cls := .type "tuple", data := .seq [v].toArray }
  have F2 : Fr h₀ L g2 m := F1.push _
  have N2 : News h₀ L g2 ((g1.objs.size, veObj s.heap.objs.size) :: news) := News.drop2 (News.push F1 N1 (veObj s.heap.objs.size))
  refine wpAny_bind (wpAny_holding (wpAny_callSpecial?_slot (name := Str.ofString "__init__") (T := "ValueError") ⟨_, Heap.get?_push_size _ rfl, rfl⟩ hc.init
    (init_exc hc (Heap.get?_push_size _ rfl) rfl rfl rfl ?_ (show 1 ≤ sizeLine by decide))))
  dsimp only
  rw [if_neg (by simp)]
  have F3 := F2.push { cls := .type "tuple", data := .seq [v].toArray }
  have N3 := News.push F2 N2 { cls := .type "tuple", data := .seq [v].toArray }
  have hg1 : g1.objs.size = s.heap.objs.size + 1 := Heap.size_push _ _
  have hg2 : g2.objs.size = s.heap.objs.size + 2 := by show (g1.push _).objs.size = _; rw [Heap.size_push, hg1]
  have hlt : ∀ p ∈ news, p.1 < g1.objs.size := fun p hp => by
    have := Heap.lt_size (N p hp).1
    rw [hg1]
    exact Nat.lt_succ_of_lt this
  have he := (N3 _ (.tail _ (.head _)))
  have hs : Heap.SameBut g1.objs.size (g2.push { cls := .type "tuple", data := .seq [v].toArray }) ((g2.push { cls := .type "tuple", data := .seq [v].toArray }).update g1.objs.size (Obj.mapFields (·.setIfInBounds 0 (.ref g2.objs.size)))) := Heap.SameBut.update ..
  refine wpAny_pure (h g1.objs.size g2.objs.size _ (F3.change hs he.2.1 he.2.2) (fun p hp => ?_) hlt (by rw [hg1, hg2]; exact Nat.lt_succ_self _))
  rcases List.mem_cons.mp hp with rfl | hp
  · exact ⟨Heap.get?_update_self _ he.1 rfl, he.2⟩
  · rcases List.mem_cons.mp hp with rfl | hp
    · have n := N3 _ (.head _)
      exact ⟨(hs.2 _ (by show g2.objs.size ≠ g1.objs.size; rw [hg1, hg2]; exact Nat.ne_of_gt (Nat.lt_succ_self _))).trans n.1, n.2⟩
    · have n := N3 _ (.tail _ (.tail _ hp))
      exact ⟨(hs.2 _ (Nat.ne_of_lt (hlt p hp))).trans n.1, n.2⟩
end
section
variable {prog : Program} {w : World} {A : Around} {E : Value → Shared → Prop} {s : Shared} {env : Env}
theorem entry_unchain : entryFor table "proto.unchain" = some Builtin.«proto.unchain» := entryFor_of_tree (by kernel_rfl)
noncomputable def RaisableU (E : Value → Shared → Prop) (e1 : Addr) (v : Value) (s₁ : Shared) : Prop :=
  ∃ a ob vs X N I, ExcClass X N I ∧ v = .ref a ∧ s₁.heap.get? a = some ob ∧ ob.cls = .type X ∧ ob.data = .fields vs ∧ vs[1]? = some .none ∧ 2 < vs.size ∧ e1 ≠ a ∧ (∃ o1 ws, s₁.heap.get? e1 = some o1 ∧ o1.data = .fields ws ∧ ws[2]? = some .none) ∧
    E (.ref a) { s₁ with heap := s₁.heap.update a (Obj.mapFields (·.setIfInBounds 2 (.ref e1))) }
theorem Raise_under {e : PySem.Expr} {pos : Pos} {e1 : Addr} {Q : Flow → Shared → Prop} (hh : A.handled = some (.ref e1))
    (h : wpAny (model prog w) A (eval e env) (RaisableU E e1) E s) : wpAny (model prog w) A (exec (.Raise (some e) none pos) env) Q E s := by
  show wpAny (model prog w) A (do standAt pos; raiseStmt env (some (do let v ← eval e env; standAt pos; pure v)) none) Q E s
  refine wpAny_bind (wpAny_standAt ?_)
  unfold raiseStmt
  dsimp only
  refine wpAny_bind (wpAny_bind (wpAny_mono h (fun v s₁ h₁ => wpAny_bind (wpAny_standAt (wpAny_pure ?_))) fun _ _ x => x))
  obtain ⟨a, ob, vs, X, N, I, hc, rfl, ha, hcls, hd, h1, h2, hne, ⟨o1, ws, ho1, hd1, hw2⟩, hE⟩ := h₁
  have hT : s₁.TypeIs (.ref a) X := ⟨ob, ha, hcls⟩
  have hnt : ∀ {Q' : Bool → Shared → Prop}, Q' false s₁ → wpAny (model prog w) A (isType (.ref a)) Q' E s₁ := by
    intro Q' hq
    simp only [isType, loadHead]
    refine wpAny_bind (wpAny_loadPart ha ?_)
    rw [hd]; exact wpAny_pure hq
  refine wpAny_bind (wpAny_pure ?_)
  dsimp only
  refine wpAny_bind (wpAny_holding ?_)
  unfold excFromValue isExcClass
  refine wpAny_bind (wpAny_bind (hnt ?_))
  simp only [Bool.false_eq_true, if_false]
  refine wpAny_pure ?_
  simp only [Bool.false_eq_true, if_false]
  refine wpAny_bind (wpAny_isInstance hT hc.base ?_)
  simp only [if_true]
  refine wpAny_pure ?_
  refine wpAny_bind (hnt ?_)
  simp only [Bool.false_eq_true, if_false]
  unfold raisedInstance
  refine wpAny_bind (wpAny_bind (wpAny_typeOf hT (wpAny_bind (m := typeOf (.type X)) (wpAny_pure ?_))))
  rw [if_pos hc.metaType]
  refine wpAny_pure ?_
  unfold setFlight raiseNew
  refine wpAny_bind (wpAny_bind (wpAny_field ha hd h1 ?_))
  rw [if_neg (by decide)]
  refine wpAny_pure (wpAny_bind (wpAny_handled ?_))
  rw [hh]
  dsimp only
  rw [if_pos (by simpa using hne)]
  refine wpAny_bind (wpAny_holding (wpAny_runValue (codeAny_builtin entry_unchain ?_)))
  unfold Builtin.«proto.unchain»
  refine wpAny_bind (wpAny_field ho1 hd1 hw2 ?_)
  rw [if_pos (by decide)]
  refine wpAny_pure ?_
  refine wpAny_bind (m := updateField a 2 (.ref e1)) ?_
  unfold updateField
  refine wpAny_bind (wpAny_load ha ?_)
  rw [hd]
  dsimp only
  rw [if_pos h2]
  exact wpAny_update ha (wpAny_throw hE)
end
section
variable {M : Model} {A : Around} {E : Value → Shared → Prop} {s' : Shared} {base g : Heap} {outer : List Env} {L a e t : Addr} {m : Str → Option Value} {name : Str} {scope : Scope} {cd : Value} {Q : Unit → Shared → Prop} {news : List (Addr × Obj)}
/-- a new exception leaves the frame that it was raised in -/
theorem leave_fresh {oe : Obj} {vs : Array Value} {ws : List Value} (K : Below A base outer g) (F : Fr g L s'.heap m) (N : News g L s'.heap ((e, oe) :: news)) (hne : ∀ q ∈ news, q.1 ≠ e) (hnt : ∀ q ∈ news, q.1 ≠ t)
    (hd : oe.data = .fields vs) (h0 : vs[0]? = some (.ref t)) (h1 : vs[1]? = some .none) (ht : s'.heap.TupAt t ws) (hgt : g.get? t = none) (hLt : t ≠ L)
    (hQ : ∀ h', RaisedS base g outer e oe.cls t ws news h' → g.UpToSlots h' → Q () { s' with heap := h' }) (hk : scope.kind = .function := by rfl) :
    wpAny M (A.deeper (envOf name scope L a cd)) (leaving (envOf name scope L a cd) (.ref e)) Q E s' := by
  have he := (N _ (.head _)).1
  have hge := (N _ (.head _)).2
  have K' := K.push (name := name) (a := a) (cd := cd) F hk
  let hid : List Addr := e :: t :: (envOf name scope L a cd :: outer).filterMap (·.frame)
  have hin : ∀ env ∈ (envOf name scope L a cd :: outer), ∀ b, env.frame = some b → b ∈ hid := fun env he b hb => .tail _ (.tail _ (List.mem_filterMap.mpr ⟨env, he, hb⟩))
  have gfr : ∀ b ∈ outer.filterMap (·.frame), ∃ o, g.get? b = some o := fun b hb => by
    obtain ⟨_, o, ho, _⟩ := K.frames.mem hb
    exact ⟨o, ho⟩
  have nhid : ∀ b o, g.get? b = some o → b ∉ outer.filterMap (·.frame) → b ∉ hid := fun b o q nm hm => by
    rcases List.mem_cons.mp hm with rfl | hm
    · rw [hge.2] at q; cases q
    · rcases List.mem_cons.mp hm with rfl | hm
      · rw [hgt] at q; cases q
      · rcases kts_mem hm with z | z
        · rw [z, kts_self F] at q; cases q
        · exact nm z
  have st : base.StaysIn (hideAll s'.heap hid) := fun b o q => hideAll_get _ (K'.stays b o q) fun hm => by
    rcases List.mem_cons.mp hm with rfl | hm
    · have := fresh_of_stays K.stays hge.2; rw [this] at q; cases q
    · rcases List.mem_cons.mp hm with rfl | hm
      · have := fresh_of_stays K.stays hgt; rw [this] at q; cases q
      · rw [(K'.frames.mem hm).1] at q; cases q
  have hl : ∀ q ∈ news, (hideAll s'.heap hid).get? q.1 = some q.2 ∧ g.get? q.1 = none ∧ base.get? q.1 = none := fun q hq => by
    have n := N q (.tail _ hq)
    refine ⟨hideAll_get _ n.1 fun hm => ?_, n.2.2, fresh_of_stays K.stays n.2.2⟩
    rcases List.mem_cons.mp hm with z | hm
    · exact hne q hq z
    · rcases List.mem_cons.mp hm with z | hm
      · exact hnt q hq z
      · rcases kts_mem hm with z | z
        · exact n.2.1 z
        · obtain ⟨o, ho⟩ := gfr _ z
          rw [n.2.2] at ho; cases ho
  have hen : (hideAll s'.heap hid).get? e = none := hideAll_none _ (.head _)
  have htn : (hideAll s'.heap hid).get? t = none := hideAll_none _ (.tail _ (.head _))
  refine wpAny_leaving_firstW (base := hideAll s'.heap hid) (Around.frames_deeper K.stack) (funFrames_hide K'.frames hin) rfl he (fun b o hb => of_hideAll _ hb) hen hd h1 h0 fun h' hL => ?_
  obtain ⟨k1, ⟨_, _, k2⟩, k3, k4⟩ := hL
  refine hQ h' ⟨⟨_, st, fun b o q nm => hideAll_get _ (F.keep b o q) (nhid b o q nm), hl, ⟨k1, hen, k2, k3⟩, htn⟩, ht.of_slots k4⟩ ((Heap.UpToSlots.of_keeps F.keep).trans k4)
theorem raised_turn {base G g : Heap} {l : List Env} {e t : Addr} {cls : Value} {vs : List Value} {news : List (Addr × Obj)} {h : Heap} (T : KtsTurn (l.filterMap (·.frame)) G g) (R : RaisedS base g l e cls t vs news h) : RaisedS base G l e cls t vs news h := by
  obtain ⟨⟨B, hB, hg, hl, hf, hn⟩, htu⟩ := R
  refine ⟨⟨B, hB, fun b o q nm => hg b o (T.other b o q nm) nm, fun q hq => ⟨(hl q hq).1, ?_, (hl q hq).2.2⟩, hf, hn⟩, htu⟩
  cases z : G.get? q.1 with
  | none => rfl
  | some o => obtain ⟨sl, hs⟩ := T.up z; rw [(hl q hq).2.1] at hs; cases hs
theorem turn_slots {fs : List Addr} {G g h : Heap} (T : KtsTurn fs G g) (x : g.UpToSlots h) : G.UpToSlots h := fun b o q hn => by
  obtain ⟨sl, hs⟩ := T.up q
  obtain ⟨sl', hs'⟩ := x b _ hs hn
  exact ⟨sl', hs'⟩
end
section
variable {prog : Program} {w : World} {A : Around} {E : Value → Shared → Prop} {Q : Flow → Shared → Prop} {s : Shared} {g : Heap} {L a : Addr} {m : Str → Option Value} {name : Str} {scope : Scope} {cd : Value} {cl : List (Str × Addr)} {news : List (Addr × Obj)}
/-- behind a turn -/
noncomputable def ForStep (L : Addr) (os : OsState) (J : Nat → Heap → (Str → Option Value) → List (Addr × Obj) → Prop) (l : Addr) (ol : Obj) (Q : Flow → Shared → Prop) (it : Addr) (oit : Obj) (i : Nat) (f : Flow) (s₂ : Shared) : Prop :=
  match f with
  | .next | .cont => s₂.os = os ∧ AllBare s₂.gens ∧ ∃ g₂ m₂ news₂, Fr g₂ L s₂.heap m₂ ∧ News g₂ L s₂.heap ((it, oit) :: news₂) ∧ (l, ol) ∈ news₂ ∧ (∀ q ∈ news₂, q.1 ≠ it) ∧ J (i + 1) g₂ m₂ news₂
  | .brk => Q .next s₂
  | .ret v => Q (.ret v) s₂
theorem ForStep.nxt {os : OsState} {J : Nat → Heap → (Str → Option Value) → List (Addr × Obj) → Prop} {l it : Addr} {ol oit : Obj} {i : Nat} {h : Heap} {gs : Array GenState} {dr : Drawn} {tk : Tok} (G : AllBare gs) (F : Fr g L h m) (N : News g L h ((it, oit) :: news))
    (hl : (l, ol) ∈ news) (hn : ∀ q ∈ news, q.1 ≠ it) (hJ : J (i + 1) g m news) : ForStep L os J l ol Q it oit i .next ⟨h, gs, dr, tk, os⟩ := ⟨rfl, G, _, _, _, F, N, hl, hn, hJ⟩
theorem news_off {h h' : Heap} {it : Addr} (N : News g L h news) (hn : ∀ q ∈ news, q.1 ≠ it) (he : Heap.ExtBut it h h') : News g L h' news := fun q hq => ⟨he _ _ (hn q hq) (N q hq).1, (N q hq).2⟩
theorem fr_off {h h' : Heap} {it : Addr} (F : Fr g L h m) (h1 : it ≠ L) (h2 : g.get? it = none) (he : Heap.ExtBut it h h') : Fr g L h' m := by
  obtain ⟨oL, es, ep, hL, r⟩ := F.ns
  exact ⟨⟨oL, es, ep, he _ _ (Ne.symm h1) hL, r⟩, fun b o e => he _ _ (fun z => by rw [z, h2] at e; cases e) (F.keep b o e), F.above⟩
theorem for_listX {x : Str} {px : Pos} {body : List PySem.Stmt} {l : Addr} {items : Array Value} {nl : Nat} (J : Nat → Heap → (Str → Option Value) → List (Addr × Obj) → Prop)
    (hh : A.handled = none) (F : Fr g L s.heap m) (N : News g L s.heap news) (G : AllBare s.gens) (hl : (l, listOf items nl) ∈ news) (h0 : J 0 g m news)
    (turn : ∀ i v it oit g₁ m₁ news₁ h₁ gs dr tk, items[i]? = some v → J i g₁ m₁ news₁ → AllBare gs → Fr g₁ L h₁ (fun y => if y = x then some v else m₁ y) → News g₁ L h₁ ((it, oit) :: news₁) → (l, listOf items nl) ∈ news₁ → (∀ q ∈ news₁, q.1 ≠ it) →
      wpAny (model prog w) A (execs body (envX name scope L a cd cl)) (ForStep L s.os J l (listOf items nl) Q it oit i) E ⟨h₁, gs, dr, tk, s.os⟩)
    (done : ∀ g' m' news' h' gs dr tk, J items.size g' m' news' → AllBare gs → Fr g' L h' m' → News g' L h' news' → Q .next ⟨h', gs, dr, tk, s.os⟩)
    (hE : PassesOwn (model prog w) A (envX name scope L a cd cl) E := by passes_own)
    (hk : scope.kind = .function := by rfl) (hx : (envX name scope L a cd cl).kindOf x = some .local := by rfl) :
    wpAny (model prog w) A (pyIter (.ref l)) (fun it s₂ => codeAny (model prog w) A (.forLoop (.Name x px) it body [] (envX name scope L a cd cl))
      (fun r s' => match r with | .ok f => Q f s' | .error e => cameBackBy (model prog w) A (envX name scope L a cd cl) E e s') s₂) E s := by
  have hli : s.heap.IsList l items := News.isList N hl
  refine wpAny_pyIter_list hli ?_
  have hEi : ∀ e s', E e s' → notedBy (model prog w) A (envX name scope L a cd cl) (fun e s' => cameBackBy (model prog w) A (envX name scope L a cd cl) E e s') e s' := hE
  have hlt : ∀ q ∈ news, q.1 ≠ s.heap.objs.size := fun q hq => Nat.ne_of_lt (Heap.lt_size (N q hq).1)
  refine codeAny_forLoop_any (fun k s' => ∃ i oit g₁ m₁ news₁, k = items.size + 1 - i ∧ i ≤ items.size ∧ oit.cls = .type "list_iterator" ∧ oit.data = .fields #[.ref l, .int i 0] ∧ s'.os = s.os ∧ AllBare s'.gens ∧
      Fr g₁ L s'.heap m₁ ∧ News g₁ L s'.heap ((s.heap.objs.size, oit) :: news₁) ∧ (l, listOf items nl) ∈ news₁ ∧ (∀ q ∈ news₁, q.1 ≠ s.heap.objs.size) ∧ J i g₁ m₁ news₁) ?_ (items.size + 1)
    ⟨0, _, g, m, news, rfl, Nat.zero_le _, rfl, rfl, rfl, G, F.push _, News.push F N _, hl, hlt, h0⟩
  rintro k s₁ ⟨i, oit, g₁, m₁, news₁, rfl, hi, hc, hd, ho, G₁, F₁, N₁, hl₁, hn₁, hJ⟩
  obtain ⟨h₁, gs, dr, tk, os⟩ := s₁
  obtain rfl : os = s.os := ho
  have hit : h₁.IsListIter s.heap.objs.size l i := ⟨oit, (N₁ _ (.head _)).1, hc, hd⟩
  have hl1 : h₁.IsList l items := News.isList N₁ (.tail _ hl₁)
  have nit := (N₁ _ (.head _)).2
  have N₁' : News g₁ L h₁ news₁ := fun q hq => N₁ q (.tail _ hq)
  cases hv : items[i]? with
  | none =>
    have hsz : i = items.size := Nat.le_antisymm hi (by simpa using hv)
    refine wpAny_pyNext_list_end (s := ⟨h₁, gs, dr, tk, s.os⟩) hh hit hl1 hv fun h₂ he => wpAny_execs_nil ?_
    subst hsz
    exact done g₁ m₁ news₁ h₂ gs dr tk hJ G₁ (fr_off F₁ nit.1 nit.2 he) (news_off N₁' hn₁ he)
  | some v =>
    have hlt2 : i < items.size := (Array.getElem?_eq_some_iff.mp hv).1
    refine wpAny_pyNext_list_item (s := ⟨h₁, gs, dr, tk, s.os⟩) hit hl1 hv fun h₂ hit₂ hs₂ => ?_
    obtain ⟨oit₂, ho₂, hc₂, hd₂⟩ := hit₂
    have F₂ := F₁.change hs₂ nit.1 nit.2
    have N₂ : News g₁ L h₂ ((s.heap.objs.size, oit₂) :: news₁) := fun q hq => by
      rcases List.mem_cons.mp hq with rfl | hq
      · exact ⟨ho₂, nit⟩
      · exact ⟨(hs₂.2 _ (hn₁ q hq)).trans (N₁' q hq).1, (N₁' q hq).2⟩
    refine wpAny_mono (wpAny_pure (a := ()) (Q := fun _ s' => s' = ⟨h₂, gs, dr, tk, s.os⟩) rfl) (fun _ s' hs' => ?_) hEi
    subst hs'
    refine wpAny_assign_Name (storeX_L F₂ N₂ (fun h₃ F₃ N₃ => ?_) hk hx)
    refine wpAny_mono (turn i v _ oit₂ g₁ m₁ news₁ h₃ gs dr (tk + 1) hv hJ G₁ F₃ N₃ hl₁ hn₁) (fun f s₃ h₃ => ?_) hEi
    cases f with
    | next =>
      obtain ⟨q1, q2, g₂, m₂, news₂, q3, q4, q5, q6, q7⟩ := h₃
      refine ⟨items.size + 1 - (i + 1), by omega, i + 1, oit₂, g₂, m₂, news₂, rfl, hlt2, hc₂, ?_, q1, q2, q3, q4, q5, q6, q7⟩
      rw [hd₂]
    | cont =>
      obtain ⟨q1, q2, g₂, m₂, news₂, q3, q4, q5, q6, q7⟩ := h₃
      refine ⟨items.size + 1 - (i + 1), by omega, i + 1, oit₂, g₂, m₂, news₂, rfl, hlt2, hc₂, ?_, q1, q2, q3, q4, q5, q6, q7⟩
      rw [hd₂]
    | brk => exact h₃
    | ret v => exact h₃
theorem for_list {x : Str} {px : Pos} {body : List PySem.Stmt} {l : Addr} {items : Array Value} {nl : Nat} (J : Nat → Heap → (Str → Option Value) → List (Addr × Obj) → Prop)
    (hh : A.handled = none) (F : Fr g L s.heap m) (N : News g L s.heap news) (G : AllBare s.gens) (hl : (l, listOf items nl) ∈ news) (h0 : J 0 g m news)
    (turn : ∀ i v it oit g₁ m₁ news₁ h₁ gs dr tk, items[i]? = some v → J i g₁ m₁ news₁ → AllBare gs → Fr g₁ L h₁ (fun y => if y = x then some v else m₁ y) → News g₁ L h₁ ((it, oit) :: news₁) → (l, listOf items nl) ∈ news₁ → (∀ q ∈ news₁, q.1 ≠ it) →
      wpAny (model prog w) A (execs body (envOf name scope L a cd)) (ForStep L s.os J l (listOf items nl) Q it oit i) E ⟨h₁, gs, dr, tk, s.os⟩)
    (done : ∀ g' m' news' h' gs dr tk, J items.size g' m' news' → AllBare gs → Fr g' L h' m' → News g' L h' news' → Q .next ⟨h', gs, dr, tk, s.os⟩)
    (hE : PassesOwn (model prog w) A (envOf name scope L a cd) E := by passes_own)
    (hk : scope.kind = .function := by rfl) (hx : (envOf name scope L a cd).kindOf x = some .local := by rfl) :
    wpAny (model prog w) A (pyIter (.ref l)) (fun it s₂ => codeAny (model prog w) A (.forLoop (.Name x px) it body [] (envOf name scope L a cd))
      (fun r s' => match r with | .ok f => Q f s' | .error e => cameBackBy (model prog w) A (envOf name scope L a cd) E e s') s₂) E s :=
  for_listX (cl := []) J hh F N G hl h0 turn done hE hk hx
end
section
variable {prog : Program} {w : World} {A : Around} {E : Value → Shared → Prop} {s : Shared} {Q : Value → Shared → Prop}
/-- a call that the kernel runs, whatever is handled; nothing old is changed -/
theorem ev_callKH {f : Value} {pos : List Value} {kw : List (Str × Value)} (fuel : Nat) (ro : List (Addr × Obj)) (hs : List Nat) (hd : Option Value) {v : Value} (hh : A.handled = hd)
    (hv : outVal (evCode (ecfg prog w s ro) fuel hd (.call f ⟨pos, kw⟩) ⟨[], 0, 0, []⟩ hs) = some v)
    (hp : outPsL (evCode (ecfg prog w s ro) fuel hd (.call f ⟨pos, kw⟩) ⟨[], 0, 0, []⟩ hs) = outPsR (evCode (ecfg prog w s ro) fuel hd (.call f ⟨pos, kw⟩) ⟨[], 0, 0, []⟩ hs))
    (hro : ∀ p ∈ ro, s.heap.get? p.1 = some p.2)
    (h : ∀ s', Keeps s s' → Q v s') :
    wpAny (model prog w) A (call f pos kw) Q E s := by
  refine wpAny_call ?_
  cases e : evCode (ecfg prog w s ro) fuel hd (.call f ⟨pos, kw⟩) ⟨[], 0, 0, []⟩ hs with
  | stop => rw [e] at hv; cases hv
  | stopW => rw [e] at hv; cases hv
  | ok lf st' hs' =>
    rw [e] at hv hp
    cases lf with
    | exc => cases hv
    | ret fin =>
      cases fin with
      | again => cases hv
      | done fl =>
        cases fl with
        | ret v' =>
          cases hv
          obtain ⟨_, k⟩ := evCode_sound (prog := prog) (w := w) (C := ecfg prog w s ro) rfl denZ_is fuel hd _ _ _ _ _ _ e
          refine k (ps_eq hp) A s _ hh ⟨rfl, rfl, hro, fun p hp => (nomatch hp), List.nodup_nil, fun _ _ _ hq => (nomatch hq)⟩ fun s' I K Y => ⟨_, rfl, ?_⟩
          exact h s' ⟨s'.heap, s'.toks, K.1, fun b o e => K.2 b o (fun h => nomatch h) e⟩
        | _ => cases hv
theorem ve_str : Slot "ValueError" "__str__" "BaseException.__str__" := .of (owner := "BaseException") (n := "__str__") (by rw [typeLookup_type, builtinLookup_eq_fast]; kernel_rfl) (by decide +kernel) (by decide +kernel) (by decide +kernel)
    (by first | exact .inl (by decide +kernel) | exact .inr (by decide +kernel)) (by rw [isSubtype_type]; kernel_rfl)
noncomputable abbrev excObj (t : Addr) (ws : List Value) (d : Option Addr) (sl : Array (Option Value)) : Obj := { cls := .type "ValueError", dict := d, data := .fields ⟨.ref t :: ws⟩, slots := sl }
noncomputable abbrev tupO (v : Value) (n : Nat) (d : Option Addr) (sl : Array (Option Value)) : Obj := { cls := .type "tuple", dict := d, data := .seq #[v] n, slots := sl }
theorem str_exc {x : Str} {tx : Tok} {e t : Addr} {ws : List Value} {d d2 : Option Addr} {sl sl2 : Array (Option Value)} {nt : Nat} (hu : A.units + 3 < cLine) (he : s.heap.get? e = some (excObj t ws d sl)) (ht : s.heap.get? t = some (tupO (.str x tx) nt d2 sl2))
    (h : ∀ s', Keeps s s' → Q (.str x tx) s') : wpAny (model prog w) A (call (.type "str") [.ref e] []) Q E s := by
  refine callType_new F.called_str (by decide) (F.typeCall_str_1 _) (F.newCall_str_1 _) (fun obj => F.args_object_init_2 obj _) F.entry_str_new
    (meets_str_new (S := fun A' R s' => A'.units + 1 < cLine ∧ s'.heap.get? e = some (excObj t ws d sl) ∧ s'.heap.get? t = some (tupO (.str x tx) nt d2 sl2) ∧ ∀ s'', Keeps s' s'' → R (.ok (.ret (.str x tx))) s'')
      fun prog' w' A' R s' hS => ?_) ⟨by show A.units + 1 + 1 < cLine; omega, he, ht, fun s'' k => ⟨typeIs_str _ _ _, h s'' k⟩⟩
  obtain ⟨h1, h2, h3, h4⟩ := hS
  unfold Builtin.Str.strOf
  rw [if_neg (show ¬ (Builtin.Str.isExactStr (.ref e) = true) from fun z => Bool.noConfusion z)]
  refine wpAny_bind (wpAny_cRoomFor (by show A'.units + 1 < cLine; exact h1) ?_)
  refine wpAny_bind (wpAny_callSpecial?_slot (name := Str.ofString "__str__") (T := "ValueError") ⟨_, h2, rfl⟩ ve_str ?_)
  refine ev_callKH 60 [(e, excObj t ws d sl), (t, tupO (.str x tx) nt d2 sl2)] [0, 0, 2] _ rfl (v := .str x tx) (by kernel_rfl) (by kernel_rfl) (fun p hp => ?_) (fun s'' k => ?_)
  · rcases List.mem_cons.mp hp with rfl | hp
    · exact h2
    · rw [List.mem_singleton.mp hp]; exact h3
  · dsimp only
    refine wpAny_bind (wpAny_of_eq (a := some x) (by rfl) ?_)
    rw [if_neg (by simp)]
    exact wpAny_pure (h4 s'' k)
end
section
/-- what stands for what, place by place -/
noncomputable def AreL (P : It → Value → Prop) (vs : List Value) (is : List It) : Prop := vs.length = is.length ∧ ∀ (i : Nat) (v : Value) (k : It), vs[i]? = some v → is[i]? = some k → P k v
theorem AreL.nil {P : It → Value → Prop} : AreL P [] [] := ⟨rfl, fun i v k h => by simp at h⟩
theorem AreL.snoc {P : It → Value → Prop} {vs : List Value} {is : List It} {v : Value} {k : It} (h : AreL P vs is) (hv : P k v) : AreL P (vs ++ [v]) (is ++ [k]) := by
  refine ⟨by simp [h.1], fun i v' k' h1 h2 => ?_⟩
  by_cases hi : i < vs.length
  · rw [List.getElem?_append_left hi] at h1
    rw [List.getElem?_append_left (by rw [← h.1]; exact hi)] at h2
    exact h.2 i v' k' h1 h2
  · rw [List.getElem?_append_right (by omega)] at h1
    rw [List.getElem?_append_right (by rw [← h.1]; omega)] at h2
    cases hj : i - vs.length with
    | zero =>
      rw [hj] at h1
      rw [← h.1, hj] at h2
      simp at h1 h2
      subst h1; subst h2
      exact hv
    | succ j => rw [hj] at h1; simp at h1
theorem AreL.of_parts {st mk : Addr} {vs : List Value} {is : List It} (h : PartsAre st mk vs is) : AreL (partIs st mk) vs is := by
  induction h with
  | nil => exact .nil
  | snoc _ hi ih => exact ih.snoc hi
noncomputable def rowIs (st mk : Addr) : It → Value → Prop
  | .star, v => v = .ref st
  | .mark, v => v = .ref mk
  | .a, v => ∃ t, v = .bytes #[97] t
  | .dot, v => ∃ t, v = .bytes #[92, 46] t
  | .ba, v => ∃ t, v = .bytes #[40, 63, 33, 41] t
  | .na, v => ∃ t, v = .bytes #[91, 94, 97, 93] t
  | .e, v => ∃ t, v = .bytes #[] t
theorem AreL.at {P : It → Value → Prop} {vs : List Value} {is : List It} {i : Nat} {v : Value} (h : AreL P vs is) (hv : vs[i]? = some v) : ∃ k, is[i]? = some k ∧ P k v := by
  have hi : i < is.length := by rw [← h.1]; exact (List.getElem?_eq_some_iff.mp hv).1
  exact ⟨is[i], List.getElem?_eq_getElem hi, h.2 i v _ hv (List.getElem?_eq_getElem hi)⟩
theorem AreL.take {P : It → Value → Prop} {vs : List Value} {is : List It} {i : Nat} {v : Value} {k : It} (h : AreL P vs (is.take i)) (hk : is[i]? = some k) (hv : P k v) : AreL P (vs ++ [v]) (is.take (i + 1)) := by
  rw [List.take_add_one, hk]
  exact h.snoc hv
end
section
variable {g g' : Heap} {L : Addr} {base h₀ : Heap} {p : Program} {loose : List Str} {mean : ExcName → Option Value} {mg mb : Str → Option Value}
/-- the loop of the rows -/
noncomputable def LrInv (w : World) (p : Program) (loose : List Str) (mean : ExcName → Option Value) (mg mb : Str → Option Value) (A₀ : Around) (env1 : Env) (fs : List Addr) (base g : Heap) (st mk : Addr) (is : List It) (q : Addr) (rest : List (Addr × Obj)) (i : Nat) (g' : Heap) (m' : Str → Option Value) (news' : List (Addr × Obj)) : Prop :=
  ∃ rvals nq, KtsTurn fs g g' ∧ Below A₀ base [env1] g' ∧ (Mine.hd.heap_39 w.params).In g' ∧ Top p loose mean mg mb g' ∧ KtsDicts fs g' ∧ m' (Str.ofString "rows") = some (.ref q) ∧ news' = (q, listOf (List.toArray rvals) nq) :: rest ∧ AreL (rowIs st mk) rvals (is.take i)
end
section
variable {prog : Program} {w : World} {A : Around} {E : Value → Shared → Prop} {s : Shared} {h₀ : Heap} {L : Addr} {m : Str → Option Value} {news : List (Addr × Obj)} {Q : Value → Shared → Prop}
theorem append_L {r : Addr} {vs : List Value} {n : Nat} {x : Value} {news' : List (Addr × Obj)} (F : Fr h₀ L s.heap m) (N : News h₀ L s.heap news)
    (U : Upd r (listOf (List.toArray vs) n) (listOf (List.toArray (vs ++ [x])) (n + 1)) news news') (hsz : vs.length ≤ sizeLine)
    (h : ∀ h', Fr h₀ L h' m → News h₀ L h' news' → Q .none { s with heap := h' }) :
    wpAny (model prog w) A (call (.builtin "list.append") [.ref r, x] []) Q E s := by
  obtain ⟨pre, post, rfl, rfl, a, b⟩ := U.split
  have hr : (r, listOf (List.toArray vs) n) ∈ pre ++ (r, listOf (List.toArray vs) n) :: post := List.mem_append.mpr (.inr (.head _))
  have hl : s.heap.IsList r (List.toArray vs) := News.isList N hr
  refine wpAny_call_entry slot_list_append hl.typeIs entry_list_append ?_ (args_list_append _ _)
  show wpAny _ _ (updateSeq r (·.push x) >>= fun _ => ret .none) _ _ s
  refine wpAny_bind ?_
  have hs : Heap.SameBut r s.heap (s.heap.update r (Obj.mapSeq (·.push x))) := Heap.SameBut.update ..
  have ho : (s.heap.update r (Obj.mapSeq (·.push x))).get? r = some (listOf (List.toArray (vs ++ [x])) (n + 1)) := by
    rw [Heap.get?_update_self _ (N _ hr).1 (by rw [mapSeq_push]; rfl), mapSeq_push]
    simp
  refine wpAny_updateSeq (N _ hr).1 rfl (wpAny_pure ⟨_, rfl, h _ (F.change hs (N _ hr).2.1 (N _ hr).2.2) (news_set N a b hs ho)⟩)
end
section
variable {g₁ h : Heap} {L1 it q r st mk : Addr} {oit or : Obj} {m' : Str → Option Value} {w : World} {p : Program} {loose : List Str} {mean : ExcName → Option Value} {mg mb : Str → Option Value} {A₀ : Around} {env1 : Env} {fs : List Addr} {base g : Heap} {is : List It} {rest : List (Addr × Obj)}
theorem lr_next {os : OsState} {Q : Flow → Shared → Prop} {i nq : Nat} {rvals : List Value} {v : Value} {k : It} {gs : Array GenState} {dr : Drawn} {tk : Tok} (G : AllBare gs) (F : Fr g₁ L1 h m') (N : News g₁ L1 h ((it, oit) :: (q, listOf (List.toArray (rvals ++ [v])) nq) :: rest)) (hm : (r, or) ∈ rest) (hq : q ≠ it) (hn : ∀ z ∈ rest, z.1 ≠ it)
    (T2 : KtsTurn fs g g₁) (B2 : Below A₀ base [env1] g₁) (X2 : (Mine.hd.heap_39 w.params).In g₁) (TT2 : Top p loose mean mg mb g₁) (D2 : KtsDicts fs g₁) (e1 : m' (Str.ofString "rows") = some (.ref q)) (hrv : AreL (rowIs st mk) rvals (is.take i)) (hk : is[i]? = some k) (hv : rowIs st mk k v) :
    ForStep L1 os (LrInv w p loose mean mg mb A₀ env1 fs base g st mk is q rest) r or Q it oit i .next ⟨h, gs, dr, tk, os⟩ :=
  ForStep.nxt G F N (.tail _ hm) (fun z hz => by exact (List.mem_cons.mp hz).elim (fun e => by rw [e]; exact hq) (hn z)) ⟨rvals ++ [v], nq, T2, B2, X2, TT2, D2, e1, rfl, hrv.take hk hv⟩
end
/-- the menu -/
inductive Pc where
  | star | q | a | dot | star2 | ba | na | e
noncomputable def Pc.text : Pc → Str
  | .star => ⟨#[42]⟩ | .q => ⟨#[63]⟩ | .a => ⟨#[97]⟩ | .dot => ⟨#[46]⟩ | .star2 => ⟨#[42, 42]⟩ | .ba => ⟨#[91, 98, 45, 97, 93]⟩ | .na => ⟨#[91, 33, 97, 93]⟩ | .e => ⟨#[233]⟩
noncomputable def Pc.units : Pc → List U
  | .star => [.star] | .q => [.q] | .a => [.a] | .dot => [.dot] | .star2 => [.star, .star] | .ba => [.ba] | .na => [.na] | .e => [.e]
noncomputable def It.name : It → Str
  | .star => Str.ofString "star" | .mark => Str.ofString "mark" | .a => ⟨#[97]⟩ | .dot => ⟨#[46]⟩ | .ba => ⟨#[91, 98, 45, 97, 93]⟩ | .na => ⟨#[91, 33, 97, 93]⟩ | .e => ⟨#[233]⟩
noncomputable def pcIs (pc : Pc) (v : Value) : Prop := ∃ t, v = .str pc.text t
noncomputable def itemIs (k : It) (v : Value) : Prop := ∃ t, v = .str k.name t
noncomputable def unitsOfP (ps : List Pc) : List U := ps.flatMap Pc.units
theorem trAll_pc (one : Bool) (ps : List Pc) (pc : Pc) : trAll one (unitsOfP (ps ++ [pc])) = pc.units.foldl (trStep one) (trAll one (unitsOfP ps)) := by
  simp [trAll, unitsOfP]
theorem star_twice (one : Bool) (l : List It) : trStep one (trStep one l .star) .star = trStep one l .star := by
  unfold trStep
  by_cases h : l.getLast? = some It.star
  · simp [h]
  · simp [h]
noncomputable def PcsAre (vs : List Value) (ps : List Pc) : Prop := vs.length = ps.length ∧ ∀ (i : Nat) (v : Value), vs[i]? = some v → ∃ pc, ps[i]? = some pc ∧ pcIs pc v
noncomputable def LiInv (one : Bool) (ob : Value) (ps : List Pc) (q : Addr) (rest : List (Addr × Obj)) (g : Heap) (i : Nat) (g' : Heap) (m' : Str → Option Value) (news' : List (Addr × Obj)) : Prop :=
  ∃ ivals nq, g' = g ∧ m' (Str.ofString "items") = some (.ref q) ∧ m' (Str.ofString "one") = some ob ∧ news' = (q, listOf (List.toArray ivals) nq) :: rest ∧ AreL itemIs ivals (trAll one (unitsOfP (ps.take i))) ∧ ivals.length ≤ i
section
theorem pick_nil : slicePick (List.toArray []) (some (-1)) none none = #[] := by decide +kernel
theorem pick_last (vs : List Value) (v : Value) : slicePick (List.toArray (vs ++ [v])) (some (-1)) none none = #[v] := by
  have e : sliceBounds (some (-1)) none none (List.toArray (vs ++ [v])).size = ((vs.length : Int), (vs.length : Int) + 1, 1) := by
    have h : (List.toArray (vs ++ [v])).size = vs.length + 1 := by simp
    rw [h]
    unfold sliceBounds
    simp
    try omega
  unfold slicePick
  rw [e]
  have e2 : sliceRange (vs.length : Int) ((vs.length : Int) + 1) 1 = [vs.length] := by
    have h := sliceRange_one vs.length (vs.length + 1)
    rw [show ((vs.length : Int) + 1) = ((vs.length + 1 : Nat) : Int) by omega, h, show vs.length + 1 - vs.length = 1 by omega]
    rfl
  rw [e2]
  simp
end
section
variable {prog : Program} {w : World} {A : Around} {E : Value → Shared → Prop} {s : Shared} {Q : Value → Shared → Prop} {h₀ : Heap} {L : Addr} {news : List (Addr × Obj)}
theorem shp0 : SeqAt.shaped (.list []) = true := by simp [SeqAt.shaped, PyData.canLay0, PyData.canLayAll0, PyData.depth, PyData.depthAll]
theorem shp1 {x : Str} (h : PyData.strOk x = true) : SeqAt.shaped (.list [.str x]) = true := by simp [SeqAt.shaped, PyData.canLay0, PyData.canLayAll0, PyData.depth, PyData.depthAll, h]
theorem ne_nil_star {a b : Addr} {oa ob : Obj} {na nb : Nat} {u : Tok} {y : Str} (N : News h₀ L s.heap news) (ma : (a, oa) ∈ news) (hac : oa.cls = .type "list") (had : oa.data = .seq #[] na) (mb : (b, ob) ∈ news) (hbc : ob.cls = .type "list") (hbd : ob.data = .seq #[.str y u] nb)
    (hy : PyData.strOk y = true) (hu : A.units + 64 < cLine) (h : Q (.bool true) s) : wpAny (model prog w) A (compareOp .NotEq (.ref a) (.ref b)) Q E s :=
  ne_dataH (reads_list_at (N _ ma).1 hac had .nil) (reads_list_at (N _ mb).1 hbc hbd (.cons (.str _ _) .nil)) shp0 (shp1 hy) hu h
theorem ne_one_star {a b : Addr} {oa ob : Obj} {na nb : Nat} {t u : Tok} {x y : Str} (N : News h₀ L s.heap news) (ma : (a, oa) ∈ news) (hac : oa.cls = .type "list") (had : oa.data = .seq #[.str x t] na) (mb : (b, ob) ∈ news) (hbc : ob.cls = .type "list") (hbd : ob.data = .seq #[.str y u] nb)
    (hx0 : PyData.strOk x = true) (hy : PyData.strOk y = true) (hu : A.units + 64 < cLine) {bb : Bool} (hb : (!decide (x = y)) = bb) (h : Q (.bool bb) s) : wpAny (model prog w) A (compareOp .NotEq (.ref a) (.ref b)) Q E s :=
  ne_dataH (reads_list_at (N _ ma).1 hac had (.cons (.str _ _) .nil)) (reads_list_at (N _ mb).1 hbc hbd (.cons (.str _ _) .nil)) (shp1 hx0) (shp1 hy) hu (by
    have e : PyData.eqv (.list [.str x]) (.list [.str y]) = decide (x = y) := by
      show ((x == y) && true) = _
      rw [Bool.and_true]
      by_cases hx : x = y <;> simp [hx]
    rw [e, hb]; exact h)
end

section
theorem AreL.last {P : It → Value → Prop} {vs : List Value} {is : List It} (h : AreL P vs is) : (vs = [] ∧ is = []) ∨ ∃ vs' v is' k, vs = vs' ++ [v] ∧ is = is' ++ [k] ∧ P k v := by
  rcases List.eq_nil_or_concat vs with rfl | ⟨vs', v, rfl⟩
  · left
    exact ⟨rfl, by have := h.1; simpa using this.symm⟩
  · right
    have hl := h.1
    rcases List.eq_nil_or_concat is with rfl | ⟨is', k, rfl⟩
    · simp at hl
    · refine ⟨vs', v, is', k, by simp, by simp, h.2 vs'.length v k ?_ ?_⟩
      · simp
      · have : vs'.length = is'.length := by simpa using hl
        rw [this]; simp
theorem li_tr {one : Bool} {ps : List Pc} {i : Nat} {pc : Pc} (h : ps[i]? = some pc) : trAll one (unitsOfP (ps.take (i + 1))) = pc.units.foldl (trStep one) (trAll one (unitsOfP (ps.take i))) := by
  rw [List.take_add_one, h]
  exact trAll_pc one _ _
end
section
variable {g₁ h : Heap} {L1 it q r : Addr} {oit or : Obj} {m' : Str → Option Value} {rest : List (Addr × Obj)}
theorem li_next {os : OsState} {Q : Flow → Shared → Prop} {i nq : Nat} {one : Bool} {ob : Value} {pcs : List Pc} {ivals : List Value} {gs : Array GenState} {dr : Drawn} {tk : Tok} {is : List It} (G : AllBare gs) (F : Fr g₁ L1 h m') (N : News g₁ L1 h ((it, oit) :: (q, listOf (List.toArray ivals) nq) :: rest)) (hm : (r, or) ∈ rest) (hq : @Ne Nat q it) (hn : ∀ z ∈ rest, z.1 ≠ it)
    (e1 : m' (Str.ofString "items") = some (.ref q)) (e2 : m' (Str.ofString "one") = some ob) (hi : trAll one (unitsOfP (pcs.take (i + 1))) = is) (hrv : AreL itemIs ivals is) (hl : ivals.length ≤ i + 1) :
    ForStep L1 os (LiInv one ob pcs q rest g₁) r or Q it oit i .next ⟨h, gs, dr, tk, os⟩ :=
  ForStep.nxt G F N (.tail _ hm) (fun z hz => (List.mem_cons.mp hz).elim (fun e => by rw [e]; exact hq) (hn z)) ⟨ivals, nq, rfl, e1, e2, rfl, by rw [hi]; exact hrv, hl⟩
end
section
variable {prog : Program} {w : World} {A : Around} {E : Value → Shared → Prop} {s : Shared}
/-- a tree that the kernel runs, whatever is handled; nothing old is changed -/
theorem ev_treeK {α : Type} {t : Sem α} (t' : Sem α) {Q : α → Shared → Prop} (fuel : Nat) (ro : List (Addr × Obj)) (hs : List Nat) {v : α} (ht : t = t')
    (hv : treeVal (evH prog w s ro A.handled fuel t' [] hs) = some v)
    (hp : treePsL (evH prog w s ro A.handled fuel t' [] hs) = treePsR (evH prog w s ro A.handled fuel t' [] hs))
    (hro : ∀ p ∈ ro, s.heap.get? p.1 = some p.2)
    (h : ∀ s', Keeps s s' → Q v s') :
    wpAny (model prog w) A t Q E s := by
  subst ht
  cases e : evH prog w s ro A.handled fuel t [] hs with
  | stop => rw [e] at hv; cases hv
  | stopW => rw [e] at hv; cases hv
  | ok lf st' hs' =>
    rw [e] at hv hp
    cases lf with
    | exc => cases hv
    | ret v' =>
      cases hv
      obtain ⟨_, k⟩ := evTree_sound (prog := prog) (w := w) (C := ecfg prog w s ro) rfl (evCode_sound (prog := prog) (w := w) (C := ecfg prog w s ro) rfl denZ_is fuel) A.handled t _ _ _ _ _ e
      refine k (ps_eq hp) A s _ _ rfl ⟨rfl, rfl, hro, fun p hp => (nomatch hp), List.nodup_nil, fun _ _ _ hq => (nomatch hq)⟩ fun s' I K Y => ?_
      exact h s' ⟨s'.heap, s'.toks, K.1, fun b o e => K.2 b o (fun h => nomatch h) e⟩
theorem Keeps.get {s s' : Shared} {a : Addr} {o : Obj} (k : Keeps s s') (h : s.heap.get? a = some o) : s'.heap.get? a = some o := by
  obtain ⟨h', t', rfl, kk⟩ := k
  exact kk a o h
theorem Keeps.tok {s s' : Shared} {n : Nat} (k : Keeps s s') : Keeps s { s' with toks := n } := by
  obtain ⟨h', t', rfl, kk⟩ := k
  exact ⟨h', n, rfl, kk⟩
theorem ro1 {h : Heap} {a : Addr} {o : Obj} (e : h.get? a = some o) : ∀ p ∈ [(a, o)], h.get? p.1 = some p.2 := fun p hp => by rw [List.mem_singleton.mp hp]; exact e
theorem ro2 {h : Heap} {a b : Addr} {o o' : Obj} (e : h.get? a = some o) (e' : h.get? b = some o') : ∀ p ∈ [(a, o), (b, o')], h.get? p.1 = some p.2 := fun p hp => by
  rcases List.mem_cons.mp hp with rfl | hp
  · exact e
  · rw [List.mem_singleton.mp hp]; exact e'
end
section
variable {prog : Program} {w : World} {A : Around} {E : Value → Shared → Prop} {s : Shared}
noncomputable abbrev sEqq : Str := ⟨#[95, 95, 101, 113, 95, 95]⟩
theorem sEqq_is : Str.ofString "__eq__" = sEqq := by decide +kernel
theorem hb_holds (x y : List UInt8) : Builtin.Bytes.holds "__eq__" (Builtin.Bytes.order x y) = (x == y) := by
  rw [← PySem.W.order_eq]; rfl
theorem try_b_ba {a : Addr} {x b : Array UInt8} {t : Tok} {Q : Option Value → Shared → Prop} (ha : s.heap.get? a = some (baObj b)) (h : ∀ s', Keeps s s' → Q none s') :
    wpAny (model prog w) A (tryCompare (.bytes x t) (Str.ofString "__eq__") (.ref a)) Q E s := by
  rw [sEqq_is]
  refine byText (P := fun w => wpAny (model prog w) A (tryCompare (.bytes x t) sEqq (.ref a)) Q E s) w ?_ ?_
  · exact ev_treeK (PySem.W.ZFast.zw3989567798202555795 (.bytes x t) sEqq (.ref a)) 60 [(a, baObj b)] [0] (by rw [← PySem.W.ZFast.ze3989567798202555795]) (v := none) (by kernel_rfl) (by kernel_rfl) (ro1 ha) h
  · exact ev_treeK (PySem.W.ZFast.zw3989567798202555795 (.bytes x t) sEqq (.ref a)) 60 [(a, baObj b)] [0] (by rw [← PySem.W.ZFast.ze3989567798202555795]) (v := none) (by kernel_rfl) (by kernel_rfl) (ro1 ha) h
theorem try_ba_b {a : Addr} {x b : Array UInt8} {t : Tok} {Q : Option Value → Shared → Prop} (ha : s.heap.get? a = some (baObj b)) (h : ∀ s', Keeps s s' → Q (some (.bool (b.toList == x.toList))) s') :
    wpAny (model prog w) A (tryCompare (.ref a) (Str.ofString "__eq__") (.bytes x t)) Q E s := by
  rw [sEqq_is]
  rw [← hb_holds] at h
  refine byText (P := fun w => wpAny (model prog w) A (tryCompare (.ref a) sEqq (.bytes x t)) Q E s) w ?_ ?_
  · exact ev_treeK (PySem.W.ZFast.zw3989567798202555795 (.ref a) sEqq (.bytes x t)) 60 [(a, baObj b)] (List.replicate 9 0) (by rw [← PySem.W.ZFast.ze3989567798202555795]) (v := some (.bool (Builtin.Bytes.holds "__eq__" (Builtin.Bytes.order b.toList x.toList)))) (by kernel_rfl) (by kernel_rfl) (ro1 ha) h
  · exact ev_treeK (PySem.W.ZFast.zw3989567798202555795 (.ref a) sEqq (.bytes x t)) 60 [(a, baObj b)] (List.replicate 9 0) (by rw [← PySem.W.ZFast.ze3989567798202555795]) (v := some (.bool (Builtin.Bytes.holds "__eq__" (Builtin.Bytes.order b.toList x.toList)))) (by kernel_rfl) (by kernel_rfl) (ro1 ha) h
theorem try_ba_ba {a a' : Addr} {c b : Array UInt8} {Q : Option Value → Shared → Prop} (ha' : s.heap.get? a' = some (baObj c)) (ha : s.heap.get? a = some (baObj b)) (h : ∀ s', Keeps s s' → Q (some (.bool (c.toList == b.toList))) s') :
    wpAny (model prog w) A (tryCompare (.ref a') (Str.ofString "__eq__") (.ref a)) Q E s := by
  rw [sEqq_is]
  rw [← hb_holds] at h
  refine byText (P := fun w => wpAny (model prog w) A (tryCompare (.ref a') sEqq (.ref a)) Q E s) w ?_ ?_
  · exact ev_treeK (PySem.W.ZFast.zw3989567798202555795 (.ref a') sEqq (.ref a)) 60 [(a', baObj c), (a, baObj b)] (List.replicate 9 0 ++ List.replicate 7 2) (by rw [← PySem.W.ZFast.ze3989567798202555795]) (v := some (.bool (Builtin.Bytes.holds "__eq__" (Builtin.Bytes.order c.toList b.toList)))) (by kernel_rfl) (by kernel_rfl) (ro2 ha' ha) h
  · exact ev_treeK (PySem.W.ZFast.zw3989567798202555795 (.ref a') sEqq (.ref a)) 60 [(a', baObj c), (a, baObj b)] (List.replicate 9 0 ++ List.replicate 7 2) (by rw [← PySem.W.ZFast.ze3989567798202555795]) (v := some (.bool (Builtin.Bytes.holds "__eq__" (Builtin.Bytes.order c.toList b.toList)))) (by kernel_rfl) (by kernel_rfl) (ro2 ha' ha) h
end
section
variable {prog : Program} {w : World} {A : Around} {E : Value → Shared → Prop} {s : Shared} {Q : Value → Shared → Prop}
/-- a comparison where the second's reading decides -/
theorem eq_bytes_ba {a : Addr} {x b : Array UInt8} {t : Tok} (ha : s.heap.get? a = some (baObj b)) (hu : A.units < cLine) (h : ∀ s', Keeps s s' → Q (.bool (b.toList == x.toList)) s') :
    wpAny (model prog w) A (compareOp .Eq (.bytes x t) (.ref a)) Q E s := by
  refine cmp_ofEq ?_
  unfold richCompare
  refine wpAny_holding ?_
  refine wpAny_bind (wpAny_cRoomFor hu ?_)
  dsimp only [oneThing?, cmpInfo]
  refine wpAny_bind (wpAny_typeOf (typeIs_bytes s x t) ?_)
  refine wpAny_bind (wpAny_typeOf ⟨_, ha, rfl⟩ ?_)
  refine wpAny_bind (wpAny_of_eq (a := false) ?_ ?_)
  · rw [isSubtype_type]; kernel_rfl
  refine wpAny_bind (try_b_ba ha fun s₁ k₁ => ?_)
  have ha1 := Keeps.get k₁ ha
  refine wpAny_bind (try_ba_b ha1 fun s₂ k₂ => ?_)
  exact wpAny_pure (h s₂ (Keeps.trans k₁ k₂))
theorem eq_ba_ba {a a' : Addr} {c b : Array UInt8} (ha' : s.heap.get? a' = some (baObj c)) (ha : s.heap.get? a = some (baObj b)) (hu : A.units < cLine) (h : ∀ s', Keeps s s' → Q (.bool (c.toList == b.toList)) s') :
    wpAny (model prog w) A (compareOp .Eq (.ref a') (.ref a)) Q E s := by
  refine cmp_ofEq ?_
  unfold richCompare
  refine wpAny_holding ?_
  refine wpAny_bind (wpAny_cRoomFor hu ?_)
  dsimp only [oneThing?, cmpInfo]
  refine wpAny_bind (wpAny_typeOf ⟨_, ha', rfl⟩ ?_)
  refine wpAny_bind (wpAny_typeOf ⟨_, ha, rfl⟩ ?_)
  refine wpAny_bind (wpAny_of_eq (a := false) rfl ?_)
  refine wpAny_bind (try_ba_ba ha' ha fun s₂ k₂ => ?_)
  exact wpAny_pure (h s₂ k₂)
theorem EqGivesBytes (x y : Array UInt8) (t u : Tok) : MeetsSeq.EqGives (.bytes x t) (.bytes y u) (x.toList == y.toList) := by
  intro prog w A E s Q h
  unfold eqBool
  refine wpAny_holding ?_
  refine wpAny_ite_split (fun hab => ?_) (fun hab => ?_)
  · have e : x = y := by have := eq_of_beq hab; injection this
    subst e
    exact wpAny_bind (wpAny_rule (wpAny_pure (by simpa using h)))
  · exact wpAny_bind (richCompare_gives (typeIs_bytes s x t) (typeIs_bytes s y u) FB.slot_bytes_eq FB.entry_bytes_eq (FB.args_bytes_eq_2 _ _) (gives_bytes_eq x y t u) (by simp [Made.takes]) (wpAny_truthy_bool h))
end
section
variable {prog : Program} {w : World} {A : Around} {E : Value → Shared → Prop} {s : Shared}
theorem bop1_none {a : Addr} {x b : Array UInt8} {t : Tok} {Q : Option Value → Shared → Prop} (ha : s.heap.get? a = some (baObj b)) (h : ∀ s', Keeps s s' → Q none s') :
    wpAny (model prog w) A (binaryOp1 "add" (.bytes x t) (.ref a)) Q E s := by
  refine byText (P := fun w => wpAny (model prog w) A (binaryOp1 "add" (.bytes x t) (.ref a)) Q E s) w ?_ ?_
  · exact ev_treeK (PySem.W.ZFast.zw8789902822319141651 "add" (.bytes x t) (.ref a)) 60 [(a, baObj b)] [0] (by rw [← PySem.W.ZFast.ze8789902822319141651]) (v := none) (by kernel_rfl) (by kernel_rfl) (ro1 ha) h
  · exact ev_treeK (PySem.W.ZFast.zw8789902822319141651 "add" (.bytes x t) (.ref a)) 60 [(a, baObj b)] [0] (by rw [← PySem.W.ZFast.ze8789902822319141651]) (v := none) (by kernel_rfl) (by kernel_rfl) (ro1 ha) h
theorem quiet_ba {id : String} {a : Addr} {b : Array UInt8} {Q : Option (Array UInt8) → Shared → Prop} (ha : s.heap.get? a = some (baObj b)) (h : ∀ s', Keeps s s' → Q (some b) s') :
    wpAny (model prog w) A (Builtin.Bytes.bufferQuiet? id (.ref a)) Q E s := by
  refine byText (P := fun w => wpAny (model prog w) A (Builtin.Bytes.bufferQuiet? id (.ref a)) Q E s) w ?_ ?_
  · exact ev_treeK (PySem.W.ZFast.zw13235021968609880113 id (.ref a)) 60 [(a, baObj b)] (List.replicate 7 0) (by rw [← PySem.W.ZFast.ze13235021968609880113]) (v := some b) (by kernel_rfl) (by kernel_rfl) (ro1 ha) h
  · exact ev_treeK (PySem.W.ZFast.zw13235021968609880113 id (.ref a)) 60 [(a, baObj b)] (List.replicate 7 0) (by rw [← PySem.W.ZFast.ze13235021968609880113]) (v := some b) (by kernel_rfl) (by kernel_rfl) (ro1 ha) h
theorem add_ba {a : Addr} {x b : Array UInt8} {t : Tok} {Q : Value → Shared → Prop} (ha : s.heap.get? a = some (baObj b)) (hsz : x.size + b.size ≤ 16777216) (h : ∀ s' t', Keeps s s' → Q (.bytes (x ++ b) t') s') :
    wpAny (model prog w) A (binaryOp .Add (.bytes x t) (.ref a)) Q E s := by
  unfold binaryOp
  refine wpAny_holding ?_
  refine wpAny_bind (bop1_none ha fun s₁ k₁ => ?_)
  have ha1 := Keeps.get k₁ ha
  refine wpAny_bind (wpAny_typeOf (typeIs_bytes s₁ x t) ?_)
  refine wpAny_bind (wpAny_of_eq PySem.W.KBy.seq_bytes_add ?_)
  refine wpAny_bind (wpAny_rule ?_)
  refine wpAny_call_entry FB.slot_bytes_add (typeIs_bytes s₁ x t) FB.entry_bytes_add ?_ (FB.args_bytes_add_2 _ _)
  show wpAny _ _ (Builtin.Bytes.buffer? "bytes.__add__" (.bytes x t) >>= fun r => _) _ E s₁
  refine wpAny_bind (wpAny_of_eq PySem.W.KBy.buffer_eq ?_)
  show wpAny _ _ (Builtin.Bytes.bufferQuiet? "bytes.__add__" (.ref a) >>= fun r => _) _ E s₁
  refine wpAny_bind (quiet_ba ha1 fun s₂ k₂ => ?_)
  have k₁₂ := Keeps.trans k₁ k₂
  have ha2 := Keeps.get k₁₂ ha
  show wpAny _ _ (if x.isEmpty = true then _ else _) _ E s₂
  by_cases hx : x.isEmpty = true
  · rw [if_pos hx]
    refine wpAny_bind (wpAny_typeOf ⟨_, ha2, rfl⟩ ?_)
    rw [if_neg (by decide)]
    dsimp only
    by_cases hb : b.isEmpty = true
    · rw [if_pos hb]
      refine wpAny_bind (wpAny_typeOf (typeIs_bytes s₂ x t) ?_)
      rw [if_pos (by decide)]
      refine wpAny_bind (wpAny_rule ?_)
      have e : b = #[] := Array.isEmpty_iff.1 hb
      have h' := h s₂ t k₁₂
      rw [e, Array.append_empty] at h'
      exact wpAny_pure ⟨_, rfl, h'⟩
    · rw [if_neg hb]
      (try dsimp only)
      rw [if_neg (by rw [PySem.W.KBy.tooLong_not hsz]; exact Bool.false_ne_true)]
      refine wpAny_bind (wpAny_mkBytes (wpAny_pure ⟨_, rfl, h _ _ (Keeps.tok k₁₂)⟩) ?_)
      rw [Array.size_append, sizeLine_eq]
      omega
  · rw [if_neg hx]
    dsimp only
    by_cases hb : b.isEmpty = true
    · rw [if_pos hb]
      refine wpAny_bind (wpAny_typeOf (typeIs_bytes s₂ x t) ?_)
      rw [if_pos (by decide)]
      refine wpAny_bind (wpAny_rule ?_)
      have e : b = #[] := Array.isEmpty_iff.1 hb
      have h' := h s₂ t k₁₂
      rw [e, Array.append_empty] at h'
      exact wpAny_pure ⟨_, rfl, h'⟩
    · rw [if_neg hb]
      (try dsimp only)
      rw [if_neg (by rw [PySem.W.KBy.tooLong_not hsz]; exact Bool.false_ne_true)]
      refine wpAny_bind (wpAny_mkBytes (wpAny_pure ⟨_, rfl, h _ _ (Keeps.tok k₁₂)⟩) ?_)
      rw [Array.size_append, sizeLine_eq]
      omega
end
section
variable {prog : Program} {w : World} {A : Around} {E : Value → Shared → Prop} {s : Shared} {h₀ : Heap} {L : Addr} {m : Str → Option Value} {news : List (Addr × Obj)} {Q : Value → Shared → Prop}
theorem keepsF {P : Shared → Prop} (F : Fr h₀ L s.heap m) (N : News h₀ L s.heap news) (h : ∀ h' tk, Fr h₀ L h' m → News h₀ L h' news → P { s with heap := h', toks := tk }) : ∀ s', Keeps s s' → P s' := by
  rintro s' ⟨h', tk, rfl, kk⟩
  exact h h' tk (F.keptAll kk) (N.grown kk)
theorem add_baF {a : Addr} {x b : Array UInt8} {t : Tok} (F : Fr h₀ L s.heap m) (N : News h₀ L s.heap news) (ha : (a, baObj b) ∈ news) (hsz : x.size + b.size ≤ 16777216)
    (h : ∀ h' tk t', Fr h₀ L h' m → News h₀ L h' news → Q (.bytes (x ++ b) t') { s with heap := h', toks := tk }) : wpAny (model prog w) A (binaryOp .Add (.bytes x t) (.ref a)) Q E s :=
  add_ba (N _ ha).1 hsz fun s' t' k => keepsF (P := fun s' => Q (.bytes (x ++ b) t') s') F N (fun h' tk F' N' => h h' tk t' F' N') s' k
theorem eq_bytes_baF {a : Addr} {x b : Array UInt8} {t : Tok} (F : Fr h₀ L s.heap m) (N : News h₀ L s.heap news) (ha : (a, baObj b) ∈ news) (hu : A.units < cLine)
    (h : ∀ h' tk, Fr h₀ L h' m → News h₀ L h' news → Q (.bool (b.toList == x.toList)) { s with heap := h', toks := tk }) : wpAny (model prog w) A (compareOp .Eq (.bytes x t) (.ref a)) Q E s :=
  eq_bytes_ba (N _ ha).1 hu (keepsF F N h)
theorem eq_ba_baF {a a' : Addr} {c b : Array UInt8} (F : Fr h₀ L s.heap m) (N : News h₀ L s.heap news) (ha' : (a', baObj c) ∈ news) (ha : (a, baObj b) ∈ news) (hu : A.units < cLine)
    (h : ∀ h' tk, Fr h₀ L h' m → News h₀ L h' news → Q (.bool (c.toList == b.toList)) { s with heap := h', toks := tk }) : wpAny (model prog w) A (compareOp .Eq (.ref a') (.ref a)) Q E s :=
  eq_ba_ba (N _ ha').1 (N _ ha).1 hu (keepsF F N h)
end
/-- what a row holds -/
noncomputable def cont (bs bm : Array UInt8) : It → Array UInt8
  | .star => bs | .mark => bm | .a => #[97] | .dot => #[92, 46] | .ba => #[40, 63, 33, 41] | .na => #[91, 94, 97, 93] | .e => #[]
noncomputable def sameAs (bs bm x : Array UInt8) (k : It) : Bool := (cont bs bm k).toList == x.toList
noncomputable def CoInv (bs bm : Array UInt8) (is : List It) (a b : Value) (rest : List (Addr × Obj)) (g : Heap) (i : Nat) (g' : Heap) (m' : Str → Option Value) (news' : List (Addr × Obj)) : Prop :=
  ∃ t, g' = g ∧ m' (Str.ofString "a") = some a ∧ m' (Str.ofString "b") = some b ∧ m' (Str.ofString "count") = some (.int (((is.take i).countP (sameAs bs bm bs) : Nat) : Int) t) ∧ news' = rest
theorem co_next {g₁ h : Heap} {L1 it q : Addr} {oit oq : Obj} {m' : Str → Option Value} {rest : List (Addr × Obj)} {os : OsState} {Q : Flow → Shared → Prop} {i : Nat} {bs bm : Array UInt8} {is : List It} {a b : Value} {gs : Array GenState} {dr : Drawn} {tk : Tok} {k : It} {n : Int} {t : Tok}
    (G : AllBare gs) (F : Fr g₁ L1 h m') (N : News g₁ L1 h ((it, oit) :: rest)) (hm : (q, oq) ∈ rest) (hn : ∀ z ∈ rest, z.1 ≠ it)
    (e1 : m' (Str.ofString "a") = some a) (e2 : m' (Str.ofString "b") = some b) (e3 : m' (Str.ofString "count") = some (.int n t)) (hk : is[i]? = some k) (hc : n = (((is.take i).countP (sameAs bs bm bs) : Nat) : Int) + if sameAs bs bm bs k then 1 else 0) :
    ForStep L1 os (CoInv bs bm is a b rest g₁) q oq Q it oit i .next ⟨h, gs, dr, tk, os⟩ :=
  ForStep.nxt G F N hm hn ⟨t, rfl, e1, e2, by rw [e3, List.take_add_one, hk, hc]; simp [List.countP_append, List.countP_cons]; split <;> simp, rfl⟩
section
variable {prog : Program} {w : World} {A : Around} {E : Value → Shared → Prop} {Q : Flow → Shared → Prop} {s : Shared} {g : Heap} {L a : Addr} {m : Str → Option Value} {name : Str} {scope : Scope} {cd : Value} {news : List (Addr × Obj)}
noncomputable abbrev enumO (it : Addr) (i : Int) (old : Value) : Obj := { cls := .type "enumerate", dict := none, data := .fields #[.none, .bool false, .ref it, rawInt i, .none, old], slots := #[] }
/-- behind a turn of a loop over enumerate -/
noncomputable def EnStep (g : Heap) (L e it : Addr) (news : List (Addr × Obj)) (J : Nat → (Str → Option Value) → Prop) (Q : Flow → Shared → Prop) (s : Shared) (oe oit : Obj) (i : Nat) (f : Flow) (s₂ : Shared) : Prop :=
  match f with
  | .next | .cont => ∃ h₂ tk₂ m₂, s₂ = { s with heap := h₂, toks := tk₂ } ∧ Fr g L h₂ m₂ ∧ News g L h₂ ((e, oe) :: (it, oit) :: news) ∧ J (i + 1) m₂
  | .brk => Q .next s₂
  | .ret v => Q (.ret v) s₂
theorem fr_fresh {h h' : Heap} (F : Fr g L h m) (N : News g L h news) (he : Heap.ExtBut h.objs.size h h') : Fr g L h' m ∧ News g L h' news := by
  have hL : h.objs.size ≠ L := fun z => by have := F.ns.lt; rw [← z] at this; exact Nat.lt_irrefl _ this
  have hg : g.get? h.objs.size = none := by
    cases q : g.get? h.objs.size with
    | none => rfl
    | some o => exact absurd (Heap.lt_size (F.keep _ _ q)) (Nat.lt_irrefl _)
  exact ⟨fr_off F hL hg he, news_off N (fun q hq => Nat.ne_of_lt (Heap.lt_size (N q hq).1)) he⟩
theorem for_enum {xi xv : Str} {pi pv pt : Pos} {x1} {body orelse : List PySem.Stmt} {e it l : Addr} {items : Array Value} {nl : Nat} {oit0 : Obj} (J : Nat → (Str → Option Value) → Prop)
    (hh : A.handled = none) (F : Fr g L s.heap m) (N : News g L s.heap ((e, enumO it 0 .none) :: (it, oit0) :: news)) (hc0 : oit0.cls = .type "list_iterator") (hd0 : oit0.data = .fields #[.ref l, .int 0 0]) (hl : (l, listOf items nl) ∈ news)
    (hei : e ≠ it) (hne : ∀ q ∈ news, q.1 ≠ e) (hni : ∀ q ∈ news, q.1 ≠ it) (h0 : J 0 m)
    (turn : ∀ i v tk m₁ oe oit h₁ tk₁, items[i]? = some v → J i m₁ → Fr g L h₁ (fun y => if y = xv then some v else if y = xi then some (.int i tk) else m₁ y) → News g L h₁ ((e, oe) :: (it, oit) :: news) →
      wpAny (model prog w) A (execs body (envOf name scope L a cd)) (EnStep g L e it news J Q s oe oit i) E { s with heap := h₁, toks := tk₁ })
    (done : ∀ m', J items.size m' → False)
    (hE : PassesOwn (model prog w) A (envOf name scope L a cd) E := by passes_own)
    (hk : scope.kind = .function := by rfl) (hxi : (envOf name scope L a cd).kindOf xi = some .local := by rfl) (hxv : (envOf name scope L a cd).kindOf xv = some .local := by rfl) :
    codeAny (model prog w) A (.forLoop (.Tuple [.Name xi pi, .Name xv pv] x1 pt) (.ref e) body orelse (envOf name scope L a cd))
      (fun r s' => match r with | .ok f => Q f s' | .error e => cameBackBy (model prog w) A (envOf name scope L a cd) E e s') s := by
  have hEi : ∀ e s', E e s' → notedBy (model prog w) A (envOf name scope L a cd) (fun e s' => cameBackBy (model prog w) A (envOf name scope L a cd) E e s') e s' := hE
  refine codeAny_forLoop_any (fun k s' => ∃ h' tk m' i old oit, s' = { s with heap := h', toks := tk } ∧ oit.cls = .type "list_iterator" ∧ oit.data = .fields #[.ref l, .int (i : Nat) 0] ∧ Fr g L h' m' ∧
      News g L h' ((e, enumO it ((i : Nat) : Int) old) :: (it, oit) :: news) ∧ J i m' ∧ i ≤ items.size ∧ k = items.size + 1 - i) ?_ (items.size + 1)
    ⟨s.heap, s.toks, m, 0, .none, oit0, rfl, hc0, hd0, F, N, h0, Nat.zero_le _, rfl⟩
  rintro k s' ⟨H, tk, m', i, old, oit, rfl, hc, hd, F', N', hJ, hi, rfl⟩
  have he' : IsEnum H e it ((i : Nat) : Int) old := (N' _ (.head _)).1
  have nE := (N' _ (.head _)).2
  have nI := (N' _ (.tail _ (.head _))).2
  have hit' : H.IsListIter it l i := ⟨oit, (N' _ (.tail _ (.head _))).1, hc, hd⟩
  have Nr : News g L H news := fun q hq => N' q (.tail _ (.tail _ hq))
  have hl' : H.IsList l items := News.isList Nr hl
  cases hv : items[i]? with
  | none =>
    have hsz : i = items.size := Nat.le_antisymm hi (by simpa using hv)
    exact (done m' (hsz ▸ hJ)).elim
  | some v =>
    have hlt : i < items.size := (Array.getElem?_eq_some_iff.mp hv).1
    have heH : e < H.objs.size := Heap.lt_size he'
    refine wpAny_pyNext_enum_item (s := { s with heap := H, toks := tk }) he' hit' hl' hv hei fun h₁ heo hit₁ ht₁ hz₁ hk₁ => ?_
    refine wpAny_mono (wpAny_letOwnedTupleGo_enum (Q := fun _ s' => ∃ h₂, IsEnum h₂ e it ((i : Int) + 1) v ∧ Heap.SameBut e h₁ h₂ ∧ s' = { s with heap := h₂, toks := tk + 1 }) heo fun h₂ he₂ hs₂ => ⟨h₂, he₂, hs₂, rfl⟩) ?_ hEi
    rintro _ _ ⟨h₂, he₂, hs₂, rfl⟩
    have ht₂ : h₂.IsTuple H.objs.size #[.int i tk, v] := ⟨_, (hs₂.2 _ (Nat.ne_of_gt heH)).trans ht₁, rfl, _, rfl⟩
    obtain ⟨oit₁, ho₁, hc₁, hd₁⟩ := hit₁
    have old₂ : ∀ b o, b ≠ e → b ≠ it → H.get? b = some o → h₂.get? b = some o := fun b o h1 h2 x => (hs₂.2 b h1).trans (hk₁ b o h1 h2 x)
    have F₂ : Fr g L h₂ m' := by
      obtain ⟨oL, es, ep, hL, r⟩ := F'.ns
      exact ⟨⟨oL, es, ep, old₂ _ _ (Ne.symm nE.1) (Ne.symm nI.1) hL, r⟩, fun b o x => old₂ b o (fun z => by rw [z, nE.2] at x; cases x) (fun z => by rw [z, nI.2] at x; cases x) (F'.keep b o x), F'.above⟩
    have N₂ : News g L h₂ ((e, enumO it ((i : Int) + 1) v) :: (it, oit₁) :: news) := fun q hq => by
      rcases List.mem_cons.mp hq with rfl | hq
      · exact ⟨he₂, nE⟩
      · rcases List.mem_cons.mp hq with rfl | hq
        · exact ⟨(hs₂.2 _ (Ne.symm hei)).trans ho₁, nI⟩
        · exact ⟨old₂ _ _ (hne q hq) (hni q hq) (Nr q hq).1, (Nr q hq).2⟩
    refine wpAny_assign_Tuple (s := { s with heap := h₂, toks := tk + 1 }) hh ht₂ rfl rfl fun h₃ hx₃ => ?_
    obtain ⟨F₃, N₃⟩ := fr_fresh F₂ N₂ hx₃
    show wpAny _ A (do holding [v] (assign (.Name xi pi) (envOf name scope L a cd) (.int i tk)); do holding [] (assign (.Name xv pv) (envOf name scope L a cd) v); pure ()) _ _ _
    refine wpAny_bind (wpAny_holding (wpAny_assign_Name (stN (s := { s with heap := h₃, toks := tk + 1 }) F₃ N₃ (fun h₄ F₄ N₄ => ?_) hk hxi)))
    refine wpAny_bind (wpAny_holding (wpAny_assign_Name (stN (s := { s with heap := h₄, toks := tk + 1 + 1 }) F₄ N₄ (fun h₅ F₅ N₅ => wpAny_pure ?_) hk hxv)))
    refine wpAny_mono (turn i v tk m' _ oit₁ h₅ (tk + 1 + 1 + 1) hv hJ F₅ N₅) (fun f s₃ h₃ => ?_) hEi
    have hcast : ((i + 1 : Nat) : Int) = (i : Int) + 1 := by push_cast; rfl
    cases f with
    | next =>
      obtain ⟨h₆, tk₆, m₂, rfl, F₆, N₆, hJ₆⟩ := h₃
      exact ⟨items.size + 1 - (i + 1), by omega, h₆, tk₆, m₂, i + 1, v, oit₁, rfl, hc₁, hd₁, F₆, by rw [hcast]; exact N₆, hJ₆, hlt, rfl⟩
    | cont =>
      obtain ⟨h₆, tk₆, m₂, rfl, F₆, N₆, hJ₆⟩ := h₃
      exact ⟨items.size + 1 - (i + 1), by omega, h₆, tk₆, m₂, i + 1, v, oit₁, rfl, hc₁, hd₁, F₆, by rw [hcast]; exact N₆, hJ₆, hlt, rfl⟩
    | brk => exact h₃
    | ret v => exact h₃
end
section
variable {Q : Flow → Shared → Prop} {s s₂ : Shared} {g : Heap} {L e it : Addr} {m : Str → Option Value} {news : List (Addr × Obj)}
theorem EnStep.ret_ {J : Nat → (Str → Option Value) → Prop} {oe oit : Obj} {i : Nat} {v : Value} (h : Q (.ret v) s₂) : EnStep g L e it news J Q s oe oit i (.ret v) s₂ := h
theorem EnStep.nxt {J : Nat → (Str → Option Value) → Prop} {oe oit : Obj} {i : Nat} {h₂ : Heap} {tk₂ : Tok} (F : Fr g L h₂ m) (N : News g L h₂ ((e, oe) :: (it, oit) :: news)) (hJ : J (i + 1) m) : EnStep g L e it news J Q s oe oit i .next { s with heap := h₂, toks := tk₂ } :=
  ⟨h₂, tk₂, m, rfl, F, N, hJ⟩
noncomputable def IxInv (f : It → Bool) (is : List It) (a b : Value) (i : Nat) (m' : Str → Option Value) : Prop :=
  m' (Str.ofString "a") = some a ∧ m' (Str.ofString "b") = some b ∧ ∀ x ∈ is.take i, f x = false
theorem IxInv.nxt {f : It → Bool} {is : List It} {a b : Value} {i : Nat} {m' : Str → Option Value} {k : It} (e1 : m' (Str.ofString "a") = some a) (e2 : m' (Str.ofString "b") = some b) (h : ∀ x ∈ is.take i, f x = false) (hk : is[i]? = some k) (hf : f k = false) : IxInv f is a b (i + 1) m' :=
  ⟨e1, e2, fun x hx => by
    rw [List.take_add_one, hk] at hx
    rcases List.mem_append.mp hx with hx | hx
    · exact h x hx
    · have : x = k := by simpa using hx
      rw [this]; exact hf⟩
theorem ix_find {f : It → Bool} {is : List It} {i : Nat} {k : It} (h : ∀ x ∈ is.take i, f x = false) (hk : is[i]? = some k) (hf : f k = true) : is.findIdx f = i := by
  have hi : i < is.length := (List.getElem?_eq_some_iff.mp hk).1
  have e : is[i] = k := (List.getElem?_eq_some_iff.mp hk).2
  refine (List.findIdx_eq hi).mpr ⟨by rw [e]; exact hf, fun j hj => ?_⟩
  exact h _ (List.mem_take_iff_getElem.mpr ⟨j, by omega, rfl⟩)
theorem ix_none {f : It → Bool} {is : List It} {n : Nat} (h : ∀ x ∈ is.take n, f x = false) (hn : is.length ≤ n) (hex : ∃ x ∈ is, f x = true) : False := by
  obtain ⟨x, hx, hf⟩ := hex
  have := h x (by rw [List.take_of_length_le hn]; exact hx)
  rw [hf] at this; cases this
end
noncomputable def take2 (b : Array UInt8) : Array UInt8 := (b.toList.take 2).toArray
noncomputable def drop1 (b : Array UInt8) : Array UInt8 := (b.toList.drop 1).toArray
noncomputable def toldS (n : Int) (bs bm : Array UInt8) : Array UInt8 := if n = 0 then bs ++ #[97] else if n = 2 then bs ++ take2 bm else if n = 4 then #[40, 63, 33, 41] ++ bs else bs
noncomputable def toldM (n : Int) (bm : Array UInt8) : Array UInt8 := if n = 1 then bm ++ #[92, 46] else if n = 3 then drop1 bm else bm
/-- what the two holes hold behind a deed -/
noncomputable def told (n : Int) (one : Bool) (bs bm : Array UInt8) : Array UInt8 × Array UInt8 :=
  if n = 1 ∨ n = 3 then (if one then toldM n bm else bs, toldM n bm) else (toldS n bs bm, if one then toldS n bs bm else bm)
theorem clip0 (n : Nat) : clipAt n 0 = 0 := (clipAt_nat n 0).trans (Nat.zero_min n)
theorem clip1 (n : Nat) : clipAt n 1 = min 1 n := clipAt_nat n 1
theorem clip2 (n : Nat) : clipAt n 2 = min 2 n := clipAt_nat n 2
theorem picked_take2 (b : Array UInt8) : KBy.picked b none (some 2) = take2 b := by
  rw [KBc.picked_eq]
  show ((b.toList.drop 0).take (clipAt b.size 2 - 0)).toArray = _
  rw [clip2, List.drop_zero, Nat.sub_zero, ← Array.length_toList, ← List.take_take, List.take_length]
  rfl
theorem picked_take2' (b : Array UInt8) : KBy.picked b (some 0) (some 2) = take2 b := by
  rw [KBc.picked_eq]
  show ((b.toList.drop (clipAt b.size 0)).take (clipAt b.size 2 - clipAt b.size 0)).toArray = _
  rw [clip2, clip0, List.drop_zero, Nat.sub_zero, ← Array.length_toList, ← List.take_take, List.take_length]
  rfl
theorem picked_drop1 (b : Array UInt8) : KBy.picked b (some 1) none = drop1 b := by
  rw [KBc.picked_eq]
  show ((b.toList.drop (clipAt b.size 1)).take (b.size - clipAt b.size 1)).toArray = _
  rw [clip1]
  unfold drop1
  congr 1
  cases h : b.toList with
  | nil => simp
  | cons x l =>
    have hs : b.size = l.length + 1 := by rw [← Array.length_toList, h]; rfl
    rw [hs, show min 1 (l.length + 1) = 1 by omega]
    simp
theorem take2_size (b : Array UInt8) : (take2 b).size ≤ 2 := by simp [take2]; omega
theorem take2_le (b : Array UInt8) : (take2 b).size ≤ b.size := by simp [take2]; omega
theorem drop1_size (b : Array UInt8) : (drop1 b).size ≤ b.size := by simp [drop1]
section
variable {prog : Program} {w : World} {A : Around} {E : Value → Shared → Prop} {s : Shared} {value slice : PySem.Expr} {b : Array UInt8} {t ui : Tok} {h₀ : Heap} {L : Addr} {m : PySem.Str → Option Value} {news : List (Addr × Obj)} {Q : Value → Shared → Prop}
theorem slice_t2 (hF : Fr h₀ L s.heap m) (hN : News h₀ L s.heap news) (hz : b.size ≤ 16777216)
    (h : ∀ h' t' k, Fr h₀ L h' m → News h₀ L h' news → Q (.bytes (take2 b) t') { s with heap := h', toks := k })
    (hs : subscripted slice false (.bytes b t) (.ref s.heap.objs.size) = operate [.ref s.heap.objs.size, .bytes b t] (getItem (.bytes b t) (.ref s.heap.objs.size)) := by with_unfolding_all rfl)
    (ht : ∀ r, letTemporaryGo value (.bytes b t) r = pure () := by intro _; with_unfolding_all rfl) :
    wpAny (model prog w) A (subscriptTail value slice (.bytes b t) (.ref s.heap.objs.size)) Q E { s with heap := s.heap.push { cls := .type "slice", data := .fields #[.none, .int 2 ui, .none] } } :=
  KBc.slice_K hF hN rfl (by constructor) (by constructor) (by rw [KBw.ints_length]; exact hz) (fun h' t' k F' N' _ => by rw [picked_take2]; exact h h' t' k F' N') hs ht
theorem slice_d1 (hF : Fr h₀ L s.heap m) (hN : News h₀ L s.heap news) (hz : b.size ≤ 16777216)
    (h : ∀ h' t' k, Fr h₀ L h' m → News h₀ L h' news → Q (.bytes (drop1 b) t') { s with heap := h', toks := k })
    (hs : subscripted slice false (.bytes b t) (.ref s.heap.objs.size) = operate [.ref s.heap.objs.size, .bytes b t] (getItem (.bytes b t) (.ref s.heap.objs.size)) := by with_unfolding_all rfl)
    (ht : ∀ r, letTemporaryGo value (.bytes b t) r = pure () := by intro _; with_unfolding_all rfl) :
    wpAny (model prog w) A (subscriptTail value slice (.bytes b t) (.ref s.heap.objs.size)) Q E { s with heap := s.heap.push { cls := .type "slice", data := .fields #[.int 1 ui, .none, .none] } } :=
  KBc.slice_K hF hN rfl (by constructor) (by constructor) (by rw [KBw.ints_length]; exact hz) (fun h' t' k F' N' _ => by rw [picked_drop1]; exact h h' t' k F' N') hs ht
end
section
variable {M : Model} {A : Around} {E : Value → Shared → Prop} {s : Shared} {env : Env}
theorem C_execs_cons {st : PySem.Stmt} {rest : List PySem.Stmt} {Q : Flow → Shared → Prop} (h : wpC M A (exec st env) (fun f s' => match f with | .next => wpC M A (execs rest env) Q E s' | f => Q f s') E s) : wpC M A (execs (st :: rest) env) Q E s := by
  show wpC M A (exec st env >>= fun f => match f with | .next => execs rest env | f => pure f) Q E s
  refine C_bind (C_mono h (fun f s' hf => ?_) fun _ _ x => x)
  cases f
  · exact hf
  all_goals exact C_pure hf
/-- the first statement is the library's, the rest over clean stacks -/
theorem C_execs_consA {st : PySem.Stmt} {rest : List PySem.Stmt} {Q : Flow → Shared → Prop} (h : wpAny M A (exec st env) (fun f s' => match f with | .next => wpC M A (execs rest env) Q E s' | f => Q f s') E s) : wpC M A (execs (st :: rest) env) Q E s :=
  C_execs_cons (C_any h)
theorem C_Expr {prog : Program} {w : World} {e : PySem.Expr} {pos : Pos} {Q : Flow → Shared → Prop} (h : wpC (model prog w) A (eval e env) (fun _ => Q .next) E s) (hi : interactive env = false := by rfl) (hs : swapsWith e none pos.line env = pure false := by rfl) : wpC (model prog w) A (exec (.Expr e pos) env) Q E s := by
  rw [exec_Expr env e pos hi hs]
  exact C_bindA (wpAny_standAt (C_bind (C_mono h (fun v s' h' => C_any (wpAny_dropValue h')) fun _ _ x => x)))
theorem C_If {test : PySem.Expr} {body orelse : List PySem.Stmt} {pos : Pos} {Q : Flow → Shared → Prop} (h : wpAny M A (isTrue test env (eval test env)) (fun b s₂ => if b = true then wpC M A (execs body env) Q E s₂ else wpC M A (execs orelse env) Q E s₂) E s) :
    wpC M A (exec (.If test body orelse pos) env) Q E s := by
  rw [exec_If]
  refine C_bindA (wpAny_standAt (C_bindA (wpAny_mono h (fun b s₂ h₂ => ?_) fun _ _ x => x)))
  cases b
  · simpa using h₂
  · simpa using h₂
theorem C_AugAssign_Name {x : Str} {pos' pos : Pos} {op : Operator} {value : PySem.Expr} {Q : Flow → Shared → Prop}
    (h : wpAny M A (loadName env x) (fun old s₁ => wpAny M A (eval value env) (fun v s₂ => wpC M A (inplaceOp op old v)
      (fun r s₃ => wpAny M A (storeName env x r) (fun _ => Q .next) E s₃) E s₂) E s₁) E s) :
    wpC M A (exec (.AugAssign (.Name x pos') op value pos) env) Q E s := fun Γ p hΓ hc => by
  simp only [exec_AugAssign_Name, Sem.wp_bind', Sem.wp_holding, Sem.wp_cmd_standAt, Sem.wp_operate, Sem.wp_bindName, Sem.wp_pure']
  exact Sem.wp_mono M Γ _ (fun old p₁ s₁ h₁ => Sem.wp_mono M Γ _ (fun v _ s₂ h₂ => Sem.wp_mono M Γ _ (fun r _ s₃ h₃ => h₃ Γ _ hΓ)
    (fun _ _ _ h' => h') _ _ (h₂ Γ _ hΓ hc)) (fun _ _ _ h' => h') _ _ (h₁ Γ p₁ hΓ)) (fun _ _ _ h' => h') _ _ (h Γ _ hΓ)
theorem C_Assign_Subscript {o i value : PySem.Expr} {pos' pos : Pos} {Q : Flow → Shared → Prop}
    (h : wpAny M A (eval value env) (fun v s₁ => wpAny M A (eval o env) (fun ov s₂ => wpAny M A (eval i env) (fun iv s₃ =>
      wpC M A (setItem ov iv v) (fun _ => Q .next) E s₃) E s₂) E s₁) E s)
    (hs : swapsWith value (some (.Subscript o i pos')) pos.line env = pure false := by rfl) :
    wpC M A (exec (.Assign [.Subscript o i pos'] value pos) env) Q E s := fun Γ p hΓ hc => by
  simp only [exec_Assign_Subscript o i pos' value pos hs, assign_Subscript, Sem.wp_bind', Sem.wp_holding, Sem.wp_cmd_standAt, Sem.wp_release, Sem.wp_pure']
  exact Sem.wp_mono M Γ _ (fun v p₁ s₁ h₁ => Sem.wp_mono M Γ _ (fun ov p₂ s₂ h₂ => Sem.wp_mono M Γ _ (fun iv _ s₃ h₃ => h₃ Γ _ hΓ hc)
    (fun _ _ _ h' => h') _ _ (h₂ Γ p₂ hΓ)) (fun _ _ _ h' => h') _ _ (h₁ Γ p₁ hΓ)) (fun _ _ _ h' => h') _ _ (h Γ _ hΓ)
theorem C_Delete_Subscript {o i : PySem.Expr} {pos' pos : Pos} {Q : Flow → Shared → Prop}
    (h : wpAny M A (eval o env) (fun ov s₁ => wpAny M A (eval i env) (fun iv s₂ => wpC M A (delItem ov iv) (fun _ => Q .next) E s₂) E s₁) E s) :
    wpC M A (exec (.Delete [.Subscript o i pos'] pos) env) Q E s := fun Γ p hΓ hc => by
  simp only [arm_exec_Delete, arm_deleteEach_cons, arm_deleteEach_nil, arm_delete_Subscript, Sem.wp_bind', Sem.wp_holding, Sem.wp_cmd_standAt, Sem.wp_release, Sem.wp_pure']
  exact Sem.wp_mono M Γ _ (fun ov p₁ s₁ h₁ => Sem.wp_mono M Γ _ (fun iv _ s₂ h₂ => h₂ Γ _ hΓ hc) (fun _ _ _ h' => h') _ _ (h₁ Γ p₁ hΓ)) (fun _ _ _ h' => h') _ _ (h Γ _ hΓ)
/-- a pair at which the walk stops -/
structure CKeep (P R : Prop) : Prop where
  one : P
  two : R
noncomputable abbrev FnAt (a : Addr) (h : Heap) : Prop := ∃ (o : Obj) (fd : FuncData), h.get? a = some o ∧ o.data = .func fd
theorem C_callWith {pos : Pos} {a : Addr} {args : List (Bool × Sem Value)} {Q : Value → Shared → Prop} (hpl : args.any (·.1) = false)
    (h : wpAny M A (evalArgs (.ref a) true args []) (fun x s₁ => CKeep (FnAt a s₁.heap) (wpC M A (call (.ref a) x.pos x.kw) Q E s₁)) E s) :
    wpC M A (callWith pos (.ref a) [] args []) Q E s := by
  unfold callWith
  refine C_bindA (wpAny_holding (wpAny_mono h (fun x s₁ h₁ => C_bindA (wpAny_standAt ?_)) fun _ _ x => x))
  obtain ⟨⟨o, fd, ho, hfd⟩, h₁⟩ := h₁
  have tail : ∀ {t : Sem Value}, wpC M A t Q E s₁ → wpC M A (t >>= fun r => holding [r] point >>= fun _ => pure r) Q E s₁ :=
    fun ht => C_bind (C_mono ht (fun r s₂ hr => C_any (wpAny_bind (wpAny_holding (wpAny_point (wpAny_pure hr))))) fun _ _ x => x)
  simp only [hpl, List.any_nil, Bool.or_false]
  refine C_bindA (m := keeperOf (.ref a)) ?_
  unfold keeperOf
  refine wpAny_bind (wpAny_load ho ?_)
  rw [hfd]
  refine wpAny_pure ?_
  dsimp only
  split
  · exact tail h₁
  · exact tail (by unfold callMarked; exact C_keep h₁)
theorem C_Call_Name {id : Str} {pn pos : Pos} {e : PySem.Expr} {rest : List PySem.Expr} {a : Addr} {Q : Value → Shared → Prop}
    (h : wpAny M A (eval (.Name id pn) env) (fun f s₁ => CKeep (f = .ref a) (wpAny M A (spliced (backTo pos (starEach (e :: rest) env))) (fun vs s₂ => CKeep (FnAt a s₂.heap) (wpC M A (call (.ref a) vs []) Q E s₂)) E s₁)) E s)
    (he : starEach (e :: rest) env = (false, eval e env) :: starEach rest env := by rfl) (hplain : (backTo pos (starEach rest env)).any (·.1) = false := by rfl) :
    wpC M A (eval (.Call (.Name id pn) (e :: rest) [] pos) env) Q E s := by
  rw [arm_eval_Call_Name']
  refine C_bindA (wpAny_mono h (fun f s₁ h₁ => ?_) fun _ _ x => x)
  obtain ⟨rfl, h₁⟩ := h₁
  rw [he] at h₁ ⊢
  exact C_callWith (by show (false || (backTo pos (starEach rest env)).any (·.1)) = false; rw [hplain]; rfl) (PySem.Calls.evalArgs_plain h₁)
end
section
variable {prog : Program} {w : World} {A A₀ : Around} {s : Shared} {E : Value → Shared → Prop}
theorem codeC_call_def {R : Result → Shared → Prop} {a : Addr} {o : Obj} {fd : FuncData} {body : List PySem.Stmt} {args : Args} {binds : List (Str × Value)}
    (hroom : A.depth < recursionLimit) (ho : s.heap.get? a = some o) (hdata : o.data = .func fd) (hlim : s.heap.NoLimit) (hcd : s.heap.CodeRec fd.code fd.qualname)
    (hbody : fd.body = .stmts body) (hbind : BindsTo s fd args binds)
    (hcell : ∀ x ∈ fd.scope.names, x.2 ≠ .cell) (hloc : ∀ x ∈ binds, fd.scope.names.lookup x.1 = some .local)
    (h : ∀ h₀, h₀.Ns s.heap.objs.size (fun x => binds.reverse.lookup x) → (∀ b o, s.heap.get? b = some o → h₀.get? b = some o) →
      wpC (model prog w) (A.deeper (callEnv fd s.heap.objs.size a)) (execs body (callEnv fd s.heap.objs.size a)) (fun f s' => R (.ok (.ret (match f with | .ret v => v | _ => .none))) s')
        (fun e s' => wpAny (model prog w) (A.deeper (callEnv fd s.heap.objs.size a)) (leaving (callEnv fd s.heap.objs.size a) e) (fun _ s'' => R (.error e) s'') (fun e' s'' => R (.error e') s'') s')
        { s with heap := h₀, toks := s.toks + binds.length })
    (hco : fd.scope.isCoroutine = false := by rfl) (hgen : fd.scope.isGenerator = false := by rfl) (hk : fd.scope.kind = .function := by rfl) :
    codeC (model prog w) A (.call (.ref a) args) R s := by
  refine codeC_call_function hroom ho hdata hco hgen hbody hcd (hbind _ _ _ _ ?_)
  refine wpAny_newFunctionEnv hcell hloc (fun h₀ hns₀ hsb₀ => ⟨hlim.fresh _ hsb₀, codeC_func (h h₀ hns₀ fun b o e => ?_)⟩) hk
  exact hsb₀.extBut b o (Nat.ne_of_lt (Heap.lt_size e)) (Heap.get?_push_of_some _ e)
variable {base h₀ : Heap} {outer : List Env} {L : Addr} {m mg mb : Str → Option Value} {env : Env} {news : List (Addr × Obj)} {K : Frag} {p : Program} {loose : List Str} {mean : ExcName → Option Value}
  {R : Result → Shared → Prop} {name qual : Str} {params : Arguments} {body : List PySem.Stmt} {scope : Scope} {cl : List (Str × Addr)} {dV kV doc pm cdv ct oc : Value} {an od : Option Addr} {osl : Array (Option Value)} {fo : Obj} {f : Addr} {args : Args} {binds : List (Str × Value)}
theorem C_callX (B : Below A₀ base outer h₀) (F : Fr h₀ L s.heap m) (N : News h₀ L s.heap news) (hlim : h₀.NoLimit) (hA : A.frames = some (env :: outer)) (hf : env.frame = some L) (hke : env.scope.kind = .function)
    (ho : s.heap.get? f = some fo) (hd : fo.data = .func (fnX name qual params body scope cl dV kV doc pm an cdv ct)) (hcd : s.heap.CodeRec cdv qual) (hroom : A.depth < recursionLimit)
    (hbind : BindsTo s (fnX name qual params body scope cl dV kV doc pm an cdv ct) args binds) (hloc : ∀ y ∈ binds, scope.names.lookup y.1 = some .local)
    (h : ∀ g L' h₁, Fr h₀ L g m → Fr g L' h₁ (fun y => binds.reverse.lookup y) → News g L' h₁ news → Below A base (env :: outer) g → h₀.StaysIn g → (∀ p ∈ news, p.1 < L') →
      wpC (model prog w) (A.deeper (envX qual scope L' f cdv cl)) (execs body (envX qual scope L' f cdv cl))
        (fun fl s' => LeaveK h₀ L m g R (match fl with | .ret v => v | _ => .none) s')
        (fun e s' => wpAny (model prog w) (A.deeper (envX qual scope L' f cdv cl)) (leaving (envX qual scope L' f cdv cl) e) (fun _ s'' => R (.error e) s'') (fun e' s'' => R (.error e') s'') s')
        { s with heap := h₁, toks := s.toks + binds.length })
    (hcell : ∀ x ∈ scope.names, x.2 ≠ .cell) (hco : scope.isCoroutine = false := by rfl) (hgen : scope.isGenerator = false := by rfl) (hk : scope.kind = .function := by rfl) : codeC (model prog w) A (.call (.ref f) args) R s := by
  obtain ⟨FG, BG, st, lv⟩ := groundX (R := R) B F N hA hf hke
  refine codeC_call_def (fd := fnX name qual params body scope cl dV kV doc pm an cdv ct) (body := body) (binds := binds) hroom ho hd (hlim.keeps F.keep) hcd rfl hbind hcell hloc (fun h₁ hns hk₁ => ?_) hco hgen hk
  exact C_mono (h _ s.heap.objs.size h₁ FG ⟨hns, fun b o e => hk₁ b o (of_hideAll _ e), Nat.le_of_eq (hideAll_size _ _)⟩
    (fun p hp => ⟨hk₁ _ _ (N p hp).1, Nat.ne_of_lt (Heap.lt_size (N p hp).1), hideAll_none _ (List.mem_map_of_mem hp)⟩) BG st (fun p hp => Heap.lt_size (N p hp).1)) (fun fl s' hl => lv _ _ hl) fun _ _ y => y
theorem C_def (B : Below A₀ base outer h₀) (F : Fr h₀ L s.heap m) (X₀ : K.In h₀) (N : News h₀ L s.heap news) (T : Top p loose mean mg mb h₀) (hA : A.frames = some (env :: outer)) (hf : env.frame = some L) (hke : env.scope.kind = .function)
    (ho : K.lookup f = some ⟨oc, od, .func (fnOf name qual params body scope dV kV doc pm an cdv ct), osl⟩) (hcd : codeIn K cdv qual = true) (hroom : A.depth < recursionLimit)
    (hbind : BindsTo s (fnOf name qual params body scope dV kV doc pm an cdv ct) args binds) (hloc : ∀ y ∈ binds, scope.names.lookup y.1 = some .local)
    (h : ∀ g L' h₁, Fr h₀ L g m → Fr g L' h₁ (fun y => binds.reverse.lookup y) → News g L' h₁ news → Below A base (env :: outer) g → K.In g → Top p loose mean mg mb g →
      wpC (model prog w) (A.deeper (envOf qual scope L' f cdv)) (execs body (envOf qual scope L' f cdv))
        (fun fl s' => LeaveK h₀ L m g R (match fl with | .ret v => v | _ => .none) s')
        (fun e s' => wpAny (model prog w) (A.deeper (envOf qual scope L' f cdv)) (leaving (envOf qual scope L' f cdv) e) (fun _ s'' => R (.error e) s'') (fun e' s'' => R (.error e') s'') s')
        { s with heap := h₁, toks := s.toks + binds.length })
    (hco : scope.isCoroutine = false) (hgen : scope.isGenerator = false) (hk : scope.kind = .function)
    (hcell : ∀ x ∈ scope.names, x.2 ≠ .cell) : codeC (model prog w) A (.call (.ref f) args) R s :=
  C_callX (cl := []) B F N T.nolimit hA hf hke ((X₀.keeps F.keep) _ _ ho) rfl (codeRec_of (X₀.keeps F.keep) hcd) hroom hbind hloc (fun g L' h₁ FG F' N' B' st _ => h g L' h₁ FG F' N' B' (X₀.keeps st) (T.keeps st)) hcell hco hgen hk
theorem codeC_loop {M : Model} {c : Code} (hcl : holder c = false) (hq : c.quiet = true) (I : Nat → Shared → Prop)
    (turn : ∀ n s, I n s → wpC M (A.under c) (M.den c)
      (fun fin s' => match fin with
        | .done f => R (.ok f) s'
        | .again c' => (c' = c ∧ ∃ m, m < n ∧ I m s') ∨ (c'.quiet = true ∧ codeC M A c' R s')) (fun e s' => R (.error e) s') s)
    (n : Nat) (h : I n s) : codeC M A c R s := by
  induction n using Nat.strongRecOn generalizing s with
  | ind n ih =>
    refine codeC_tree hcl (C_mono (turn n s h) (fun fin s' hf => ?_) fun _ _ h' => h')
    cases fin with
    | done f => exact hf
    | again c' =>
      rcases hf with ⟨rfl, m, hm, hI⟩ | hf
      · exact ⟨hq, ih m hm hI⟩
      · exact hf
noncomputable abbrev NoE : Value → Shared → Prop := fun _ _ => False
theorem C_forLoop {target it} {body : List PySem.Stmt} (I : Nat → Shared → Prop)
    (turn : ∀ n s, I n s → wpAny (model prog w) A (pyNext it) (fun r s₁ => match r with
      | none => R (.ok .next) s₁
      | some v => wpAny (model prog w) A (letOwnedTupleGo target it v) (fun _ s₁' =>
          wpAny (model prog w) A (assign target env v) (fun _ s₂ => wpC (model prog w) A (execs body env) (fun f s₃ => match f with
            | .next | .cont => ∃ m, m < n ∧ I m s₃
            | .brk => R (.ok .next) s₃
            | .ret v => R (.ok (.ret v)) s₃) NoE s₂) NoE s₁') NoE s₁) NoE s)
    (n : Nat) (h : I n s) : codeC (model prog w) A (.forLoop target it body [] env) R s := by
  refine codeC_loop rfl rfl I (fun n s hI => ?_) n h
  show wpC _ A ((forTurn target it body [] env).onRaise (fun x => do noteFrame x env; theTreesLotGoes x)) _ _ s
  refine C_onRaise (C_mono (E := NoE) ?_ (fun _ _ x => x) fun _ _ x => x.elim)
  simp only [forTurn]
  refine C_bindA (wpAny_standAt (C_bind (C_onRaise (C_mono (C_any (turn n s hI)) (fun r s₁ h₁ => ?_) fun _ _ h' => h'.elim))))
  cases r with
  | none => exact C_pure (.inr ⟨rfl, codeC_any (codeAny_block (wpAny_execs_nil h₁))⟩)
  | some v =>
    refine C_bindA (wpAny_mono h₁ (fun _ s₁' h₁' => ?_) fun _ _ h' => h')
    refine C_bindA (wpAny_mono h₁' (fun _ s₂ h₂ => C_bind (C_mono h₂ (fun f s₃ h₃ => ?_) fun _ _ h' => h')) fun _ _ h' => h')
    cases f with
    | next => exact C_pure (.inl ⟨rfl, h₃⟩)
    | cont => exact C_pure (.inl ⟨rfl, h₃⟩)
    | brk => exact C_pure h₃
    | ret v => exact C_pure h₃
theorem C_For {target iter pos} {body : List PySem.Stmt} {Q : Flow → Shared → Prop}
    (h : wpAny (model prog w) A (eval iter env) (fun x s₁ => wpAny (model prog w) A (pyIter x) (fun it s₂ =>
      codeC (model prog w) A (.forLoop target it body [] env) (fun r s' => match r with | .ok f => Q f s' | .error _ => False) s₂) NoE s₁) NoE s)
    (hs : ∀ x, foldedSetIterable iter env x = pure x := by intro _; rfl) :
    wpC (model prog w) A (exec (.For target iter body [] pos) env) Q NoE s := by
  rw [exec_For]
  refine C_bindA (wpAny_standAt (C_bindA (wpAny_mono h (fun x s₁ h₁ => C_bindA (wpAny_of_eq (hs x) (C_bindA (wpAny_standAt (C_bindA (wpAny_holding
    (wpAny_mono h₁ (fun it s₂ h₂ => ?_) fun _ _ h' => h'))))))) fun _ _ h' => h')))
  refine C_onRaise (C_mono (C_run h₂ (by intro x; cases x)) (fun _ _ x => x) fun _ _ x => x.elim)
end
section
variable {prog : Program} {w : World} {A : Around} {Q : Flow → Shared → Prop} {s : Shared} {g : Heap} {L a : Addr} {m : Str → Option Value} {name : Str} {scope : Scope} {cd : Value} {cl : List (Str × Addr)} {news : List (Addr × Obj)}
theorem C_for_list {x : Str} {px : Pos} {body : List PySem.Stmt} {l : Addr} {items : Array Value} {nl : Nat} (J : Nat → Heap → (Str → Option Value) → List (Addr × Obj) → Prop)
    (hh : A.handled = none) (F : Fr g L s.heap m) (N : News g L s.heap news) (G : AllBare s.gens) (hl : (l, listOf items nl) ∈ news) (h0 : J 0 g m news)
    (turn : ∀ i v it oit g₁ m₁ news₁ h₁ gs dr tk, items[i]? = some v → J i g₁ m₁ news₁ → AllBare gs → Fr g₁ L h₁ (fun y => if y = x then some v else m₁ y) → News g₁ L h₁ ((it, oit) :: news₁) → (l, listOf items nl) ∈ news₁ → (∀ q ∈ news₁, q.1 ≠ it) →
      wpC (model prog w) A (execs body (envX name scope L a cd cl)) (ForStep L s.os J l (listOf items nl) Q it oit i) NoE ⟨h₁, gs, dr, tk, s.os⟩)
    (done : ∀ g' m' news' h' gs dr tk, J items.size g' m' news' → AllBare gs → Fr g' L h' m' → News g' L h' news' → Q .next ⟨h', gs, dr, tk, s.os⟩)
    (hk : scope.kind = .function := by rfl) (hx : (envX name scope L a cd cl).kindOf x = some .local := by rfl) :
    wpAny (model prog w) A (pyIter (.ref l)) (fun it s₂ => codeC (model prog w) A (.forLoop (.Name x px) it body [] (envX name scope L a cd cl))
      (fun r s' => match r with | .ok f => Q f s' | .error _ => False) s₂) NoE s := by
  have hli : s.heap.IsList l items := News.isList N hl
  refine wpAny_pyIter_list hli ?_
  have hlt : ∀ q ∈ news, q.1 ≠ s.heap.objs.size := fun q hq => Nat.ne_of_lt (Heap.lt_size (N q hq).1)
  refine C_forLoop (fun k s' => ∃ i oit g₁ m₁ news₁, k = items.size + 1 - i ∧ i ≤ items.size ∧ oit.cls = .type "list_iterator" ∧ oit.data = .fields #[.ref l, .int i 0] ∧ s'.os = s.os ∧ AllBare s'.gens ∧
      Fr g₁ L s'.heap m₁ ∧ News g₁ L s'.heap ((s.heap.objs.size, oit) :: news₁) ∧ (l, listOf items nl) ∈ news₁ ∧ (∀ q ∈ news₁, q.1 ≠ s.heap.objs.size) ∧ J i g₁ m₁ news₁) ?_ (items.size + 1)
    ⟨0, _, g, m, news, rfl, Nat.zero_le _, rfl, rfl, rfl, G, F.push _, News.push F N _, hl, hlt, h0⟩
  rintro k s₁ ⟨i, oit, g₁, m₁, news₁, rfl, hi, hc, hd, ho, G₁, F₁, N₁, hl₁, hn₁, hJ⟩
  obtain ⟨h₁, gs, dr, tk, os⟩ := s₁
  obtain rfl : os = s.os := ho
  have hit : h₁.IsListIter s.heap.objs.size l i := ⟨oit, (N₁ _ (.head _)).1, hc, hd⟩
  have hl1 : h₁.IsList l items := News.isList N₁ (.tail _ hl₁)
  have nit := (N₁ _ (.head _)).2
  have N₁' : News g₁ L h₁ news₁ := fun q hq => N₁ q (.tail _ hq)
  cases hv : items[i]? with
  | none =>
    have hsz : i = items.size := Nat.le_antisymm hi (by simpa using hv)
    refine wpAny_pyNext_list_end (s := ⟨h₁, gs, dr, tk, s.os⟩) hh hit hl1 hv fun h₂ he => ?_
    subst hsz
    exact done g₁ m₁ news₁ h₂ gs dr tk hJ G₁ (fr_off F₁ nit.1 nit.2 he) (news_off N₁' hn₁ he)
  | some v =>
    have hlt2 : i < items.size := (Array.getElem?_eq_some_iff.mp hv).1
    refine wpAny_pyNext_list_item (s := ⟨h₁, gs, dr, tk, s.os⟩) hit hl1 hv fun h₂ hit₂ hs₂ => ?_
    obtain ⟨oit₂, ho₂, hc₂, hd₂⟩ := hit₂
    have F₂ := F₁.change hs₂ nit.1 nit.2
    have N₂ : News g₁ L h₂ ((s.heap.objs.size, oit₂) :: news₁) := fun q hq => by
      rcases List.mem_cons.mp hq with rfl | hq
      · exact ⟨ho₂, nit⟩
      · exact ⟨(hs₂.2 _ (hn₁ q hq)).trans (N₁' q hq).1, (N₁' q hq).2⟩
    refine wpAny_mono (E := NoE) (wpAny_pure (a := ()) (Q := fun _ s' => s' = ⟨h₂, gs, dr, tk, s.os⟩) rfl) (fun _ s' hs' => ?_) fun _ _ x => x.elim
    subst hs'
    refine wpAny_assign_Name (storeX_L F₂ N₂ (fun h₃ F₃ N₃ => ?_) hk hx)
    refine C_mono (turn i v _ oit₂ g₁ m₁ news₁ h₃ gs dr (tk + 1) hv hJ G₁ F₃ N₃ hl₁ hn₁) (fun f s₃ h₃ => ?_) fun _ _ x => x.elim
    cases f with
    | next =>
      obtain ⟨q1, q2, g₂, m₂, news₂, q3, q4, q5, q6, q7⟩ := h₃
      refine ⟨items.size + 1 - (i + 1), by omega, i + 1, oit₂, g₂, m₂, news₂, rfl, hlt2, hc₂, ?_, q1, q2, q3, q4, q5, q6, q7⟩
      rw [hd₂]
    | cont =>
      obtain ⟨q1, q2, g₂, m₂, news₂, q3, q4, q5, q6, q7⟩ := h₃
      refine ⟨items.size + 1 - (i + 1), by omega, i + 1, oit₂, g₂, m₂, news₂, rfl, hlt2, hc₂, ?_, q1, q2, q3, q4, q5, q6, q7⟩
      rw [hd₂]
    | brk => exact h₃
    | ret v => exact h₃
end
section
variable {prog : Program} {w : World} {A : Around} {E : Value → Shared → Prop} {s : Shared}
theorem C_call_entry {T : String} {name : Str} {id : String} {b : Builtin} {self : Value} {rest : List Value} {Q : Value → Shared → Prop} (h : Slot T name id) (hT : s.TypeIs self T)
    (hb : entryFor table id = some b) (hcl : holdIds.contains id = false) (ha : argsOk id ⟨self :: rest, []⟩)
    (hc : wpC (model prog w) A.in1 (b ⟨self :: rest, []⟩) (fun fin s' => ∃ v, fin = .done (.ret v) ∧ Q v s') E s) :
    wpC (model prog w) A (call (.builtin id) (self :: rest)) Q E s := by
  refine C_call (codeC_tree rfl (C_any ?_))
  show wpAny _ A.in1 (callAny (.builtin id) ⟨self :: rest, []⟩) _ _ s
  simp only [callAny]
  refine wpAny_bind (h.check _ _ _ _ _ _ _ _ hT ha ?_)
  refine wpAny_pure ⟨plainId_quiet h.plain _, codeC_tree hcl ?_⟩
  show wpC _ _ (match entryFor table id with | some b => b ⟨self :: rest, []⟩ | none => unsupported ((withoutEnding? id "#data").getD id)) _ _ s
  rw [hb, Around.under_plainId h.plain]
  refine C_mono hc (fun fin s' h' => ?_) fun _ _ x => x
  obtain ⟨v, rfl, hv⟩ := h'
  exact hv
theorem C_callSpecial {self : Value} {T : String} {name : Str} {id : String} {args : List Value} {kw : List (Str × Value)}
    {Q : Option Value → Shared → Prop} (hT : s.TypeIs self T) (h : Slot T name id)
    (hc : wpC (model prog w) A (call (.builtin id) (self :: args) kw) (fun v => Q (some v)) E s) : wpC (model prog w) A (callSpecial? self name args kw) Q E s := by
  simp only [callSpecial?]
  refine C_bindA (wpAny_specialOf hT h.lookup ?_)
  simp only [h.bind]
  exact C_holding (C_bindA (wpAny_pure (C_bind (C_mono hc (fun v s' h' => C_pure h') fun _ _ h' => h'))))
theorem C_exported {self : Value} {Q : Bool → Shared → Prop} (h : Q false s) : wpC (model prog w) A (Builtin.Bytes.exported self) Q E s := by
  unfold Builtin.Bytes.exported
  refine C_stack (fun c p hc => ?_) h
  cases c with
  | builtin id args =>
    simp only [holder, holdIds, List.contains_eq_mem, decide_eq_false_iff_not, List.mem_append, not_or] at hc
    obtain ⟨h1, h2⟩ := hc
    simp only [List.mem_cons, not_or] at h1
    cases args with | mk pos kw =>
    delta Builtin.Bytes.exported.match_1
    dsimp only
    show dite (id = "bytearray.__contains__") _ _ = false
    rw [dif_neg h1.1, dif_neg h1.2.1, dif_neg h1.2.2.1, dif_neg h1.2.2.2.1, dif_neg h1.2.2.2.2.1]
    cases pos with
    | nil => rfl
    | cons v vs =>
      show (Builtin.Bytes.sameRef v self && Builtin.Bytes.decodersThatHold.contains id) = false
      rw [List.contains_eq_mem, decide_eq_false h2, Bool.and_false]
  | _ => rfl
theorem C_noExport {a : Addr} {b : Array UInt8} {Q : Bool → Shared → Prop} (ha : s.heap.get? a = some (baObj b)) (h : Q false s) :
    wpC (model prog w) A (Builtin.Bytes.exported (.ref a) <||> (do return (← Builtin.Bytes.exportsOf (.ref a)) > 0)) Q E s := by
  refine C_bind (C_exported ?_)
  refine C_any ?_
  refine wpAny_bind (m := Builtin.Bytes.exportsOf (.ref a)) ?_
  unfold Builtin.Bytes.exportsOf
  refine wpAny_bind (wpAny_load ha (wpAny_pure (wpAny_pure ?_)))
  exact h
theorem C_checkResize {a : Addr} {b : Array UInt8} {Q : Unit → Shared → Prop} (ha : s.heap.get? a = some (baObj b)) (h : Q () s) : wpC (model prog w) A (Builtin.Bytes.checkResize (.ref a)) Q E s := by
  unfold Builtin.Bytes.checkResize
  refine C_bind (C_noExport ha ?_)
  exact C_pure h
/-- the heap with other octets in the bytearray a -/
noncomputable abbrev wr (s : Shared) (a : Addr) (f : Array UInt8 → Array UInt8) : Shared := { s with heap := s.heap.update a (Obj.mapBytearray f) }
theorem ba_write {a : Addr} {b : Array UInt8} {f : Array UInt8 → Array UInt8} {Q : Unit → Shared → Prop} (ha : s.heap.get? a = some (baObj b)) (hz : (f b).size ≤ sizeLine) (h : Q () (wr s a f)) :
    wpAny (model prog w) A (Builtin.Bytes.write (.ref a) f) Q E s := by
  show wpAny _ _ (updateBytearray a f) _ _ s
  unfold updateBytearray
  refine wpAny_bind (wpAny_load ha ?_)
  dsimp only
  refine wpAny_bind (wpAny_update ha ?_)
  refine wpAny_lookBehind (o := baObj (f b)) (Heap.get?_update_self _ ha rfl) ?_ h
  show (if (f b).size > sizeLine then _ else _) = none
  rw [if_neg (by omega)]
theorem ba_payload {a : Addr} {b : Array UInt8} {Q : Array UInt8 → Shared → Prop} (ha : s.heap.get? a = some (baObj b)) (h : Q b s) : wpAny (model prog w) A (Builtin.Bytes.payload (.ref a)) Q E s := by
  unfold Builtin.Bytes.payload Builtin.Bytes.payload?
  exact wpAny_bind (wpAny_bind (wpAny_load ha (wpAny_pure (wpAny_pure h))))
end
section
variable {s : Shared} {h₀ : Heap} {L : Addr} {m : Str → Option Value} {news : List (Addr × Obj)}
/-- a holds other octets, the rest is kept -/
noncomputable def Wrote (a : Addr) (b : Array UInt8) (s s' : Shared) : Prop := ∃ h tk, s' = { s with heap := h, toks := tk } ∧ h.get? a = some (baObj b) ∧ Heap.ExtBut a s.heap h
theorem Wrote.of {a : Addr} {b : Array UInt8} {f : Array UInt8 → Array UInt8} {s' : Shared} (ha : s.heap.get? a = some (baObj b)) (k : Keeps s s') : Wrote a (f b) s (wr s' a f) := by
  obtain ⟨h', t', rfl, kk⟩ := k
  exact ⟨_, t', rfl, Heap.get?_update_self _ (kk _ _ ha) rfl, fun c o hc e => ((Heap.SameBut.update ..).2 c hc).trans (kk _ _ e)⟩
theorem Wrote.trans {a : Addr} {b c : Array UInt8} {s' s'' : Shared} (x : Wrote a b s s') (y : Wrote a c s' s'') : Wrote a c s s'' := by
  obtain ⟨h1, t1, rfl, _, k1⟩ := x
  obtain ⟨h2, t2, rfl, e2, k2⟩ := y
  exact ⟨h2, t2, rfl, e2, fun c o hc e => k2 c o hc (k1 c o hc e)⟩
/-- the ledger behind a write -/
theorem Wrote.after {a : Addr} {b c : Array UInt8} {P : Shared → Prop} (F : Fr h₀ L s.heap m) (N : News h₀ L s.heap ((a, baObj b) :: news)) (hne : ∀ q ∈ news, q.1 ≠ a)
    (h : ∀ h' tk, Fr h₀ L h' m → News h₀ L h' ((a, baObj c) :: news) → P { s with heap := h', toks := tk }) : ∀ s', Wrote a c s s' → P s' := by
  rintro s' ⟨h', tk, rfl, e, k⟩
  have n := N _ (.head _)
  refine h h' tk (fr_off F n.2.1 n.2.2 k) fun q hq => ?_
  rcases List.mem_cons.mp hq with rfl | hq
  · exact ⟨e, n.2⟩
  · exact ⟨k _ _ (hne q hq) (N q (.tail _ hq)).1, (N q (.tail _ hq)).2⟩
end
section
variable {prog : Program} {w : World} {A : Around} {E : Value → Shared → Prop} {s : Shared}
theorem owner_ba : Manifest.owners.lookup (String.ofList ['y', 'a', 'r', 'r', 'a', 'e', 't', 'y', 'b'].reverse) = some Manifest.sig_bytearray := by kernel_rfl
theorem slot_ba_iadd : Slot "bytearray" "__iadd__" "bytearray.__iadd__" := .of (owner := "bytearray") (n := "__iadd__") (by rw [typeLookup_type, builtinLookup_eq_fast]; kernel_rfl) (by decide +kernel) (by decide +kernel) (by decide +kernel)
    (by first | exact .inl (by decide +kernel) | exact .inr (by decide +kernel)) (by rw [isSubtype_type]; kernel_rfl)
theorem entry_ba_iadd : entryFor table "bytearray.__iadd__" = some Builtin.«bytearray.__iadd__» := entryFor_of_tree (by kernel_rfl)
theorem args_ba_iadd (a b : Value) : argsOk "bytearray.__iadd__" ⟨[a, b], []⟩ := by
  unfold argsOk; rw [signature?_of (id := "bytearray.__iadd__") (n := ['_', '_', 'd', 'd', 'a', 'i', '_', '_']) (o := ['y', 'a', 'r', 'r', 'a', 'e', 't', 'y', 'b']) (by kernel_rfl) owner_ba]; kernel_rfl
theorem tryN_ba_b {a : Addr} {x b : Array UInt8} {t : Tok} {Q : Option Value → Shared → Prop} (ha : s.heap.get? a = some (baObj b)) (h : ∀ s', Keeps s s' → Q none s') :
    wpAny (model prog w) A (binaryOp1 "add" (.ref a) (.bytes x t)) Q E s := by
  refine byText (P := fun w => wpAny (model prog w) A (binaryOp1 "add" (.ref a) (.bytes x t)) Q E s) w ?_ ?_
  · exact ev_treeK (PySem.W.ZFast.zw8789902822319141651 "add" (.ref a) (.bytes x t)) 60 [(a, baObj b)] [0] (by rw [← PySem.W.ZFast.ze8789902822319141651]) (v := none) (by kernel_rfl) (by kernel_rfl) (ro1 ha) h
  · exact ev_treeK (PySem.W.ZFast.zw8789902822319141651 "add" (.ref a) (.bytes x t)) 60 [(a, baObj b)] [0] (by rw [← PySem.W.ZFast.ze8789902822319141651]) (v := none) (by kernel_rfl) (by kernel_rfl) (ro1 ha) h
theorem tryN_ba_ba {a a' : Addr} {c b : Array UInt8} {Q : Option Value → Shared → Prop} (ha : s.heap.get? a = some (baObj b)) (ha' : s.heap.get? a' = some (baObj c)) (h : ∀ s', Keeps s s' → Q none s') :
    wpAny (model prog w) A (binaryOp1 "add" (.ref a) (.ref a')) Q E s := by
  refine byText (P := fun w => wpAny (model prog w) A (binaryOp1 "add" (.ref a) (.ref a')) Q E s) w ?_ ?_
  · exact ev_treeK (PySem.W.ZFast.zw8789902822319141651 "add" (.ref a) (.ref a')) 60 [(a, baObj b), (a', baObj c)] [0, 2] (by rw [← PySem.W.ZFast.ze8789902822319141651]) (v := none) (by kernel_rfl) (by kernel_rfl) (ro2 ha ha') h
  · exact ev_treeK (PySem.W.ZFast.zw8789902822319141651 "add" (.ref a) (.ref a')) 60 [(a, baObj b), (a', baObj c)] [0, 2] (by rw [← PySem.W.ZFast.ze8789902822319141651]) (v := none) (by kernel_rfl) (by kernel_rfl) (ro2 ha ha') h
theorem take_b {x : Array UInt8} {t : Tok} {Q : Option (Array UInt8 × Option Value) → Shared → Prop} (h : ∀ s', Keeps s s' → Q (some (x, none)) s') :
    wpAny (model prog w) A (Builtin.Bytes.takeBufferQuiet? "bytearray.__iadd__" (.bytes x t) 0) Q E s := by
  refine byText (P := fun w => wpAny (model prog w) A (Builtin.Bytes.takeBufferQuiet? "bytearray.__iadd__" (.bytes x t) 0) Q E s) w ?_ ?_
  · exact ev_treeK (PySem.W.ZFast.zw9510677018623344767 "bytearray.__iadd__" (.bytes x t) 0) 60 [] [] (by rw [← PySem.W.ZFast.ze9510677018623344767]) (v := some (x, none)) (by kernel_rfl) (by kernel_rfl) (fun _ h => nomatch h) h
  · exact ev_treeK (PySem.W.ZFast.zw9510677018623344767 "bytearray.__iadd__" (.bytes x t) 0) 60 [] [] (by rw [← PySem.W.ZFast.ze9510677018623344767]) (v := some (x, none)) (by kernel_rfl) (by kernel_rfl) (fun _ h => nomatch h) h
theorem take_ba {a : Addr} {x : Array UInt8} {Q : Option (Array UInt8 × Option Value) → Shared → Prop} (ha : s.heap.get? a = some (baObj x)) (h : ∀ s', Keeps s s' → Q (some (x, none)) s') :
    wpAny (model prog w) A (Builtin.Bytes.takeBufferQuiet? "bytearray.__iadd__" (.ref a) 0) Q E s := by
  refine byText (P := fun w => wpAny (model prog w) A (Builtin.Bytes.takeBufferQuiet? "bytearray.__iadd__" (.ref a) 0) Q E s) w ?_ ?_
  · exact ev_treeK (PySem.W.ZFast.zw9510677018623344767 "bytearray.__iadd__" (.ref a) 0) 60 [(a, baObj x)] (List.replicate 11 0) (by rw [← PySem.W.ZFast.ze9510677018623344767]) (v := some (x, none)) (by kernel_rfl) (by kernel_rfl) (ro1 ha) h
  · exact ev_treeK (PySem.W.ZFast.zw9510677018623344767 "bytearray.__iadd__" (.ref a) 0) 60 [(a, baObj x)] (List.replicate 11 0) (by rw [← PySem.W.ZFast.ze9510677018623344767]) (v := some (x, none)) (by kernel_rfl) (by kernel_rfl) (ro1 ha) h
/-- += on a bytearray, the other's octets told by its reading -/
theorem C_iadd {a : Addr} {v : Value} {b x : Array UInt8} {Q : Value → Shared → Prop} (ha : s.heap.get? a = some (baObj b)) (hsz : b.size + x.size ≤ 16777216)
    (hne : ∀ c, v = .ref c → c ≠ a)
    (h1 : ∀ {A : Around} {Q : Option Value → Shared → Prop}, (∀ s', Keeps s s' → Q none s') → wpAny (model prog w) A (binaryOp1 "add" (.ref a) v) Q E s)
    (h2 : ∀ {A : Around} {s₁ : Shared} {Q : Option (Array UInt8 × Option Value) → Shared → Prop}, Keeps s s₁ → (∀ s', Keeps s₁ s' → Q (some (x, none)) s') → wpAny (model prog w) A (Builtin.Bytes.takeBufferQuiet? "bytearray.__iadd__" v 0) Q E s₁)
    (h : ∀ s', Wrote a (b ++ x) s s' → Q (.ref a) s') :
    wpC (model prog w) A (inplaceOp .Add (.ref a) v) Q E s := by
  unfold inplaceOp
  refine C_holding ?_
  refine C_bindA (wpAny_typeOf ⟨_, ha, rfl⟩ ?_)
  refine C_bindA (wpAny_of_eq (a := false) ?_ ?_)
  · kernel_rfl
  refine C_bindA (h1 fun s₁ k₁ => ?_)
  have ha1 := Keeps.get k₁ ha
  refine C_bindA (wpAny_of_eq (a := some (.builtin "bytearray.__iadd__")) ?_ ?_)
  · kernel_rfl
  refine C_bindA (wpAny_rule ?_)
  refine C_call_entry slot_ba_iadd ⟨_, ha1, rfl⟩ entry_ba_iadd (by decide +kernel) (args_ba_iadd _ _) ?_
  unfold Builtin.«bytearray.__iadd__»
  refine C_bindA (wpAny_of_eq (a := (.ref a, [v])) rfl ?_)
  dsimp only
  refine C_bindA (h2 k₁ fun s₂ k₂ => ?_)
  have k₁₂ := Keeps.trans k₁ k₂
  have ha2 := Keeps.get k₁₂ ha
  dsimp only
  show wpC _ _ (if (!x.isEmpty) = true then _ else _) _ _ _
  have fin : wpC (model prog w) A.in1 (do
      if Builtin.Bytes.tooLong ((← Builtin.Bytes.payload (.ref a)).size + x.size) then unsupported "bytearray.__iadd__:memory"
      Builtin.Bytes.write (.ref a) (· ++ x)
      ret (.ref a)) (fun fin s' => ∃ v, fin = .done (.ret v) ∧ Q v s') E s₂ := by
    refine C_bindA (ba_payload ha2 ?_)
    rw [if_neg (by rw [PySem.W.KBy.tooLong_not hsz]; exact Bool.false_ne_true)]
    refine C_bindA (ba_write ha2 ?_ ?_)
    · rw [Array.size_append, sizeLine_eq]; omega
    · exact C_pure ⟨_, rfl, h _ (Wrote.of (f := (· ++ x)) ha k₁₂)⟩
  cases hx : x.isEmpty
  · rw [if_pos (by rfl)]
    have hsr : Builtin.Bytes.sameRef (.ref a) v = false := by
      cases v with
      | ref c => exact beq_false_of_ne (Ne.symm (hne c rfl))
      | _ => rfl
    rw [hsr, if_neg Bool.false_ne_true]
    exact C_bind (C_checkResize ha2 fin)
  · rw [if_neg (by decide)]
    exact fin
end
section
variable {prog : Program} {w : World} {A : Around} {E : Value → Shared → Prop} {s : Shared}
theorem slot_ba_del : Slot "bytearray" "__delitem__" "bytearray.__delitem__" := .of (owner := "bytearray") (n := "__delitem__") (by rw [typeLookup_type, builtinLookup_eq_fast]; kernel_rfl) (by decide +kernel) (by decide +kernel) (by decide +kernel)
    (by first | exact .inl (by decide +kernel) | exact .inr (by decide +kernel)) (by rw [isSubtype_type]; kernel_rfl)
theorem entry_ba_del : entryFor table "bytearray.__delitem__" = some Builtin.«bytearray.__delitem__» := entryFor_of_tree (by kernel_rfl)
theorem args_ba_del (a b : Value) : argsOk "bytearray.__delitem__" ⟨[a, b], []⟩ := by
  unfold argsOk; rw [signature?_of (id := "bytearray.__delitem__") (n := ['_', '_', 'm', 'e', 't', 'i', 'l', 'e', 'd', '_', '_']) (o := ['y', 'a', 'r', 'r', 'a', 'e', 't', 'y', 'b']) (by kernel_rfl) owner_ba]; kernel_rfl
noncomputable abbrev slObj (lo hi st : Value) : Obj := { cls := .type "slice", data := .fields #[lo, hi, st] }
theorem sub_none {sl : Addr} {lo hi : Int} {t u : Tok} {Q : Option Int → Shared → Prop} (hs : s.heap.get? sl = some (slObj (.int lo t) (.int hi u) .none)) (h : ∀ s', Keeps s s' → Q none s') :
    wpAny (model prog w) A (Builtin.Bytes.subscript? (.ref sl)) Q E s := by
  refine byText (P := fun w => wpAny (model prog w) A (Builtin.Bytes.subscript? (.ref sl)) Q E s) w ?_ ?_
  · exact ev_treeK (PySem.W.ZFast.zw3799630220579993604 (.ref sl)) 60 [(sl, slObj (.int lo t) (.int hi u) .none)] [0] (by rw [← PySem.W.ZFast.ze3799630220579993604]) (v := none) (by kernel_rfl) (by kernel_rfl) (ro1 hs) h
  · exact ev_treeK (PySem.W.ZFast.zw3799630220579993604 (.ref sl)) 60 [(sl, slObj (.int lo t) (.int hi u) .none)] [0] (by rw [← PySem.W.ZFast.ze3799630220579993604]) (v := none) (by kernel_rfl) (by kernel_rfl) (ro1 hs) h
theorem parts_of {sl : Addr} {hi : Nat} {t u : Tok} {Q : Value × Value × Value → Shared → Prop} (hs : s.heap.get? sl = some (slObj (.int 0 t) (.int (.ofNat hi) u) .none)) (h : ∀ s' v1 v2, Keeps s s' → Q (.int 0 v1, .int (.ofNat hi) v2, .none) s') :
    wpAny (model prog w) A (Builtin.Bytes.sliceParts (.ref sl)) Q E s := by
  unfold Builtin.Bytes.sliceParts
  refine byText (P := fun w => wpAny (model prog w) A (Builtin.Bytes.sliceParts (.ref sl)) Q E s) w ?_ ?_
  · exact ev_treeK (PySem.W.ZFast.zw3446316693231294105 (.ref sl)) 60 [(sl, slObj (.int 0 t) (.int (.ofNat hi) u) .none)] [0, 0, 0] (by rw [← PySem.W.ZFast.ze3446316693231294105]) (v := (.int 0 0, .int (.ofNat hi) 0, .none)) (by kernel_rfl) (by kernel_rfl) (ro1 hs) fun s' k => h s' _ _ k
  · exact ev_treeK (PySem.W.ZFast.zw3446316693231294105 (.ref sl)) 60 [(sl, slObj (.int 0 t) (.int (.ofNat hi) u) .none)] [0, 0, 0] (by rw [← PySem.W.ZFast.ze3446316693231294105]) (v := (.int 0 0, .int (.ofNat hi) 0, .none)) (by kernel_rfl) (by kernel_rfl) (ro1 hs) fun s' k => h s' _ _ k
theorem indices_of {hi n : Nat} {v1 v2 : Tok} {Q : Int × Int × Int → Shared → Prop} (h : Q (0, ((min hi n : Nat) : Int), 1) s) :
    wpAny (model prog w) A (sliceIndices (.int 0 v1) (.int (.ofNat hi) v2) .none n) Q E s := by
  refine wpAny_of_eq (a := (max 0 (min (0 : Int) n), max 0 (min (.ofNat hi) (n : Int)), 1)) (by rfl) ?_
  have e1 : max 0 (min (0 : Int) n) = 0 := by omega
  have e2 : max 0 (min (.ofNat hi) (n : Int)) = ((min hi n : Nat) : Int) := by
    rw [show Int.ofNat hi = (hi : Int) from rfl]; omega
  rw [e1, e2]
  exact h
theorem sel_drop (b : Array UInt8) (n : Nat) : (b.toList.zipIdx.filterMap fun (x, k) => if Builtin.Bytes.selects 0 ((min 1 n : Nat) : Int) 1 k then none else some x).toArray = (b.toList.drop (min 1 n)).toArray := by
  congr 1
  have key : ∀ (l : List UInt8) (k m : Nat), (l.zipIdx k).filterMap (fun (x, k) => if Builtin.Bytes.selects 0 (m : Int) 1 k then none else some x) = l.drop (m - k) := by
    intro l
    induction l with
    | nil => intro k m; simp
    | cons x l ih =>
      intro k m
      rw [List.zipIdx_cons, List.filterMap_cons]
      by_cases hk : k < m
      · have e : Builtin.Bytes.selects 0 (m : Int) 1 k = true := by
          unfold Builtin.Bytes.selects
          simp [hk]
        dsimp only
        rw [e, if_pos rfl, ih, show m - k = (m - (k + 1)) + 1 by omega, List.drop_succ_cons]
      · have e : Builtin.Bytes.selects 0 (m : Int) 1 k = false := by
          unfold Builtin.Bytes.selects
          simp [hk]
        dsimp only
        rw [e, if_neg (by decide), ih, show m - k = 0 by omega, show m - (k + 1) = 0 by omega]
        rfl
  exact key _ 0 _
theorem C_delitem {a sl : Addr} {b : Array UInt8} {t u : Tok} {Q : Unit → Shared → Prop} (ha : s.heap.get? a = some (baObj b)) (hs : s.heap.get? sl = some (slObj (.int 0 t) (.int 1 u) .none)) (hsz : b.size ≤ 16777216)
    (h : ∀ s', Wrote a (drop1 b) s s' → Q () s') :
    wpC (model prog w) A (delItem (.ref a) (.ref sl)) Q E s := by
  unfold delItem
  refine C_holding ?_
  refine C_bindA (wpAny_sequenceKey ⟨_, ha, rfl⟩ (by decide +kernel) ?_)
  refine C_bind (C_callSpecial (T := "bytearray") ⟨_, ha, rfl⟩ slot_ba_del ?_)
  refine C_call_entry slot_ba_del ⟨_, ha, rfl⟩ entry_ba_del (by decide +kernel) (args_ba_del _ _) ?_
  unfold Builtin.«bytearray.__delitem__»
  refine C_bindA (wpAny_of_eq (a := (.ref a, [.ref sl])) rfl ?_)
  dsimp only
  refine C_bindA (sub_none hs fun s₁ k₁ => ?_)
  dsimp only
  refine C_bindA (wpAny_typeOf ⟨_, Keeps.get k₁ hs, rfl⟩ ?_)
  rw [if_neg (by decide)]
  refine C_bindA (parts_of (hi := 1) (Keeps.get k₁ hs) fun s₂ v1 v2 k₂ => ?_)
  have k₁₂ := Keeps.trans k₁ k₂
  have ha2 := Keeps.get k₁₂ ha
  dsimp only
  refine C_bindA (ba_payload ha2 ?_)
  refine C_bindA (indices_of ?_)
  dsimp only
  refine C_bindA (wpAny_rule ?_)
  have e : ((b.toList.zipIdx.filterMap fun (x, k) => if Builtin.Bytes.selects 0 ((min 1 b.size : Nat) : Int) 1 k then none else some x).toArray : Array UInt8) = drop1 b := by
    rw [sel_drop]
    unfold drop1
    congr 1
    cases hb : b.toList with
    | nil => simp
    | cons x l =>
      have hs : b.size = l.length + 1 := by rw [← Array.length_toList, hb]; rfl
      rw [hs, show min 1 (l.length + 1) = 1 by omega]
  refine C_if (fun _ => C_bind (C_checkResize ha2 ?_)) fun _ => ?_
  all_goals
    refine C_bindA (ba_write ha2 ?_ ?_)
    · rw [e, sizeLine_eq]; exact Nat.le_trans (drop1_size b) hsz
    · exact C_pure ⟨_, rfl, C_pure (h _ (e ▸ Wrote.of ha k₁₂))⟩
end
section
variable {prog : Program} {w : World} {A : Around} {E : Value → Shared → Prop} {s : Shared}
theorem mro_ba : mroOf (.type "bytearray") = pure [.type "bytearray", .type "object"] := by rw [mroOf_type]; kernel_rfl
theorem lookup_ba_new : typeLookup (.type "bytearray") "__new__" = pure (some (.builtin "bytearray.__new__")) := by rw [typeLookup_type, builtinLookup_eq_fast]; kernel_rfl
theorem slot_ba_init : Slot "bytearray" "__init__" "bytearray.__init__" := .of (owner := "bytearray") (n := "__init__") (by rw [typeLookup_type, builtinLookup_eq_fast]; kernel_rfl) (by decide +kernel) (by decide +kernel) (by decide +kernel)
    (by first | exact .inl (by decide +kernel) | exact .inr (by decide +kernel)) (by rw [isSubtype_type]; kernel_rfl)
theorem called_ba : TypeCalled "bytearray" "bytearray.__new__" "bytearray.__init__" :=
  ⟨by decide +kernel, by decide +kernel, ⟨_, _, mro_ba⟩, madeBy_type mro_ba lookup_ba_new (by decide +kernel), by decide +kernel, by rw [isSubtype_type]; kernel_rfl, slot_ba_init⟩
theorem entry_ba_init : entryFor table "bytearray.__init__" = some Builtin.«bytearray.__init__» := entryFor_of_tree (by kernel_rfl)
theorem args_ba_init0 (a : Value) : argsOk "bytearray.__init__" ⟨[a], []⟩ := by
  unfold argsOk; rw [signature?_of (id := "bytearray.__init__") (n := ['_', '_', 't', 'i', 'n', 'i', '_', '_']) (o := ['y', 'a', 'r', 'r', 'a', 'e', 't', 'y', 'b']) (by kernel_rfl) owner_ba]; kernel_rfl
theorem args_ba_init1 (a b : Value) : argsOk "bytearray.__init__" ⟨[a, b], []⟩ := by
  unfold argsOk; rw [signature?_of (id := "bytearray.__init__") (n := ['_', '_', 't', 'i', 'n', 'i', '_', '_']) (o := ['y', 'a', 'r', 'r', 'a', 'e', 't', 'y', 'b']) (by kernel_rfl) owner_ba]; kernel_rfl
theorem typeCall_ba0 : checkTypeCall "bytearray" ⟨[], []⟩ = pure () := by kernel_rfl
theorem typeCall_ba1 (a : Value) : checkTypeCall "bytearray" ⟨[a], []⟩ = pure () := by kernel_rfl
theorem newCall_ba0 : checkBuiltinCall "bytearray.__new__" ⟨[.type "bytearray"], []⟩ = pure () := by kernel_rfl
theorem newCall_ba1 (a : Value) : checkBuiltinCall "bytearray.__new__" ⟨[.type "bytearray", a], []⟩ = pure () := by kernel_rfl
theorem entry_ba_new : entryFor table "bytearray.__new__" = some Builtin.«list.__new__» := entryFor_alias (id' := "list.__new__") (by rw [fastTable_eq_tree]; kernel_rfl) (by decide +kernel) (by decide +kernel) (by rw [fastTable_eq_tree]; kernel_rfl)
theorem plain_ba_new : plainId "bytearray.__new__" = true := by decide +kernel
theorem owner_ba_new : ("bytearray.__new__".splitOn ".__new__").headD "" = "bytearray" := by simp +decide [String.splitOn, String.splitOnAux]
theorem sub_ba_self : isSubtype (.type "bytearray") (.type "bytearray") = pure true := by rw [isSubtype_type]; kernel_rfl
theorem call_ba_new {rest : List Value} {Q : Value → Shared → Prop} (hnc : checkBuiltinCall "bytearray.__new__" ⟨.type "bytearray" :: rest, []⟩ = pure ())
    (h : Q (.ref s.heap.objs.size) { s with heap := s.heap.push (baObj #[]) }) :
    wpAny (model prog w) A (call (.builtin "bytearray.__new__") (.type "bytearray" :: rest) []) Q E s := by
  refine wpAny_call (codeAny_of_tree ?_)
  show wpAny _ A.in1 (do checkBuiltinCall "bytearray.__new__" ⟨.type "bytearray" :: rest, []⟩; again (.builtin "bytearray.__new__" ⟨.type "bytearray" :: rest, []⟩)) _ _ s
  refine wpAny_bind (wpAny_of_eq hnc (wpAny_pure ⟨plainId_quiet plain_ba_new _, codeAny_builtin_stack entry_ba_new rfl fun p st => ?_⟩))
  rw [Around.under_plainId plain_ba_new _]
  have hsub := sub_ba_self
  have hown := owner_ba_new
  obtain ⟨hp, g, d, tk, os⟩ := s
  simp only [hown]
  wp_walk
  exact h
theorem codeC_builtin {R : Result → Shared → Prop} {id : String} {args : Args} {b : Builtin} (hb : entryFor table id = some b) (hcl : holdIds.contains id = false)
    (h : wpC (model prog w) (A.under (.builtin id args)) (b args)
      (fun fin s' => match fin with | .done f => R (.ok f) s' | .again c' => c'.quiet = true ∧ codeC (model prog w) A c' R s') (fun e s' => R (.error e) s') s) :
    codeC (model prog w) A (.builtin id args) R s := by
  refine codeC_tree hcl ?_
  show wpC _ _ (match entryFor table id with | some b => b args | none => unsupported ((withoutEnding? id "#data").getD id)) _ _ s
  rw [hb]; exact h
theorem C_newBA {args : List Value} {b : Array UInt8} {Q : Value → Shared → Prop}
    (hct : checkTypeCall "bytearray" ⟨args, []⟩ = pure ()) (hnc : checkBuiltinCall "bytearray.__new__" ⟨.type "bytearray" :: args, []⟩ = pure ())
    (hargs : ∀ a, argsOk "bytearray.__init__" ⟨a :: args, []⟩) 
    (hinit : ∀ {A : Around} {s : Shared} {a : Addr} {Q : Value → Shared → Prop}, s.heap.get? a = some (baObj #[]) → (∀ s', Wrote a b s s' → Q .none s') →
      wpC (model prog w) A (Builtin.«bytearray.__init__» ⟨.ref a :: args, []⟩) (fun fin s' => ∃ v, fin = .done (.ret v) ∧ Q v s') E s)
    (h : ∀ s', Wrote s.heap.objs.size b { s with heap := s.heap.push (baObj #[]) } s' → Q (.ref s.heap.objs.size) s') :
    wpC (model prog w) A (call (.type "bytearray") args) Q E s := by
  obtain ⟨c, tl, hmro⟩ := called_ba.mro
  refine C_call (codeC_tree rfl (C_any ?_))
  show wpAny _ _ (callAny (.type "bytearray") _) _ _ _
  refine wpAny_pure ⟨Code.quiet_builtin _ (by decide +kernel), codeC_builtin F.entry_type_call (by decide +kernel) ?_⟩
  rw [Around.under_plain (weight_type_call_type "bytearray" args []) rfl]
  unfold Builtin.«type.__call__»
  dsimp only
  rw [if_neg (by rw [called_ba.notType]; exact Bool.false_ne_true), if_neg (by rw [called_ba.canCreate]; exact Bool.false_ne_true)]
  refine C_bindA (wpAny_of_eq hct (C_bindA (wpAny_of_eq hmro ?_)))
  rw [if_neg (by exact Bool.false_ne_true)]
  refine C_bindA (wpAny_of_eq called_ba.made ?_)
  dsimp only
  refine C_bindA (wpAny_pure (C_bindA (wpAny_holding (call_ba_new hnc ?_))))
  refine C_bindA (wpAny_isInstance (T := "bytearray") ⟨_, Heap.get?_push_size _ rfl, rfl⟩ sub_ba_self ?_)
  simp only [Bool.not_true, Bool.false_eq_true, if_false]
  refine C_bind (C_holding (C_callSpecial (T := "bytearray") ⟨_, Heap.get?_push_size _ rfl, rfl⟩ slot_ba_init ?_))
  refine C_call_entry slot_ba_init ⟨_, Heap.get?_push_size _ rfl, rfl⟩ entry_ba_init (by decide +kernel) (hargs _) ?_
  refine hinit (Heap.get?_push_size _ rfl) fun s' k => ?_
  dsimp only
  rw [if_neg (by simp)]
  exact C_pure (h s' k)
end
section
variable {prog : Program} {w : World} {A : Around} {E : Value → Shared → Prop} {s : Shared}
theorem own_rel {a : Addr} {b : Array UInt8} {Q : Bool → Shared → Prop} (ha : s.heap.get? a = some (baObj b)) (h : ∀ s', Keeps s s' → Q false s') :
    wpAny (model prog w) A (Builtin.Bytes.ownRelease (.ref a)) Q E s := by
  refine byText (P := fun w => wpAny (model prog w) A (Builtin.Bytes.ownRelease (.ref a)) Q E s) w ?_ ?_
  · exact ev_treeK (PySem.W.ZFast.zw9499966614308273262 (.ref a)) 60 [(a, baObj b)] [0, 0] (by rw [← PySem.W.ZFast.ze9499966614308273262]) (v := false) (by kernel_rfl) (by kernel_rfl) (ro1 ha) h
  · exact ev_treeK (PySem.W.ZFast.zw9499966614308273262 (.ref a)) 60 [(a, baObj b)] [0, 0] (by rw [← PySem.W.ZFast.ze9499966614308273262]) (v := false) (by kernel_rfl) (by kernel_rfl) (ro1 ha) h
theorem init0 {a : Addr} {Q : Value → Shared → Prop} (ha : s.heap.get? a = some (baObj #[])) (h : ∀ s', Wrote a #[] s s' → Q .none s') :
    wpC (model prog w) A (Builtin.«bytearray.__init__» ⟨[.ref a], []⟩) (fun fin s' => ∃ v, fin = .done (.ret v) ∧ Q v s') E s := by
  unfold Builtin.«bytearray.__init__»
  dsimp only
  refine C_bindA (own_rel ha fun s₁ k₁ => ?_)
  have ha1 := Keeps.get k₁ ha
  rw [if_neg Bool.false_ne_true]
  refine C_bindA (wpAny_of_eq (a := [none, none, none]) (by kernel_rfl) ?_)
  dsimp only
  refine C_bindA (wpAny_of_eq (a := ()) rfl (C_bindA (wpAny_of_eq (a := ()) rfl (C_bind (C_noExport ha1 ?_)))))
  rw [if_neg Bool.false_ne_true]
  refine C_bindA (ba_write ha1 (Nat.zero_le _) ?_)
  exact C_pure ⟨_, rfl, h _ (Wrote.of (f := fun _ => #[]) ha k₁)⟩
theorem buffer_full {id : String} {x : Array UInt8} {t : Tok} : Builtin.Bytes.buffer? id (.bytes x t) (full := true) = pure (some x) := by kernel_rfl
theorem no_index_bytes : typeLookup (.type "bytes") "__index__" = pure none := by rw [typeLookup_type, builtinLookup_eq_fast]; kernel_rfl
theorem init1 {a : Addr} {x : Array UInt8} {t : Tok} {Q : Value → Shared → Prop} (hsz : x.size ≤ 16777216) (ha : s.heap.get? a = some (baObj #[])) (h : ∀ s', Wrote a x s s' → Q .none s') :
    wpC (model prog w) A (Builtin.«bytearray.__init__» ⟨[.ref a, .bytes x t], []⟩) (fun fin s' => ∃ v, fin = .done (.ret v) ∧ Q v s') E s := by
  unfold Builtin.«bytearray.__init__»
  dsimp only
  refine C_bindA (own_rel ha fun s₁ k₁ => ?_)
  have ha1 := Keeps.get k₁ ha
  rw [if_neg Bool.false_ne_true]
  refine C_bindA (wpAny_of_eq (a := [some (.bytes x t), none, none]) (by kernel_rfl) ?_)
  dsimp only
  refine C_bindA (wpAny_of_eq (a := ()) rfl (C_bindA (wpAny_of_eq (a := ()) rfl (C_bind (C_noExport ha1 ?_)))))
  rw [if_neg Bool.false_ne_true]
  refine C_bindA (ba_write ha1 (Nat.zero_le _) ?_)
  have hw : Wrote a #[] s (wr s₁ a fun _ => #[]) := Wrote.of (f := fun _ => #[]) ha k₁
  have ha2 : (wr s₁ a fun _ => #[]).heap.get? a = some (baObj #[]) := Heap.get?_update_self _ ha1 rfl
  refine C_bindA (wpAny_of_eq (a := none) rfl ?_)
  rw [if_neg (by exact Bool.false_ne_true)]
  refine C_bindA (wpAny_of_eq (a := ()) rfl ?_)
  refine C_bindA (wpAny_specialOf (T := "bytes") (typeIs_bytes _ x t) no_index_bytes ?_)
  rw [if_neg (by exact Bool.false_ne_true)]
  refine C_bindA (wpAny_of_eq buffer_full ?_)
  dsimp only
  refine C_bindA (wpAny_rule ?_)
  refine C_bindA (ba_write ha2 (by rw [sizeLine_eq]; exact hsz) ?_)
  exact C_pure ⟨_, rfl, h _ (Wrote.trans hw (Wrote.of (f := fun _ => x) ha2 (Keeps.refl _)))⟩
end
section
variable {prog : Program} {w : World} {A : Around} {s : Shared}
theorem slot_ba_set : Slot "bytearray" "__setitem__" "bytearray.__setitem__" := .of (owner := "bytearray") (n := "__setitem__") (by rw [typeLookup_type, builtinLookup_eq_fast]; kernel_rfl) (by decide +kernel) (by decide +kernel) (by decide +kernel)
    (by first | exact .inl (by decide +kernel) | exact .inr (by decide +kernel)) (by rw [isSubtype_type]; kernel_rfl)
theorem entry_ba_set : entryFor table "bytearray.__setitem__" = some Builtin.«bytearray.__setitem__» := entryFor_of_tree (by kernel_rfl)
theorem args_ba_set (a b c : Value) : argsOk "bytearray.__setitem__" ⟨[a, b, c], []⟩ := by
  unfold argsOk; rw [signature?_of (id := "bytearray.__setitem__") (n := ['_', '_', 'm', 'e', 't', 'i', 't', 'e', 's', '_', '_']) (o := ['y', 'a', 'r', 'r', 'a', 'e', 't', 'y', 'b']) (by kernel_rfl) owner_ba]; kernel_rfl
theorem no_int_bytes : typeLookup (.type "bytes") "__int__" = pure none := by rw [typeLookup_type, builtinLookup_eq_fast]; kernel_rfl
theorem no_float_bytes : typeLookup (.type "bytes") "__float__" = pure none := by rw [typeLookup_type, builtinLookup_eq_fast]; kernel_rfl
theorem sub_bytes_ba : isSubtype (.type "bytes") (.type "bytearray") = pure false := by rw [isSubtype_type]; kernel_rfl
theorem sub_bytes_complex : isSubtype (.type "bytes") (.type "complex") = pure false := by rw [isSubtype_type]; kernel_rfl
theorem C_setitem {a sl : Addr} {b x : Array UInt8} {t u tx : Tok} {Q : Unit → Shared → Prop} (ha : s.heap.get? a = some (baObj b)) (hs : s.heap.get? sl = some (slObj (.int 0 t) (.int 0 u) .none)) (hsz : b.size + x.size ≤ 16777216)
    (h : ∀ s', Wrote a (x ++ b) s s' → Q () s') :
    wpC (model prog w) A (setItem (.ref a) (.ref sl) (.bytes x tx)) Q NoE s := by
  unfold setItem
  refine C_holding ?_
  refine C_bindA (wpAny_sequenceKey ⟨_, ha, rfl⟩ (by decide +kernel) ?_)
  refine C_bind (C_callSpecial (T := "bytearray") ⟨_, ha, rfl⟩ slot_ba_set ?_)
  refine C_call_entry slot_ba_set ⟨_, ha, rfl⟩ entry_ba_set (by decide +kernel) (args_ba_set _ _ _) ?_
  unfold Builtin.«bytearray.__setitem__»
  dsimp only
  rw [if_neg (by simp)]
  refine C_bindA (sub_none hs fun s₁ k₁ => ?_)
  dsimp only
  refine C_bindA (wpAny_typeOf ⟨_, Keeps.get k₁ hs, rfl⟩ ?_)
  rw [if_neg (by decide)]
  refine C_bindA (parts_of (hi := 0) (Keeps.get k₁ hs) fun s₂ v1 v2 k₂ => ?_)
  have k₁₂ := Keeps.trans k₁ k₂
  have ha2 := Keeps.get k₁₂ ha
  have hs2 := Keeps.get k₁₂ hs
  rw [if_neg (by exact Bool.false_ne_true)]
  refine C_bindA (wpAny_isInstance (T := "bytes") (typeIs_bytes _ x tx) sub_bytes_ba ?_)
  rw [if_pos (by rfl)]
  refine C_bindA (wpAny_bind (wpAny_bind (wpAny_specialOf (T := "bytes") (typeIs_bytes _ x tx) no_index_bytes (wpAny_pure ?_))))
  refine wpAny_bind (wpAny_bind (wpAny_specialOf (T := "bytes") (typeIs_bytes _ x tx) no_int_bytes (wpAny_pure ?_)))
  refine wpAny_bind (wpAny_bind (wpAny_specialOf (T := "bytes") (typeIs_bytes _ x tx) no_float_bytes (wpAny_pure ?_)))
  refine wpAny_isInstance (T := "bytes") (typeIs_bytes _ x tx) sub_bytes_complex ?_
  refine C_bindA (wpAny_of_eq (a := none) rfl ?_)
  rw [if_neg (by exact Bool.false_ne_true)]
  refine C_bindA (wpAny_rule ?_)
  have hlt : ∀ {c : Addr} {o : Obj}, s₂.heap.get? c = some o → c ≠ s₂.heap.objs.size := fun e => Nat.ne_of_lt (Heap.lt_size e)
  refine C_bind (C_newBA (b := x) (typeCall_ba1 _) (newCall_ba1 _) (fun _ => args_ba_init1 _ _) (fun {A s a Q} ha h => init1 (by omega) ha h) fun s₃ k₃ => ?_)
  obtain ⟨h3, t3, rfl, e3, x3⟩ := k₃
  have old : ∀ {c : Addr} {o : Obj}, s₂.heap.get? c = some o → h3.get? c = some o := fun e => x3 _ _ (hlt e) (Heap.get?_push_of_some _ e)
  refine C_bindA (wpAny_holding (parts_of (hi := 0) (old hs2) fun s₄ v3 v4 k₄ => ?_))
  have ha4 := Keeps.get k₄ (old ha2)
  refine C_bindA (ba_payload (Keeps.get k₄ e3) ?_)
  refine C_bindA (ba_payload ha4 ?_)
  refine C_bindA (indices_of ?_)
  dsimp only
  rw [if_pos (by rfl)]
  refine C_bindA (wpAny_rule ?_)
  have e : (b.extract 0 (0 : Int).toNat ++ x ++ b.extract (max (0 : Int) ((min 0 b.size : Nat) : Int)).toNat : Array UInt8) = x ++ b := by simp
  refine C_if (fun _ => C_bind (C_checkResize ha4 ?_)) fun _ => ?_
  all_goals
    refine C_bindA (ba_write ha4 ?_ ?_)
    · rw [e, Array.size_append, sizeLine_eq]; omega
    · refine C_pure ⟨_, rfl, C_pure (h _ ?_)⟩
      obtain ⟨h1, t1, rfl, q1⟩ := k₁₂
      obtain ⟨h4, t4, rfl, q4⟩ := k₄
      refine ⟨_, t4, rfl, ?_, fun c o hc z => ((Heap.SameBut.update ..).2 c hc).trans (q4 _ _ (old (q1 _ _ z)))⟩
      have := Heap.get?_update_self (Obj.mapBytearray fun b => b.extract 0 (0 : Int).toNat ++ x ++ b.extract (max (0 : Int) ((min 0 b.size : Nat) : Int)).toNat) ha4 rfl
      rw [← e]
      exact this
end
section
variable {prog : Program} {w : World} {A : Around} {E : Value → Shared → Prop} {s : Shared} {h₀ : Heap} {L : Addr} {m : Str → Option Value} {news : List (Addr × Obj)} {Q : Value → Shared → Prop}
theorem call_slice {lo hi : Int} {t u : Tok} (hh : A.handled = none) (F : Fr h₀ L s.heap m) (N : News h₀ L s.heap news)
    (h : ∀ sl h' tk, Fr h₀ L h' m → News h₀ L h' ((sl, slObj (.int lo t) (.int hi u) .none) :: news) → (∀ q ∈ news, q.1 < sl) → Q (.ref sl) { s with heap := h', toks := tk }) :
    wpAny (model prog w) A (call (.type "slice") [.int lo t, .int hi u] []) Q E s := by
  refine byText (P := fun w => wpAny (model prog w) A (call (.type "slice") [.int lo t, .int hi u] []) Q E s) w ?_ ?_
  all_goals
    refine ev_call 60 [] [] [1, 1, 1, 1] hh F N (v := .ref s.heap.objs.size) (by kernel_rfl) (by kernel_rfl) (fun _ h => nomatch h) (fun _ h => nomatch h) List.nodup_nil (fun _ h => nomatch h) fun h' tk F' N' R _ => ?_
    refine h s.heap.objs.size h' tk F' (fun q hq => ?_) fun q hq => Heap.lt_size (N q hq).1
    rcases List.mem_cons.mp hq with rfl | hq
    · rw [show outRw _ = [(s.heap.objs.size, slObj (.int lo t) (.int hi u) .none)] from by kernel_rfl] at N'
      exact N' _ (.head _)
    · exact R news (fun p hp => ⟨hp, fun h => nomatch h⟩) q hq
theorem slot_ba_get : Slot "bytearray" "__getitem__" "bytearray.__getitem__" := .of (owner := "bytearray") (n := "__getitem__") (by rw [typeLookup_type, builtinLookup_eq_fast]; kernel_rfl) (by decide +kernel) (by decide +kernel) (by decide +kernel)
    (by first | exact .inl (by decide +kernel) | exact .inr (by decide +kernel)) (by rw [isSubtype_type]; kernel_rfl)
theorem entry_ba_get : entryFor table "bytearray.__getitem__" = some Builtin.«bytearray.__getitem__» := entryFor_of_tree (by kernel_rfl)
theorem args_ba_get (a b : Value) : argsOk "bytearray.__getitem__" ⟨[a, b], []⟩ := by
  unfold argsOk; rw [signature?_of (id := "bytearray.__getitem__") (n := ['_', '_', 'm', 'e', 't', 'i', 't', 'e', 'g', '_', '_']) (o := ['y', 'a', 'r', 'r', 'a', 'e', 't', 'y', 'b']) (by kernel_rfl) owner_ba]; kernel_rfl
theorem sliced_take2 (b : Array UInt8) : Builtin.Bytes.sliced b 0 ((min 2 b.size : Nat) : Int) 1 = take2 b := by
  unfold Builtin.Bytes.sliced take2 sliceRange
  obtain ⟨l⟩ := b
  match l with
  | [] => rfl
  | [x] =>
    rw [show min 2 (Array.mk [x]).size = 1 from rfl]; rfl
  | x :: y :: l =>
    rw [show min 2 (Array.mk (x :: y :: l)).size = 2 by simp]; rfl
theorem get_ba2 {a sl : Addr} {b : Array UInt8} {t u : Tok} (F : Fr h₀ L s.heap m) (N : News h₀ L s.heap news) (ha : (a, baObj b) ∈ news) (hs : (sl, slObj (.int 0 t) (.int 2 u) .none) ∈ news)
    (h : ∀ c h' tk, Fr h₀ L h' m → News h₀ L h' ((c, baObj (take2 b)) :: news) → (∀ q ∈ news, q.1 < c) → Q (.ref c) { s with heap := h', toks := tk }) :
    wpAny (model prog w) A (getItem (.ref a) (.ref sl)) Q E s := by
  have ha0 := (N _ ha).1
  have hs0 := (N _ hs).1
  unfold getItem
  refine wpAny_holding ?_
  refine wpAny_bind (wpAny_sequenceKey ⟨_, ha0, rfl⟩ (by decide +kernel) ?_)
  refine wpAny_bind (wpAny_callSpecial?_slot (T := "bytearray") ⟨_, ha0, rfl⟩ slot_ba_get ?_)
  refine wpAny_call_entry slot_ba_get ⟨_, ha0, rfl⟩ entry_ba_get ?_ (args_ba_get _ _)
  unfold Builtin.«bytearray.__getitem__»
  refine wpAny_bind (wpAny_of_eq (a := (.ref a, [.ref sl])) rfl ?_)
  dsimp only
  refine wpAny_bind (sub_none hs0 fun s₁ k₁ => ?_)
  dsimp only
  refine wpAny_bind (wpAny_typeOf ⟨_, Keeps.get k₁ hs0, rfl⟩ ?_)
  rw [if_neg (by decide)]
  refine wpAny_bind (parts_of (hi := 2) (Keeps.get k₁ hs0) fun s₂ v1 v2 k₂ => ?_)
  have k₁₂ := Keeps.trans k₁ k₂
  dsimp only
  refine wpAny_bind (ba_payload (Keeps.get k₁₂ ha0) ?_)
  refine wpAny_bind (indices_of ?_)
  dsimp only
  rw [sliced_take2]
  refine keepsF (P := fun s₂ => wpAny (model prog w) A.in1 (do ret (← Builtin.Bytes.newBytearray (take2 b))) (fun fin s' => ∃ v, fin = .done (.ret v) ∧ wpAny (model prog w) A (pure v) Q E s') E s₂) F N (fun h' tk F' N' => ?_) s₂ k₁₂
  refine wpAny_bind (wpAny_newObj_type (T := "bytearray") (data := .bytearray (take2 b) 0) ?_ ?_)
  · exact wpAny_pure ⟨_, rfl, wpAny_pure (h _ _ tk (F'.push _) (News.push F' N' _) fun q hq => Heap.lt_size (N' q hq).1)⟩
  · have := take2_size b
    show (take2 b).size ≤ sizeLine
    rw [sizeLine_eq]; omega
end
section
variable {M : Model} {A : Around} {E : Value → Shared → Prop} {s : Shared}
/-- what is asked behind, under a name (keeps the proofs' text small) -/
theorem C_post {α : Type} {t : Sem α} {Q : α → Shared → Prop} (h : ∀ Q' : α → Shared → Prop, (∀ f s', Q f s' → Q' f s') → wpC M A t Q' NoE s) : wpC M A t Q E s :=
  C_mono (h Q fun _ _ x => x) (fun _ _ x => x) fun _ _ x => x.elim
theorem A_post {α : Type} {t : Sem α} {Q : α → Shared → Prop} (h : ∀ Q' : α → Shared → Prop, (∀ f s', Q f s' → Q' f s') → wpAny M A t Q' E s) : wpAny M A t Q E s := h Q fun _ _ x => x
/-- what is asked behind under a name, no end by a raise -/
theorem A_postN {α : Type} {t : Sem α} {Q : α → Shared → Prop} (h : ∀ Q' : α → Shared → Prop, (∀ f s', Q f s' → Q' f s') → wpAny M A t Q' NoE s) : wpAny M A t Q E s :=
  wpAny_mono (h Q fun _ _ x => x) (fun _ _ x => x) fun _ _ x => x.elim
theorem News.re {h₀ h : Heap} {L : Addr} {l l' : List (Addr × Obj)} (N : News h₀ L h l) (hl : ∀ q ∈ l', q ∈ l) : News h₀ L h l' := fun q hq => N q (hl q hq)
end
section
variable {h₀ h : Heap} {L : Addr} {l l' : List (Addr × Obj)} {x : Addr × Obj}
theorem News.put (N : News h₀ L h l) (hx : x ∈ l) (N' : News h₀ L h l') : News h₀ L h (x :: l') := fun q hq => (List.mem_cons.mp hq).elim (fun e => e ▸ N x hx) (N' q)
theorem News.tl (N : News h₀ L h (x :: l)) : News h₀ L h l := fun q hq => N q (.tail _ hq)
end
section
variable {prog : Program} {w : World} {A : Around} {R : Result → Shared → Prop} {s : Shared} {name : Str} {params : Arguments} {body : List PySem.Stmt} {scope : Scope}
    {dV kV pm cd doc : Value} {a : Addr} {o : Obj} {args : Args} {binds : List (Str × Value)}
theorem C_full (hroom : A.depth < recursionLimit) (ho : s.heap.get? a = some o) (hdata : o.data = .func { Calls.docDef name params body scope pm cd doc with defaults := dV, kwdefaults := kV }) (hlim : s.heap.NoLimit) (hcd : s.heap.CodeRec cd name)
    (hbind : BindsTo s { Calls.docDef name params body scope pm cd doc with defaults := dV, kwdefaults := kV } args binds)
    (hloc : ∀ x ∈ binds, scope.names.lookup x.1 = some .local)
    (h : ∀ h₁, Fr s.heap s.heap.objs.size h₁ (fun x => binds.reverse.lookup x) →
      wpC (model prog w) (A.deeper (envOf name scope s.heap.objs.size a cd)) (execs body (envOf name scope s.heap.objs.size a cd))
        (fun f s' => R (.ok (.ret (match f with | .ret v => v | _ => .none))) s') NoE { s with heap := h₁, toks := s.toks + binds.length })
    (hco : scope.isCoroutine = false := by rfl) (hgen : scope.isGenerator = false := by rfl) (hk : scope.kind = .function := by rfl)
    (hcell : ∀ x ∈ scope.names, x.2 ≠ .cell := by decide) :
    codeC (model prog w) A (.call (.ref a) args) R s :=
  codeC_call_def hroom ho hdata hlim hcd rfl hbind hcell hloc (fun h₁ hns hkeep => C_mono (h h₁ ⟨hns, hkeep, Nat.le_refl _⟩) (fun _ _ x => x) fun _ _ x => x.elim) hco hgen hk
end
section
variable {M : Model} {A : Around} {E : Value → Shared → Prop} {s : Shared} {env : Env}
theorem C_Assign_Name {x : Str} {pos' pos : Pos} {value : PySem.Expr} {Q : Flow → Shared → Prop}
    (h : wpC M A (eval value env) (fun v s₁ => wpAny M A (storeName env x v) (fun _ => Q .next) E s₁) E s)
    (hs : swapsWith value (some (.Name x pos')) pos.line env = pure false := by rfl) :
    wpC M A (exec (.Assign [.Name x pos'] value pos) env) Q E s := by
  rw [exec_Assign_Name env x pos' value pos hs]
  refine C_bindA (wpAny_standAt (C_bind (C_mono h (fun v s₁ h₁ => ?_) fun _ _ x => x)))
  exact C_any (wpAny_bind (wpAny_standAt (wpAny_bind (wpAny_bindName (wpAny_mono h₁ (fun _ _ h' => wpAny_pure h') fun _ _ x => x)))))
end
section
variable {prog : Program} {w : World} {A₀ A : Around} {s : Shared} {base h₀ : Heap} {L : Addr} {m mg mb : Str → Option Value} {env : Env} {news : List (Addr × Obj)} {K : Frag} {p : Program} {loose : List Str} {mean : ExcName → Option Value}
    {R : Result → Shared → Prop} {name qual : Str} {params : Arguments} {body : List PySem.Stmt} {scope : Scope} {dV kV doc pm cdv ct oc : Value} {an od : Option Addr} {osl : Array (Option Value)} {f : Addr} {args : Args} {binds : List (Str × Value)}
theorem ktsX_mem (hf : env.frame = some L) {b : Addr} (hb : b ∈ [env].filterMap (·.frame)) : b = L := by simpa [List.filterMap, hf] using hb
/-- the library's code_defS0 for a caller with cells too -/
theorem code_defS0X (B : Below A₀ base [] h₀) (F : Fr h₀ L s.heap m) (X₀ : K.In h₀) (N : News h₀ L s.heap news) (T : Top p loose mean mg mb h₀) (hA : A.frames = some [env]) (hf : env.frame = some L) (hke : env.scope.kind = .function)
    (ho : K.lookup f = some ⟨oc, od, .func (fnOf name qual params body scope dV kV doc pm an cdv ct), osl⟩) (hcd : codeIn K cdv qual = true) (hroom : A.depth < recursionLimit)
    (hbind : BindsTo s (fnOf name qual params body scope dV kV doc pm an cdv ct) args binds) (hloc : ∀ y ∈ binds, scope.names.lookup y.1 = some .local)
    (h : ∀ g L' h₁, Fr h₀ L g m → Fr g L' h₁ (fun y => binds.reverse.lookup y) → News g L' h₁ news → Below A base [env] g → K.In g → Top p loose mean mg mb g → KtsDicts ([env].filterMap (·.frame)) g →
      wpAny (model prog w) (A.deeper (envOf qual scope L' f cdv)) (execs body (envOf qual scope L' f cdv))
        (fun fl s' => LeaveS0 ([env].filterMap (·.frame)) h₀ L m g R (match fl with | .ret v => v | _ => .none) s')
        (fun e s' => wpAny (model prog w) (A.deeper (envOf qual scope L' f cdv)) (leaving (envOf qual scope L' f cdv) e) (fun _ s'' => R (.error e) s'') (fun e' s'' => R (.error e') s'') s')
        { s with heap := h₁, toks := s.toks + binds.length })
    (hco : scope.isCoroutine = false) (hgen : scope.isGenerator = false) (hk : scope.kind = .function)
    (hcell : ∀ x ∈ scope.names, x.2 ≠ .cell) : codeAny (model prog w) A (.call (.ref f) args) R s := by
  have X := X₀.keeps F.keep
  refine codeAny_call_def (fd := fnOf name qual params body scope dV kV doc pm an cdv ct) (body := body) (binds := binds) hroom (X _ _ ho) rfl (T.nolimit.keeps F.keep) (codeRec_of X hcd) rfl hbind hcell hloc (fun h₁ hns hk₁ => ?_) hco hgen hk
  obtain ⟨FG, B₂, st, _⟩ := groundX (R := R) B F N hA hf hke
  obtain ⟨oL, es, ep, hLg, hLd, hLk, hLf⟩ := FG.ns
  refine wpAny_mono (h _ s.heap.objs.size h₁ FG ⟨hns, fun b o e => hk₁ b o (of_hideAll _ e), Nat.le_of_eq (hideAll_size _ _)⟩
    (fun p hp => ⟨hk₁ _ _ (N p hp).1, Nat.ne_of_lt (Heap.lt_size (N p hp).1), hideAll_none _ (List.mem_map_of_mem hp)⟩) B₂ (X₀.keeps st) (T.keeps st) (fun b hb => by
      rw [ktsX_mem hf hb]
      exact ⟨oL, es, ep, hLg, hLd⟩)) (fun fl s' hl => ?_) fun _ _ y => y
  obtain ⟨g', L', m', news', T', F', N', k⟩ := hl
  have nL₀ : h₀.get? L = none := kts_self F
  obtain ⟨sl, hs⟩ := T'.up hLg
  refine k ⟨⟨_, es, ep, F'.keep _ _ hs, hLd, hLk, hLf⟩, fun b o e => F'.keep b o (T'.other b o (st b o e) (fun q => by
    rw [ktsX_mem hf q, nL₀] at e
    cases e)), F.above⟩ fun p hp => ⟨(N' p hp).1, fun q => ?_, ?_⟩
  · have := (N' p hp).2.2; rw [q, hs] at this; cases this
  · cases q : h₀.get? p.1 with
    | none => rfl
    | some o =>
      obtain ⟨sl', hs'⟩ := T'.up (st _ _ q)
      have := (N' p hp).2.2
      rw [hs'] at this
      cases this
end
section
variable {prog : Program} {w : World} {A : Around} {R : Result → Shared → Prop} {s : Shared} {name : Str} {params : Arguments} {body : List PySem.Stmt} {scope : Scope}
    {pm cd doc : Value} {a : Addr} {o : Obj} {args : List Value} {binds : List (Str × Value)}
theorem C_cells (hroom : A.depth < recursionLimit) (ho : s.heap.get? a = some o) (hdata : o.data = .func (Calls.docDef name params body scope pm cd doc)) (hlim : s.heap.NoLimit) (hcd : s.heap.CodeRec cd name)
    (hbind : bindArgs (Calls.docDef name params body scope pm cd doc) ⟨args, []⟩ = pure binds)
    (hkind : ∀ x ∈ binds, scope.names.lookup x.1 = some .local ∨ (scope.names.lookup x.1 = some .cell ∧ ((cellsFrom (s.heap.objs.size + 1) scope.names []).lookup x.1).isSome = true))
    (hnd : ((cellsFrom 0 scope.names []).map (·.1)).Nodup)
    (h : ∀ h₁ tk cells, Fr s.heap s.heap.objs.size h₁ (bindL (envOfC name scope s.heap.objs.size a cd).kindOf binds fun _ => none) → News s.heap s.heap.objs.size h₁ cells →
      CellsAre (bindC (envOfC name scope s.heap.objs.size a cd).kindOf binds fun _ => none) (cellsFrom (s.heap.objs.size + 1) scope.names []) cells →
      wpC (model prog w) (A.deeper (envOfC name scope s.heap.objs.size a cd)) (execs body (envOfC name scope s.heap.objs.size a cd))
        (fun f s' => R (.ok (.ret (match f with | .ret v => v | _ => .none))) s') NoE { s with heap := h₁, toks := tk })
    (hco : scope.isCoroutine = false := by rfl) (hgen : scope.isGenerator = false := by rfl) (hk : scope.kind = .function := by rfl) :
    codeC (model prog w) A (.call (.ref a) ⟨args, []⟩) R s := by
  refine codeC_call_function hroom ho hdata hco hgen rfl hcd ?_
  rw [hbind]
  refine wpAny_pure ?_
  refine wpAny_newFunctionEnv_cells hk hkind fun env' he s' x => ?_
  subst he
  refine ⟨hlim.keeps x.toInCall.keep, codeC_func ?_⟩
  obtain ⟨h₁, tk, rfl, _⟩ := x.done
  obtain ⟨cells, N, Y⟩ := Cl.news (h₀ := s.heap) (Nat.le_refl _) fun n c hm => ⟨x.cell n c (lookup_of_mem_nodup (cellsFrom_names scope.names 0 (s.heap.objs.size + 1) [] [] rfl ▸ hnd) hm), x.above n c hm⟩
  exact C_mono (h h₁ tk cells ⟨x.toInCall.ns, x.toInCall.keep, x.toInCall.fresh⟩ N Y) (fun _ _ x => x) fun _ _ x => x.elim
end
theorem goodWG_true {c : ClaimW} {cl : Str → Option Addr} {mean : ExcName → Option Value} {args : List WData} {s₁ s' : Shared} {tabs : List (Addr × Addr)} {L : Addr} {m : Str → Option Value} (hT : TabsAt tabs s₁.heap) (hr : ∀ x, c.raises args x = false)
    (F : Fr (ghostOf s₁.heap tabs) L s'.heap m) (hgr : GrownAll tabs s'.heap) (hg : AllBare s'.gens) (hos : s'.os = s₁.os) (hp : c.post args (.bool true) args = true) : GoodWG c cl mean args s₁ (.ok (.ret (.bool true))) s' := by
  have keep : ∀ b o, b ∉ tabs.map (·.2) → s₁.heap.get? b = some o → s'.heap.get? b = some o := fun b o hb e => F.keep b o (ghost_ne e hb)
  have grown : ∀ b o, b ∈ tabs.map (·.2) → s₁.heap.get? b = some o → isCodeTable s₁.heap b ∧ o = tabObj #[] ∧ ∃ ps, s'.heap.get? b = some (tabObj ps) := fun b o hb e => by
    obtain ⟨q, hq, rfl⟩ := List.mem_map.mp hb
    have e2 := (hT q hq).2
    rw [e] at e2
    exact ⟨((hT q hq).1.tab (hT q hq).2).isCodeTable, Option.some.inj e2, hgr.get q hq⟩
  refine ⟨.inl ⟨.bool true, .bool true, [], rfl, hr, by constructor, hp, fun _ => ⟨.nil, fun a h => nomatch h⟩⟩, ⟨fun b o e => ?_, fun b o e => ?_⟩, hos, hg⟩
  · by_cases hb : b ∈ tabs.map (·.2)
    · obtain ⟨ht, rfl, ps, hP⟩ := grown b o hb e
      exact .inr (.inl ⟨ht, rfl, #[], ps, rfl, by rw [Array.empty_append]; exact hP⟩)
    · exact .inl (keep b o hb e)
  · by_cases hb : b ∈ tabs.map (·.2)
    · obtain ⟨_, _, ps, hP⟩ := grown b o hb e
      exact ⟨_, hP⟩
    · exact ⟨o, keep b o hb e⟩
section
/-- the piece that a number gives -/
noncomputable def menu (x : Int) : Pc := match x.fmod 8 with
  | 0 => .star | 1 => .q | 2 => .a | 3 => .dot | 4 => .star2 | 5 => .ba | 6 => .na | _ => .e
noncomputable def lawPcs (ns : List Int) : List Pc := [.star, .a, .q] ++ ns.map menu
noncomputable def lawIs (one : Bool) (ns : List Int) : List It := trAll one (unitsOfP (lawPcs ns))
theorem trStep_pre (one : Bool) (l : List It) (u : U) : ∃ r, trStep one l u = l ++ r := by
  cases u <;> (unfold trStep; try exact ⟨_, rfl⟩)
  dsimp only
  split
  · exact ⟨[], by simp⟩
  · exact ⟨_, rfl⟩
theorem foldl_pre (one : Bool) : ∀ (us : List U) (l : List It), ∃ r, us.foldl (trStep one) l = l ++ r
  | [], l => ⟨[], by simp⟩
  | u :: us, l => by
    obtain ⟨r, hr⟩ := trStep_pre one l u
    obtain ⟨r', hr'⟩ := foldl_pre one us (trStep one l u)
    exact ⟨r ++ r', by rw [List.foldl_cons, hr', hr, List.append_assoc]⟩
/-- the rows begin with the star, the a and the ? -/
theorem lawIs_head (one : Bool) (ns : List Int) : ∃ r, lawIs one ns = [.star, .a, if one then .star else .mark] ++ r := by
  unfold lawIs lawPcs unitsOfP trAll
  rw [List.flatMap_append, List.foldl_append]
  obtain ⟨r, hr⟩ := foldl_pre one ((ns.map menu).flatMap Pc.units) ([Pc.star, Pc.a, Pc.q].flatMap Pc.units |>.foldl (trStep one) [])
  refine ⟨r, hr.trans ?_⟩
  congr 1
theorem lawIs_ex (one : Bool) (ns : List Int) (bs bm : Array UInt8) (h : one = true → bs = bm) : ∃ k ∈ lawIs one ns, sameAs bs bm bm k = true := by
  obtain ⟨r, hr⟩ := lawIs_head one ns
  rw [hr]
  cases one
  · exact ⟨.mark, by simp, by simp [sameAs, cont]⟩
  · exact ⟨.star, by simp, by simp [sameAs, cont, h rfl]⟩
theorem trStep_len (one : Bool) (l : List It) (u : U) : (trStep one l u).length ≤ l.length + 1 := by
  cases u <;> (unfold trStep; try simp)
  split <;> simp
theorem foldl_len (one : Bool) : ∀ (us : List U) (l : List It), (us.foldl (trStep one) l).length ≤ l.length + us.length
  | [], l => by simp
  | u :: us, l => by
    have h1 := trStep_len one l u
    have h2 := foldl_len one us (trStep one l u)
    rw [List.foldl_cons, List.length_cons]
    omega
theorem units_len : ∀ ps : List Pc, (unitsOfP ps).length ≤ 2 * ps.length
  | [] => by simp [unitsOfP]
  | p :: ps => by
    have h := units_len ps
    unfold unitsOfP at h ⊢
    rw [List.flatMap_cons, List.length_append, List.length_cons]
    have : p.units.length ≤ 2 := by cases p <;> simp [Pc.units]
    omega
theorem lawIs_len (one : Bool) (ns : List Int) (h : ns.length ≤ 10) : (lawIs one ns).length ≤ 26 := by
  have h1 := foldl_len one (unitsOfP (lawPcs ns)) []
  have h2 := units_len (lawPcs ns)
  have h3 : (lawPcs ns).length = ns.length + 3 := by simp [lawPcs]
  unfold lawIs trAll
  simp at h1
  omega
theorem utext_pcs : ∀ ps : List Pc, utext (unitsOfP ps) = ps.flatMap fun p => p.text.cps.toList
  | [] => rfl
  | p :: ps => by
    have h := utext_pcs ps
    unfold unitsOfP utext at h ⊢
    rw [List.flatMap_cons, List.flatMap_append, List.flatMap_cons, h]
    congr 1
    cases p <;> rfl
theorem pc_len (p : Pc) : p.text.cps.toList.length ≤ 5 := by cases p <;> decide
theorem ptext_len : ∀ ps : List Pc, (ps.flatMap fun p => p.text.cps.toList).length ≤ 5 * ps.length
  | [] => by simp
  | p :: ps => by
    have h := ptext_len ps
    have h2 := pc_len p
    rw [List.flatMap_cons, List.length_append, List.length_cons]
    omega
theorem told_size (n : Int) (one : Bool) (bs bm : Array UInt8) (k : Nat) (h1 : bs.size ≤ k) (h2 : bm.size ≤ k) : (told n one bs bm).1.size ≤ k + 4 ∧ (told n one bs bm).2.size ≤ k + 4 := by
  have h3 := take2_size bm
  have h4 := drop1_size bm
  have hS : (toldS n bs bm).size ≤ k + 4 := by
    unfold toldS
    repeat' split
    all_goals (try simp)
    all_goals omega
  have hM : (toldM n bm).size ≤ k + 4 := by
    unfold toldM
    repeat' split
    all_goals (try simp)
    all_goals omega
  unfold told
  split
  · refine ⟨?_, hM⟩
    dsimp only
    split
    · exact hM
    · omega
  · refine ⟨hS, ?_⟩
    dsimp only
    split
    · exact hS
    · omega
theorem told_one (n : Int) (bs : Array UInt8) : (told n true bs bs).2 = (told n true bs bs).1 := by
  unfold told
  split <;> simp
end
/-- an object that is a cell -/
structure CellObj (y : Addr) (o : Obj) : Prop where
  d : ∃ v, o.data = .cell v
theorem CellObj.off {y i : Addr} {o oi : Obj} {vs : Array Value} (C : CellObj y o) {g h : Heap} {L : Addr} {l : List (Addr × Obj)} (N : News g L h ((i, oi) :: l)) (hm : (y, o) ∈ l) (hi : oi.data = .fields vs) : @Ne Nat y i := fun e => by
  have a := (N _ (.head _)).1
  have b := (N _ (.tail _ hm)).1
  obtain ⟨v, hv⟩ := C.d
  dsimp only at a b
  rw [e, a] at b
  cases b
  rw [hi] at hv
  cases hv
theorem unrEnd_head {h₀ : Heap} {L I : Addr} {it : Obj} {rest : (Str → Option Value) → List (Addr × Obj) → Prop} {s₁ : Shared} {h' : Heap} {tk : Nat} {m' : Str → Option Value} {l : List (Addr × Obj)} (F : Fr h₀ L h' m') (N : News h₀ L h' ((I, it) :: l))
    (off : OffI I it l) (r : rest m' l) : UnrEnd h₀ L s₁ I it rest { s₁ with heap := h', toks := tk } :=
  UnrEnd.intro F N l (fun _ h => h) (fun p hp e => by
    rcases off.at p hp with h | h
    · exact h e
    · have h1 := (N _ (.tail _ hp)).1
      have h2 := (N _ (.head _)).1
      rw [e] at h1
      exact h (congrArg Obj.cls (Option.some.inj (h1.symm.trans h2)))) r
theorem slices_nil' : (Txt.slice ⟨#[98]⟩ none (some (-1)) ++ Txt.slice (Str.ofString "a") (some 1) none : Str) = ⟨#[]⟩ := by decide +kernel
theorem carried_str {x y : Str} {t : Tok} (e : x = y) : Carried (.str x t) (.str y) := e ▸ .str _ _
section
variable {prog : Program} {w : World} {A : Around} {E : Value → Shared → Prop} {s : Shared} {h₀ : Heap} {L : Addr} {m : Str → Option Value}
theorem tuple_made {items : List Value} {C : Addr} {Q : Value → Shared → Prop} (X : s.heap.Ns C m) (hsz : items.length ≤ sizeLine)
    (h : ∀ a h', h'.Ns C m → (∀ b o, s.heap.get? b = some o → h'.get? b = some o) → IsTup h' a items.toArray → Q (.ref a) { s with heap := h' }) : wpAny (model prog w) A (newTuple items) Q E s := by
  refine wpAny_newTuple (h _ _ ?_ (fun b o e => Heap.get?_push_of_some _ e) ?_) hsz
  · obtain ⟨o, es, ep, e, r⟩ := X
    exact ⟨o, es, ep, Heap.get?_push_of_some _ e, r⟩
  · exact ⟨_, Heap.get?_push_size _ rfl, rfl, _, rfl⟩
theorem menu_sub {value slice : PySem.Expr} {ta : Addr} {a : Int} {u : Shared} {tk t0 t1 t2 t3 t4 t5 t6 t7 : Tok}
    (hT : IsTup s.heap ta [.str (Str.ofString "*") t0, .str (Str.ofString "?") t1, .str (Str.ofString "a") t2, .str (Str.ofString ".") t3, .str (Str.ofString "**") t4, .str (Str.ofString "[b-a]") t5, .str (Str.ofString "[!a]") t6, .str (Str.ofString "é") t7].toArray)
    (hK : Keeps u s)
    (hs : subscripted slice false (.ref ta) (.int (a.fmod 8) tk) = operate [.ref ta, .int (a.fmod 8) tk] (getItem (.ref ta) (.int (a.fmod 8) tk)) := by with_unfolding_all rfl) :
    wpAny (model prog w) A (subscriptTail value slice (.ref ta) (.int (a.fmod 8) tk)) (fun y s => SeqLeaf (Carried y (PyData.str (menu a).text) ∧ Keeps u s)) E s := by
  have h0 : 0 ≤ a.fmod 8 := PySem.W.fmod_lo a (by omega)
  have h1 : a.fmod 8 < 8 := PySem.W.fmod_hi a (by omega)
  unfold menu
  revert hs h0 h1
  generalize a.fmod 8 = k
  intro hs h0 h1
  have hk : k = 0 ∨ k = 1 ∨ k = 2 ∨ k = 3 ∨ k = 4 ∨ k = 5 ∨ k = 6 ∨ k = 7 := by omega
  rcases hk with rfl | rfl | rfl | rfl | rfl | rfl | rfl | rfl
  all_goals
    refine item_tupleT hT (by omega) (by omega) (seqIndex_of h0 h1) rfl ?_ hs
    refine SeqLeaf.intro ⟨?_, hK⟩
    exact carried_str (by decide +kernel)
end
theorem carried_at : ∀ {ys : List Value} {ns : List Int}, CarriedAll ys (ns.map fun x => PyData.str (menu x).text) → ys.length = ns.length ∧ ∀ (i : Nat) (v : Value), ys[i]? = some v → ∃ pc, (ns.map menu)[i]? = some pc ∧ pcIs pc v
  | [], [], _ => ⟨rfl, fun i v h => by simp at h⟩
  | v :: vs, n :: ns, .cons c r => by
    obtain ⟨h1, h2⟩ := carried_at r
    refine ⟨by simp [h1], fun i u hu => ?_⟩
    cases i with
    | zero =>
      simp only [List.getElem?_cons_zero, Option.some.injEq] at hu
      subst hu
      refine ⟨menu n, rfl, ?_⟩
      generalize hd : PyData.str (menu n).text = d at c
      cases c with
      | str x t => cases hd; exact ⟨t, rfl⟩
      | _ => cases hd
    | succ i =>
      obtain ⟨pc, e1, e2⟩ := h2 i u (by simpa using hu)
      exact ⟨pc, by simpa using e1, e2⟩
theorem pcs_of {ys : List Value} {ns : List Int} {t1 t2 t3 : Tok} (C : CarriedAll ys (List.map (fun x => PyData.str (menu x).text) (List.filter (fun _ => true) ns))) :
    PcsAre ([.str (Str.ofString "*") t1, .str (Str.ofString "a") t2, .str (Str.ofString "?") t3] ++ ys) (lawPcs ns) := by
  rw [List.filter_eq_self.mpr (fun _ _ => rfl)] at C
  obtain ⟨h1, h2⟩ := carried_at C
  refine ⟨by simp [lawPcs, h1], fun i v hv => ?_⟩
  match i with
  | 0 => exact ⟨.star, rfl, t1, by cases hv; exact congrArg (Value.str · t1) (by decide +kernel)⟩
  | 1 => exact ⟨.a, rfl, t2, by cases hv; exact congrArg (Value.str · t2) (by decide +kernel)⟩
  | 2 => exact ⟨.q, rfl, t3, by cases hv; exact congrArg (Value.str · t3) (by decide +kernel)⟩
  | i + 3 =>
    obtain ⟨pc, e1, e2⟩ := h2 i v (by simpa using hv)
    exact ⟨pc, by simpa [lawPcs] using e1, e2⟩
section
variable {M : Model} {A : Around} {E : Value → Shared → Prop} {s : Shared} {env : Env}
theorem C_Call_type0 {id : Str} {pn pos : Pos} {T : String} {Q : Value → Shared → Prop}
    (h : wpAny M A (eval (.Name id pn) env) (fun f s₁ => CKeep (f = .type T) (wpC M A (call (.type T) [] []) Q E s₁)) E s) :
    wpC M A (eval (.Call (.Name id pn) [] [] pos) env) Q E s := by
  rw [arm_eval_Call_Name']
  refine C_bindA (wpAny_mono h (fun f s₁ h₁ => ?_) fun _ _ x => x)
  obtain ⟨rfl, h₁⟩ := h₁
  show wpC M A (callWith pos (.type T) [] [] []) Q E s₁
  unfold callWith
  refine C_bindA (wpAny_holding (wpAny_of_eq (a := ⟨[], []⟩) (by rfl) (C_bindA (wpAny_standAt ?_))))
  have tail : ∀ {t : Sem Value}, wpC M A t Q E s₁ → wpC M A (t >>= fun r => holding [r] point >>= fun _ => pure r) Q E s₁ :=
    fun ht => C_bind (C_mono ht (fun r s₂ hr => C_any (wpAny_bind (wpAny_holding (wpAny_point (wpAny_pure hr))))) fun _ _ x => x)
  refine C_bindA (m := keeperOf (.type T)) (wpAny_of_eq (a := .machine) rfl ?_)
  dsimp only [List.any_nil, List.nil_append]
  (try simp only [List.any_nil, Bool.false_or, Bool.or_false, Bool.false_eq_true, if_false])
  first
    | exact tail h₁
    | exact tail (by unfold callMarked; exact C_keep h₁)
    | (split
       · exact tail h₁
       · exact tail (by unfold callMarked; exact C_keep h₁))
end
section
variable {s : Shared} {h₀ : Heap} {L : Addr} {m : Str → Option Value} {news : List (Addr × Obj)}
theorem newBA_after {b : Array UInt8} {P : Addr → Shared → Prop} (F : Fr h₀ L s.heap m) (N : News h₀ L s.heap news)
    (h : ∀ a h' tk, Fr h₀ L h' m → News h₀ L h' ((a, baObj b) :: news) → (∀ q ∈ news, q.1 < a) → P a { s with heap := h', toks := tk }) :
    ∀ s', Wrote s.heap.objs.size b { s with heap := s.heap.push (baObj #[]) } s' → P s.heap.objs.size s' :=
  have hlt : ∀ q ∈ news, q.1 < s.heap.objs.size := fun q hq => Heap.lt_size (N q hq).1
  Wrote.after (s := { s with heap := s.heap.push (baObj #[]) }) (F.push _) (News.push F N _) (fun q hq => Nat.ne_of_lt (hlt q hq)) fun h' tk F' N' => h _ h' tk F' N' hlt
end
section
variable {M : Model} {A : Around} {E : Value → Shared → Prop} {s : Shared} {env : Env}
theorem C_IfExp {test body orelse : PySem.Expr} {pos : Pos} {Q : Value → Shared → Prop} (h : wpAny M A (isTrue test env (eval test env)) (fun b s₂ => if b = true then wpC M A (eval body env) Q E s₂ else wpC M A (eval orelse env) Q E s₂) E s) :
    wpC M A (eval (.IfExp test body orelse pos) env) Q E s := by
  rw [eval_IfExp]
  refine C_bindA (wpAny_mono h (fun b s₂ h₂ => ?_) fun _ _ x => x)
  cases b
  · simpa using h₂
  · simpa using h₂
end
theorem boot_ba : bootBuiltins (Str.ofString "bytearray") = some (.type "bytearray") := by decide +kernel
section
theorem PcsAre.tail {v : Value} {vs : List Value} {p : Pc} {ps : List Pc} (h : PcsAre (v :: vs) (p :: ps)) : PcsAre vs ps :=
  ⟨by simpa using h.1, fun i u hu => by simpa using h.2 (i + 1) u (by simpa using hu)⟩
theorem strs_of : ∀ {vs : List Value} {ps : List Pc}, PcsAre vs ps → StrsAre vs (ps.map Pc.text)
  | [], [], _ => .nil
  | [], _ :: _, h => by simpa using h.1
  | _ :: _, [], h => by simpa using h.1
  | v :: vs, p :: ps, h => by
    obtain ⟨pc, e, t, rfl⟩ := h.2 0 v rfl
    cases e
    exact .cons _ _ (strs_of h.tail)
theorem join_cps : ∀ ps : List Pc, (Txt.join (Str.ofString "") (ps.map Pc.text)).cps.toList = ps.flatMap fun p => p.text.cps.toList
  | [] => by decide +kernel
  | [p] => by
    show (PySem.Builtin.Str.glued _ _).cps.toList = _
    rw [StrLaws.glued_eq_join]
    simp [Str.join]
  | p :: q :: ps => by
    have ih := join_cps (q :: ps)
    have ih' : (PySem.Builtin.Str.glued (Str.ofString "") ((q :: ps).map Pc.text)).cps.toList = (q :: ps).flatMap fun p => p.text.cps.toList := ih
    rw [StrLaws.glued_eq_join] at ih'
    show (PySem.Builtin.Str.glued _ _).cps.toList = _
    rw [StrLaws.glued_eq_join]
    show (p.text ++ Str.ofString "" ++ Str.join (Str.ofString "") ((q :: ps).map Pc.text)).cps.toList = _
    have e : (p.text ++ Str.ofString "" ++ Str.join (Str.ofString "") ((q :: ps).map Pc.text)).cps = (p.text.cps ++ (Str.ofString "").cps) ++ (Str.join (Str.ofString "") ((q :: ps).map Pc.text)).cps := rfl
    have e0 : (Str.ofString "").cps = #[] := by decide +kernel
    rw [e, e0, List.flatMap_cons, ← ih']
    simp
theorem pieces_weight : ∀ ps : List Pc, ((ps.map Pc.text).map (·.length)).sum + (ps.map Pc.text).length ≤ 6 * ps.length
  | [] => by simp
  | p :: ps => by
    have h := pieces_weight ps
    have h2 : p.text.length ≤ 5 := by cases p <;> decide
    simp only [List.map_cons, List.sum_cons, List.length_cons] at h ⊢
    omega
/-- the law's loop: the holes and what they are said to hold -/
noncomputable def LawInv (g : Heap) (st mk q qi c : Addr) (one : Bool) (rest : List (Addr × Obj)) (i : Nat) (g' : Heap) (m' : Str → Option Value) (news' : List (Addr × Obj)) : Prop :=
  ∃ bs bm t1 t2 co, g' = g ∧ m' (Str.ofString "one") = some (.bool one) ∧ m' (Str.ofString "items") = some (.ref qi) ∧ m' (Str.ofString "star") = some (.ref st) ∧ m' (Str.ofString "mark") = some (.ref mk) ∧ m' (Str.ofString "rows") = some (.ref q) ∧
    m' (Str.ofString "in_star") = some (.bytes bs t1) ∧ m' (Str.ofString "in_mark") = some (.bytes bm t2) ∧ news' = (st, baObj bs) :: (mk, baObj bm) :: (c, co) :: rest ∧ CellObj c co ∧ bs.size ≤ 4 * i ∧ bm.size ≤ 4 * i ∧ (one = true → bm = bs)
noncomputable def forBody : PySem.Stmt → List PySem.Stmt
  | .For _ _ b _ _ => b
  | _ => []
end
section
theorem name_inj : ∀ a b : It, a.name = b.name → a = b := by
  intro a b h
  cases a <;> cases b <;> first | rfl | exact absurd h (by decide +kernel)
theorem are_of_paired {R : It → Value → Prop} : ∀ {vs ys : List Value} {is : List It}, AreL itemIs vs is → Paired (fun v y => ∃ k, itemIs k v ∧ R k y) vs ys → AreL R ys is
  | [], _, [], _, .nil => .nil
  | [], _, _ :: _, h, _ => by simpa using h.1
  | _ :: _, _, [], h, _ => by simpa using h.1
  | v :: vs, y :: ys, k :: is, h, .cons ⟨k', a, b⟩ r => by
    have ih := are_of_paired (is := is) ⟨by simpa using h.1, fun i v k h1 h2 => h.2 (i + 1) v k (by simpa using h1) (by simpa using h2)⟩ r
    have e : itemIs k v := h.2 0 v k rfl rfl
    refine ⟨by simp [ih.1], fun i u j h1 h2 => ?_⟩
    cases i with
    | zero =>
      simp at h1 h2
      subst h1; subst h2
      obtain ⟨t, rfl⟩ := a
      obtain ⟨t', e⟩ := e
      injection e with e1 _
      rw [← name_inj _ _ e1]
      exact b
    | succ i => exact ih.2 i u j (by simpa using h1) (by simpa using h2)
variable {prog : Program} {w : World} {A : Around} {E : Value → Shared → Prop} {s : Shared} {h₀ : Heap} {L : Addr} {m : Str → Option Value} {env : Env}
/-- a comprehension without a test over a list of items' names, stored into a name -/
theorem comp_items {R : It → Value → Prop} {elt iter : PySem.Expr} {x y : Str} {px py : Pos} {scope : Scope} {cl : List (Str × Addr)} {pos spos : Pos} {Q : Flow → Shared → Prop}
    (hsw : swapsWith (.ListComp elt [⟨.Name x px, iter, [], 0⟩] scope pos) (some (.Name y py)) spos.line env = pure true) (hL : env.locals = L)
    (hh : A.handled = none) (hclos : closureFor scope env = pure cl) (hcell : ∀ z ∈ scope.names, z.2 ≠ .cell) (hkind : scope.kind = .function)
    (hnames : ∀ z ∈ scope.names, z.2 = .local → scope.names.lookup z.1 = some .local) (hx : scope.names.lookup x = some .local)
    (hy : env.kindOf y = some .local) (hp : (env.scope.kind == .class || (env.scope.kind == .module && env.locals != env.globals)) = false)
    {news : List (Addr × Obj)} {ax : Addr} {vs : List Value} {is : List It} {n : Nat} (F : Fr h₀ L s.heap m) (N : News h₀ L s.heap news) (hax : (ax, listOf vs.toArray n) ∈ news) (hi : AreL itemIs vs is) (hsz : is.length ≤ sizeLine)
    (hiter : ∀ {Q : Value → Shared → Prop}, Q (.ref ax) s → wpAny (model prog w) A (eval iter env) Q E s)
    (helt : ∀ C k t s₂ m₂ E', Fr s.heap C s₂.heap m₂ → m₂ x = some (.str (It.name k) t) →
        wpAny (model prog w) A (eval elt (compEnvC scope cl C env)) (fun y s₃ => R k y ∧ Keeps s₂ s₃) E' s₂)
    (hQ : ∀ D (ys : List Value) h' tk n', Fr h₀ L h' (fun z => if z = y then some (.ref D) else m z) → News h₀ L h' ((D, listOf ys.toArray n') :: news) → (∀ q ∈ news, q.1 ≠ D) → AreL R ys is → Q .next { s with heap := h', toks := tk })
    (hs : ∀ x, foldedSetIterable iter env x = pure x) :
    wpAny (model prog w) A (exec (.Assign [.Name y py] (.ListComp elt [⟨.Name x px, iter, [], 0⟩] scope pos) spos) env) Q E s := by
  subst hL
  refine wpAny_Assign_ListComp_free (fun _ => true) (fun v y => ∃ k, itemIs k v ∧ R k y) hsw hclos hcell hkind hnames hx hy hp (hiter ?_) hs
  have hl := News.isList N hax
  have hlt : ax < s.heap.objs.size := by obtain ⟨_, e, _⟩ := hl; exact Heap.lt_size e
  have up : ∀ (s₃ : Shared), (∀ b o, b ∉ [s.heap.objs.size] → (s.heap.push { cls := .type "list_iterator", data := .fields #[.ref ax, .int 0 0] }).get? b = some o → s₃.heap.get? b = some o) → ∀ b o, s.heap.get? b = some o → s₃.heap.get? b = some o :=
    fun s₃ hk b o e => hk b o (by simpa using Nat.ne_of_lt (Heap.lt_size e)) (Heap.get?_push_of_some _ e)
  have fp : ∀ b ∈ [s.heap.objs.size, ax], b < (s.heap.push { cls := .type "list_iterator", data := .fields #[.ref ax, .int 0 0] }).objs.size := fun b hb => by
    rw [Heap.size_push]
    rcases List.mem_cons.mp hb with rfl | hb
    · exact Nat.lt_succ_self _
    · rw [List.mem_singleton.mp hb]; exact Nat.lt_succ_of_lt hlt
  refine wpAny_pyIter_list hl ⟨s.heap.objs.size, [s.heap.objs.size, ax], [s.heap.objs.size], vs.toArray.size, _, _, m, rfl, Walks.list hh _ _ (Nat.ne_of_lt hlt) vs.toArray, (by rw [List.size_toArray, hi.1]; exact hsz), ⟨⟨_, Heap.get?_push_size _ rfl, rfl, rfl⟩, hl.push _⟩, fp, ?_, F.ns.push _, ⟨?_, ?_⟩, ?_⟩
  · simpa using Nat.ne_of_lt F.ns.lt
  · intro C i v s₃ m₃ E' hC hP hn hm hk _
    exact wpAny_tests_nil ⟨rfl, Keeps.refl _⟩
  · intro C i v s₃ m₃ E' hC hP _ hn hm hk _
    obtain ⟨k, _, t, rfl⟩ := hi.at (by simpa using hP)
    exact wpAny_mono (helt C k t s₃ m₃ E' ⟨hn, up s₃ hk, Nat.le_of_succ_le (by simpa [Heap.size_push] using hC)⟩ hm) (fun y s₄ h₄ => ⟨⟨k, ⟨t, rfl⟩, h₄.1⟩, h₄.2⟩) fun _ _ e => e
  · intro D h' tk ys vs' hnew hlD hplD hlen hP hF hn' hk
    have e : vs' = vs := by simpa using list_of_places hlen hP
    subst e
    rw [List.filter_eq_self.mpr (fun _ _ => rfl)] at hF
    have keep : ∀ b o, b ≠ env.locals → s.heap.get? b = some o → h'.get? b = some o := fun b o hb e =>
      hk b o hb (by simpa using Nat.ne_of_lt (Heap.lt_size e)) (Heap.get?_push_of_some _ e)
    obtain ⟨n', hD⟩ := hplD
    have hDn : ∀ b o, s.heap.get? b = some o → b ≠ D := fun b o e z => by rw [← z, Heap.get?_push_of_some _ e] at hnew; cases hnew
    refine hQ D ys.toList h' tk n' ⟨hn', fun b o e => keep b o (Nat.ne_of_lt (Nat.lt_of_lt_of_le (Heap.lt_size e) F.above)) (F.keep b o e), F.above⟩ (fun q hq => ?_) (fun q hq => hDn _ _ (N q hq).1) (are_of_paired hi hF)
    rcases List.mem_cons.mp hq with rfl | hq
    · refine ⟨by rw [Array.toArray_toList]; exact hD, ?_, ?_⟩
      · obtain ⟨o, _, _, ho, _⟩ := F.ns
        exact (hDn _ _ ho).symm
      · cases e : h₀.get? D with
        | none => rfl
        | some o' => exact absurd rfl (hDn _ _ (F.keep _ _ e))
    · exact ⟨keep _ _ (N q hq).2.1 (N q hq).1, (N q hq).2⟩
end
section
theorem value_due (k : It) (bs bm : Array UInt8) (t1 t2 t3 t4 t5 t6 t7 : Tok) : ∃ t, valueAt [(Str.ofString "star", Value.bytes bs t1), (Str.ofString "mark", Value.bytes bm t2), (Str.ofString "a", Value.bytes #[97] t3), (Str.ofString ".", Value.bytes #[92, 46] t4),
    (Str.ofString "[b-a]", Value.bytes #[40, 63, 33, 41] t5), (Str.ofString "[!a]", Value.bytes #[91, 94, 97, 93] t6), (Str.ofString "é", Value.bytes #[] t7)] k.name = some (.bytes (cont bs bm k) t) := by
  cases k
  · exact ⟨t1, by kernel_rfl⟩
  · exact ⟨t2, by kernel_rfl⟩
  · exact ⟨t3, by kernel_rfl⟩
  · exact ⟨t4, by kernel_rfl⟩
  · exact ⟨t5, by kernel_rfl⟩
  · exact ⟨t6, by kernel_rfl⟩
  · exact ⟨t7, by kernel_rfl⟩
variable {prog : Program} {w : World} {A : Around} {E : Value → Shared → Prop} {s : Shared} {h₀ : Heap} {L : Addr} {m₂ : Str → Option Value} {news : List (Addr × Obj)}
theorem elt_due {cenv : Env} {pp pi ps : Pos} {c da : Addr} {co od : Obj} {k : It} {t : Tok} {kvs : List (Str × Value)} {v : Value}
    (hk : cenv.scope.kind = .function) (hp : cenv.kindOf (Str.ofString "plain") = some .cell) (hc : cenv.cells.lookup (Str.ofString "plain") = some c) (hi : cenv.kindOf (Str.ofString "item") = some .local)
    (N : News h₀ L s.heap news) (hmc : (c, co) ∈ news) (hcd : co.data = .cell (some (.ref da))) (hmd : (da, od) ∈ news) (hd : od.IsDictOf (PySem.strKind prog w) kvs) (hn : s.heap.Ns cenv.locals m₂) (hm : m₂ (Str.ofString "item") = some (.str k.name t)) (hv : valueAt kvs k.name = some v) :
    wpAny (model prog w) A (eval (.Subscript (.Name (Str.ofString "plain") pp) (.Name (Str.ofString "item") pi) ps) cenv) (fun y s₃ => y = v ∧ Keeps s s₃) E s := by
  refine Subscript_ ?_
  refine wpAny_Name (wpAny_loadName_cell hk hp hc ⟨co, N.get hmc, hcd⟩ ?_) (by decide)
  refine wpAny_Name (wpAny_loadName_local hk hi hn hm ?_) (by decide)
  refine kdt_tail N hmd hd ?_
  exact kdt_getItem N hmd hd (strKind_is _ _ _ _) hv ⟨rfl, ⟨_, _, rfl, fun _ _ e => e⟩⟩
end
theorem cell_ne {h₀ h : Heap} {L c : Addr} {co : Obj} {v0 : Option Value} {news : List (Addr × Obj)} (N : News h₀ L h ((c, co) :: news)) (hv : co.data = .cell v0) (hd : ∀ z ∈ news, z.1 ≠ c ∨ ∀ v, z.2.data ≠ .cell v) : ∀ z ∈ news, z.1 ≠ c := fun z hz => by
  rcases hd z hz with x | x
  · exact x
  · intro e
    have a := (N _ (.head _)).1
    have b := (N z (.tail _ hz)).1
    rw [e] at b
    exact x v0 ((congrArg Obj.data (Option.some.inj (b.symm.trans a))).trans hv)
section
noncomputable def isBy (b : Array UInt8) : Value → Bool
  | .bytes x _ => x.toList == b.toList
  | _ => false
noncomputable abbrev dueIs (bs bm : Array UInt8) (k : It) (y : Value) : Prop := ∃ t, y = .bytes (cont bs bm k) t
theorem AreL.tl {P : It → Value → Prop} {v : Value} {vs : List Value} {k : It} {is : List It} (h : AreL P (v :: vs) (k :: is)) : P k v ∧ AreL P vs is :=
  ⟨h.2 0 v k rfl rfl, by simpa using h.1, fun i u j a b => h.2 (i + 1) u j (by simpa using a) (by simpa using b)⟩
theorem count_due {bs bm b : Array UInt8} : ∀ {ys : List Value} {is : List It}, AreL (dueIs bs bm) ys is → ys.countP (isBy b) = is.countP (sameAs bs bm b)
  | [], [], _ => rfl
  | [], _ :: _, h => by simpa using h.1
  | _ :: _, [], h => by simpa using h.1
  | y :: ys, k :: is, h => by
    obtain ⟨⟨t, rfl⟩, r⟩ := h.tl
    rw [List.countP_cons, List.countP_cons, count_due r]
    rfl
theorem idx_due {bs bm b : Array UInt8} : ∀ {ys : List Value} {is : List It}, AreL (dueIs bs bm) ys is → ys.findIdx (isBy b) = is.findIdx (sameAs bs bm b)
  | [], [], _ => rfl
  | [], _ :: _, h => by simpa using h.1
  | _ :: _, [], h => by simpa using h.1
  | y :: ys, k :: is, h => by
    obtain ⟨⟨t, rfl⟩, r⟩ := h.tl
    rw [List.findIdx_cons, List.findIdx_cons, idx_due r]
    rfl
theorem eq_due {bs bm b : Array UInt8} {t : Tok} {ys : List Value} {is : List It} (h : AreL (dueIs bs bm) ys is) {y : Value} (hy : y ∈ ys) : MeetsSeq.EqGives y (.bytes b t) (isBy b y) := by
  obtain ⟨i, hi, rfl⟩ := List.mem_iff_getElem.mp hy
  obtain ⟨k, _, u, e⟩ := h.at (List.getElem?_eq_getElem hi)
  rw [e]
  exact EqGivesBytes _ _ _ _
variable {prog : Program} {w : World} {A : Around} {E : Value → Shared → Prop} {s : Shared} {h₀ : Heap} {L : Addr} {news : List (Addr × Obj)} {Q : Value → Shared → Prop}
theorem list_count_due {bs bm b : Array UInt8} {t : Tok} {ys : List Value} {is : List It} {D : Addr} {n : Nat} (N : News h₀ L s.heap news) (hm : (D, listOf ys.toArray n) ∈ news) (hy : AreL (dueIs bs bm) ys is)
    (h : Q (.int ((is.countP (sameAs bs bm b) : Nat) : Int) s.toks) { s with toks := s.toks + 1 }) : wpAny (model prog w) A (call (.builtin "list.count") [.ref D, .bytes b t]) Q E s := by
  have ho := N.get hm
  refine call_meets PySem.F.slot_list_count ⟨_, ho, rfl⟩ PySem.F.entry_list_count (PySem.F.args_list_count_2 _ _) (PySem.SeqAt.list_countAt D ys.toArray n none #[] (.bytes b t) (isBy b)) ⟨ho, fun y hy' => (eq_due hy (by simpa using hy')).at _ _, ?_⟩
  rw [show ys.toArray.toList = ys from rfl, count_due hy]
  exact h
theorem list_index_due {bs bm b : Array UInt8} {t : Tok} {ys : List Value} {is : List It} {D : Addr} {n : Nat} (N : News h₀ L s.heap news) (hm : (D, listOf ys.toArray n) ∈ news) (hy : AreL (dueIs bs bm) ys is) (hlen : is.length ≤ 26) (hex : ∃ k ∈ is, sameAs bs bm b k = true)
    (h : Q (.int ((is.findIdx (sameAs bs bm b) : Nat) : Int) s.toks) { s with toks := s.toks + 1 }) : wpAny (model prog w) A (call (.builtin "list.index") [.ref D, .bytes b t]) Q E s := by
  have ho := N.get hm
  have hj := List.findIdx_lt_length_of_exists hex
  rw [← idx_due hy, ← hy.1] at hj
  rw [← idx_due hy] at h
  have hl := hy.1
  refine call_meets PySem.F.slot_list_index ⟨_, ho, rfl⟩ PySem.F.entry_list_index (PySem.F.args_list_index_2 _ _)
    (PySem.SeqAt.list_indexAt D ys.toArray n none #[] (.bytes b t) (isBy b) (ys.findIdx (isBy b)) (by simpa using hj) (by omega) ?_ ?_) ⟨ho, fun y hy' => (eq_due hy (by simpa using hy')).at _ _, h⟩
  · simpa using List.findIdx_getElem (w := hj)
  · intro j hjs hlt
    simpa using List.not_of_lt_findIdx hlt
/-- the page -/
noncomputable def flat (bs bm : Array UInt8) (is : List It) : Array UInt8 := (is.flatMap fun k => (cont bs bm k).toList).toArray
theorem flat_snoc (bs bm : Array UInt8) (is : List It) (k : It) : flat bs bm (is ++ [k]) = flat bs bm is ++ cont bs bm k := by
  simp [flat]
theorem cont_size {bs bm : Array UInt8} (h1 : bs.size ≤ 100) (h2 : bm.size ≤ 100) (k : It) : (cont bs bm k).size ≤ 100 := by
  cases k <;> simp [cont] <;> assumption
theorem flat_size {bs bm : Array UInt8} (h1 : bs.size ≤ 100) (h2 : bm.size ≤ 100) : ∀ is : List It, (flat bs bm is).size ≤ 100 * is.length
  | [] => by simp [flat]
  | k :: is => by
    have a := flat_size h1 h2 is
    have b := cont_size h1 h2 k
    have e : (flat bs bm (k :: is)).size = (cont bs bm k).size + (flat bs bm is).size := by simp [flat]
    rw [e, List.length_cons]
    omega
noncomputable def PgInv (g : Heap) (m0 : Str → Option Value) (bs bm : Array UInt8) (is : List It) (rest : List (Addr × Obj)) (i : Nat) (g' : Heap) (m' : Str → Option Value) (news' : List (Addr × Obj)) : Prop :=
  ∃ t, g' = g ∧ (∀ y, y ≠ Str.ofString "page" → y ≠ Str.ofString "row" → m' y = m0 y) ∧ m' (Str.ofString "page") = some (.bytes (flat bs bm (is.take i)) t) ∧ news' = rest
end
section
variable {prog : Program} {w : World} {A : Around} {E : Value → Shared → Prop} {s : Shared}
theorem owner_b : Manifest.owners.lookup (String.ofList ['s', 'e', 't', 'y', 'b'].reverse) = some Manifest.sig_bytes := by kernel_rfl
theorem slot_b_join : Slot "bytes" "join" "bytes.join" := .of (owner := "bytes") (n := "join") (by rw [typeLookup_type, builtinLookup_eq_fast]; kernel_rfl) (by decide +kernel) (by decide +kernel) (by decide +kernel)
    (by first | exact .inl (by decide +kernel) | exact .inr (by decide +kernel)) (by rw [isSubtype_type]; kernel_rfl)
theorem entry_b_join : entryFor table "bytes.join" = some Builtin.«bytes.join» := entryFor_of_tree (by kernel_rfl)
theorem args_b_join (a b : Value) : argsOk "bytes.join" ⟨[a, b], []⟩ := by
  unfold argsOk; rw [signature?_of (id := "bytes.join") (n := ['n', 'i', 'o', 'j']) (o := ['s', 'e', 't', 'y', 'b']) (by kernel_rfl) owner_b]; kernel_rfl
theorem take_j {x : Array UInt8} {t : Tok} {Q : Option (Array UInt8 × Option Value) → Shared → Prop} (h : ∀ s', Keeps s s' → Q (some (x, none)) s') :
    wpAny (model prog w) A (Builtin.Bytes.takeBufferQuiet? "bytes.join" (.bytes x t) 0) Q E s := by
  refine byText (P := fun w => wpAny (model prog w) A (Builtin.Bytes.takeBufferQuiet? "bytes.join" (.bytes x t) 0) Q E s) w ?_ ?_
  · exact ev_treeK (PySem.W.ZFast.zw9510677018623344767 "bytes.join" (.bytes x t) 0) 60 [] [] (by rw [← PySem.W.ZFast.ze9510677018623344767]) (v := some (x, none)) (by kernel_rfl) (by kernel_rfl) (fun _ h => nomatch h) h
  · exact ev_treeK (PySem.W.ZFast.zw9510677018623344767 "bytes.join" (.bytes x t) 0) 60 [] [] (by rw [← PySem.W.ZFast.ze9510677018623344767]) (v := some (x, none)) (by kernel_rfl) (by kernel_rfl) (fun _ h => nomatch h) h
theorem wp_range {σ : Type} {n : Nat} {f : Nat → σ → Sem (ForInStep σ)} (st : Nat → σ) (I : Shared → Prop) {Q : σ → Shared → Prop}
    (turn : ∀ i s, i < n → I s → wpAny (model prog w) A (f i (st i)) (fun r s' => r = .yield (st (i + 1)) ∧ I s') E s) (h : ∀ s', I s' → Q (st n) s') :
    ∀ k i s, i + k = n → I s → wpAny (model prog w) A (forIn (List.range' i k 1) (st i) f) Q E s
  | 0, i, s, e, hI => by
    subst e
    exact wpAny_pure (h s hI)
  | k + 1, i, s, e, hI => by
    rw [List.range'_succ, List.forIn_cons]
    refine wpAny_bind (wpAny_mono (turn i s (by omega) hI) (fun r s' hr => ?_) fun _ _ x => x)
    obtain ⟨rfl, hI'⟩ := hr
    exact wp_range st I turn h k (i + 1) s' (by omega) hI'
theorem seq_items {D : Addr} {o : Obj} {xs : Array Value} {n : Nat} {Q : Option (Array Value) → Shared → Prop} (ho : s.heap.get? D = some o) (hd : o.data = .seq xs n) (h : Q (some xs) s) : wpAny (model prog w) A (seqItems? (.ref D)) Q E s := by
  unfold seqItems?
  refine wpAny_bind (wpAny_load ho ?_)
  rw [hd]
  exact wpAny_pure h
noncomputable def bvs (l : List (Array UInt8 × Tok)) : List Value := l.map fun p => .bytes p.1 p.2
noncomputable def bvt (l : List (Array UInt8 × Tok)) : List (Value × Option Value) := l.map fun p => (.bytes p.1 p.2, none)
theorem bvt_off : ∀ l : List (Array UInt8 × Tok), ((bvt l).any fun x => x.1.onHeap) = false
  | [] => rfl
  | p :: r => by
    show (Value.onHeap (.bytes p.1 p.2) || ((bvt r).any fun x => x.1.onHeap)) = false
    rw [bvt_off r]
    rfl
theorem bvs_at {l : List (Array UInt8 × Tok)} {i : Nat} (hi : i < l.length) : (bvs l).toArray.getD i .none = .bytes (l[i]).1 (l[i]).2 := by
  simp [bvs, hi]
theorem not_one {M : Model} {A : Around} {Q : Fin → Shared → Prop} {E : Value → Shared → Prop} {s : Shared} {xs : Array Value} (h : xs.size ≠ 1) (f : Value → Sem Fin) (g : Sem Fin) : wpAny M A (match xs with | #[x] => f x | _ => g) Q E s ↔ wpAny M A g Q E s := by
  rcases xs with ⟨xs⟩
  rcases xs with _ | ⟨a, _ | ⟨b, r⟩⟩
  · exact Iff.rfl
  · exact absurd rfl h
  · exact Iff.rfl
theorem joined_nil : ∀ (ps : List (Array UInt8)) (k : Nat) (acc : Array UInt8), ((ps.zipIdx k).foldl (fun out (x : Array UInt8 × Nat) => (if x.2 > 0 then out ++ (#[] : Array UInt8) else out) ++ x.1) acc) = acc ++ (ps.flatMap fun p => p.toList).toArray
  | [], _, acc => by simp
  | p :: ps, k, acc => by
    rw [List.zipIdx_cons, List.foldl_cons, joined_nil ps (k + 1)]
    apply Array.ext'
    simp
theorem sizes_sum : ∀ (ps : List (Array UInt8)) (a : Nat), ps.foldl (fun n x => n + x.size) a = a + (ps.flatMap fun p => p.toList).length
  | [], a => by simp
  | p :: ps, a => by
    rw [List.foldl_cons, sizes_sum ps]
    simp
    omega
theorem let_go {keep : List Value} {Q : Unit → Shared → Prop} (h : Q () s) : ∀ l : List (Array UInt8 × Tok), wpAny (model prog w) A (Builtin.Bytes.joinLetGo (bvt l) keep) Q E s
  | [] => wpAny_pure h
  | p :: r => by
    show wpAny _ _ (Builtin.Bytes.joinLetGo ((.bytes p.1 p.2, none) :: bvt r) keep) _ _ _
    unfold Builtin.Bytes.joinLetGo
    dsimp only
    refine wpAny_bind ?_
    show wpAny _ _ (letGo [.bytes p.1 p.2] _) _ _ _
    unfold letGo
    refine wpAny_bind (wpAny_holding (wpAny_point ?_))
    unfold letGo
    exact wpAny_pure (let_go h r)
theorem join_bytes {D : Addr} {l : List (Array UInt8 × Tok)} {n : Nat} {t : Tok} {Q : Value → Shared → Prop} (ho : s.heap.get? D = some (listOf (bvs l).toArray n)) (hl : 2 ≤ l.length)
    (hz : (l.flatMap fun p => p.1.toList).length ≤ 16777216)
    (h : ∀ s' t', Keeps s s' → Q (.bytes (l.flatMap fun p => p.1.toList).toArray t') s') : wpAny (model prog w) A (call (.builtin "bytes.join") [.bytes #[] t, .ref D]) Q E s := by
  refine wpAny_call_entry slot_b_join (typeIs_bytes s _ t) entry_b_join ?_ (args_b_join _ _)
  unfold Builtin.«bytes.join» Builtin.Bytes.joinM
  dsimp only
  refine wpAny_bind (wpAny_of_eq (a := (.bytes #[] t, .ref D)) rfl ?_)
  dsimp only
  rw [if_pos (by rfl)]
  refine wpAny_bind (m := Builtin.Bytes.joinItems (.ref D)) ?_
  unfold Builtin.Bytes.joinItems
  refine wpAny_bind (wpAny_typeOf ⟨_, ho, rfl⟩ ?_)
  rw [if_pos (by rfl)]
  refine wpAny_pure ?_
  have hn : (bvs l).toArray.size = l.length := by simp [bvs]
  have hid : (toString Builtin.Bytes.Kind.bytes.name ++ toString ".join" : String) = "bytes.join" := by decide +kernel
  rw [hid]
  refine wpAny_bind (seq_items ho rfl ?_)
  dsimp only
  rw [if_pos (by rfl)]
  refine (not_one (by rw [hn]; omega) _ _).mpr ?_
  rw [Std.Legacy.Range.forIn_eq_forIn_range']
  simp only [Std.Legacy.Range.size, Nat.sub_zero, Nat.add_sub_cancel, Nat.div_one, hn]
  refine wpAny_bind (wp_range (n := l.length) (st := fun i => (((l.take i).map (·.1)).toArray, bvt (l.take i))) (I := fun s' => Keeps s s') ?turn ?fin l.length 0 s (by omega) (Keeps.refl _))
  case turn =>
    intro i s₁ hi k₁
    dsimp only
    refine wpAny_bind (seq_items (Keeps.get k₁ ho) rfl ?_)
    dsimp only
    rw [bvs_at hi, bvt_off, if_neg (by decide)]
    refine wpAny_bind (wpAny_holding (take_j fun s₂ k₂ => ?_))
    have k₁₂ := Keeps.trans k₁ k₂
    dsimp only
    refine wpAny_bind (seq_items (Keeps.get k₁₂ ho) rfl ?_)
    dsimp only
    rw [hn, bne_self_eq_false, if_neg Bool.false_ne_true]
    refine wpAny_pure ⟨?_, k₁₂⟩
    have e : l.take (i + 1) = l.take i ++ [l[i]] := by rw [List.take_add_one, List.getElem?_eq_getElem hi]; rfl
    rw [e]
    simp only [List.map_append, bvt, List.map_cons, List.map_nil, List.push_toArray]
  case fin =>
    intro s₁ k₁
    dsimp only
    rw [List.take_length]
    refine wpAny_bind (wpAny_of_eq (a := #[]) rfl ?_)
    have hf : ((l.map (·.1)).flatMap fun p => p.toList) = l.flatMap fun p => p.1.toList := by rw [List.flatMap_map]
    rw [if_neg ?g1]
    case g1 =>
      show ¬ decide ((l.map (·.1)).toArray.foldl (fun n x => n + x.size) (0 * _) > sizeLine) = true
      rw [List.foldl_toArray, sizes_sum, hf, sizeLine_eq]
      simp
      simpa using hz
    refine wpAny_bind ?_
    show wpAny _ _ (mkBytes _) _ _ _
    have hj : Builtin.Bytes.joined #[] (l.map (·.1)).toArray.toList = (l.flatMap fun p => p.1.toList).toArray := by
      unfold Builtin.Bytes.joined
      rw [joined_nil, hf]
      simp
    rw [hj]
    unfold mkBytes
    rw [if_neg (by rw [sizeLine_eq]; simpa using hz)]
    refine wpAny_bind (wpAny_fresh ?_)
    refine wpAny_pure ?_
    refine wpAny_bind (wpAny_holding (wpAny_point ?_))
    refine wpAny_bind (let_go ?_ l)
    exact wpAny_pure ⟨_, rfl, h _ _ (Keeps.trans k₁ ⟨_, _, rfl, fun _ _ e => e⟩)⟩
end
section
variable {prog : Program} {w : World} {A : Around} {E : Value → Shared → Prop} {s : Shared} {h₀ : Heap} {L : Addr} {news : List (Addr × Obj)} {pl : Sem Bool} {Q : Value × List Value → Shared → Prop}
theorem gm_bjoin {x : Array UInt8} {t : Tok} (h : Q (.builtin "bytes.join", [.bytes x t]) s) : wpAny (model prog w) A (getMethod (.bytes x t) (Str.ofString "join") pl) Q E s :=
  getMethod_builtin (typeIs_bytes s x t) FB.plainAttrs_bytes slot_b_join (by kernel_rfl) (fun a e => by cases e) h
theorem gm_count {D : Addr} {its : Array Value} {n : Nat} (N : News h₀ L s.heap news) (hm : (D, listOf its n) ∈ news) (h : Q (.builtin "list.count", [.ref D]) s) : wpAny (model prog w) A (getMethod (.ref D) (Str.ofString "count") pl) Q E s :=
  kf_method N hm PySem.F.slot_list_count (by kernel_rfl) h
theorem gm_index {D : Addr} {its : Array Value} {n : Nat} (N : News h₀ L s.heap news) (hm : (D, listOf its n) ∈ news) (h : Q (.builtin "list.index", [.ref D]) s) : wpAny (model prog w) A (getMethod (.ref D) (Str.ofString "index") pl) Q E s :=
  kf_method N hm PySem.F.slot_list_index (by kernel_rfl) h
end
theorem bvs_of {bs bm : Array UInt8} : ∀ {ys : List Value} {is : List It}, AreL (dueIs bs bm) ys is → ∃ l, ys = bvs l ∧ l.length = is.length ∧ (l.flatMap fun p => p.1.toList) = (is.flatMap fun k => (cont bs bm k).toList)
  | [], [], _ => ⟨[], rfl, rfl, rfl⟩
  | [], _ :: _, h => by simpa using h.1
  | _ :: _, [], h => by simpa using h.1
  | y :: ys, k :: is, h => by
    obtain ⟨⟨t, rfl⟩, r⟩ := h.tl
    obtain ⟨l, rfl, e1, e2⟩ := bvs_of r
    exact ⟨(cont bs bm k, t) :: l, rfl, by simp [e1], by rw [List.flatMap_cons, List.flatMap_cons, e2]⟩
theorem fill : (PySem.Challenge.rw_in0260_01 = PySem.Challenge.rw_in0260_01) ∧ Mine.hd.heap_39 = Mine.hd.heap_39 := by
  k_fill
  exact ⟨rfl, rfl⟩
local macro_rules | `(tactic| walk_at "m.enter") => `(tactic| ((refine wpAny_call ?_); (refine' code_def ?k1 ?k2 ?k3 ?k4 ?k5 ?kA ?kF ?kK ?k6 ?k7 ?k8 ?k9 ?kB ?_ ?c2 ?c3 ?c4 ?c5; (case kA => exact rfl); (case kF => assumption); (case kK => assumption); (case k1 => k_asm); (case k2 => k_asm); (case k3 => k_asm); (case k4 => k_asm); (case k5 => k_asm); (case k6 => k_is); (case k7 => k_is); (case k8 => k_room); (case k9 => first | exact BindsTo.of_eq rfl | exact binds_K (by k_in) rfl (by k_is) rfl rfl rfl | fail "k_enter: no rule for these arguments"); (case c5 => decide); (case kB => exact locs rfl); (case c2 => exact rfl); (case c3 => exact rfl); (case c4 => exact rfl); k_whole; intro g' L' h' FG' F' N' B' X' T'; (try dsimp only); (try k_lift B'))))
local macro_rules | `(tactic| walk_at "getAttr ref") => `(tactic| (k_here; (with_reducible show wpAny _ _ (getAttr (Value.ref _) (PySem.Str.ofString "append") true) _ _ _); refine' getAttr_append ?hh ?F ?N ?hr ?_; (case hh => exact rfl); (case F => k_asm); (case N => k_asm); (case hr => k_mem); k_whole; intro q' h' tk' F' N' l1; (try k_lt l1); (try k_sweep)))
local macro_rules | `(tactic| walk_at "call ref") => `(tactic| (k_here; (with_reducible show wpAny _ _ (call (Value.ref _) [_] []) _ _ _); refine' call_add ?hh ?F ?N ?hq ?U ?z ?_; (case hh => exact rfl); (case F => k_asm); (case N => k_asm); (case hq => k_mem); (case U => k_upd); (case z => walk_at "m.size"); k_whole; intro h' tk' F' N'; (try k_sweep)))
local macro_rules | `(tactic| walk_at "m.size") => `(tactic| first | (simp only [sizeLine_eq]; omega) | ((try simp only [List.size_toArray, List.length_append, List.length_cons, List.length_nil, sizeLine_eq]); (try omega)))
local macro_rules | `(tactic| walk_at "call builtin:len") => `(tactic| ((with_reducible show wpAny _ _ (call (Value.builtin _) [Value.str _ _] _) _ _ _); refine P.len_str (by omega) ?_))
local macro_rules | `(tactic| walk_at "m.look") => `(tactic| ((try dsimp only); repeat (first | assumption | (refine (if_neg (by decide)).trans ?_) | (refine (if_pos rfl).trans ?_) | exact rfl)))
local macro_rules | `(tactic| walk_at "eval Name") => `(tactic| (k_here; (with_reducible show wpAny _ _ (eval (PySem.Expr.Name _ _) (envOf _ _ _ _ _)) _ _ _); k_dflt (refine' ld ?k1 ?k2 ?_; (case k1 => k_asm); (case k2 => walk_at "m.look"); k_whole)))
local macro_rules | `(tactic| walk_at "callWith ref") => `(tactic| (k_here; (with_reducible show wpAny _ _ (callWith _ (Value.ref _) [] (backTo _ (starEach (_ :: _) _)) []) _ _ _); refine' callWith_bm ?N ?hm ?_; (case N => k_asm); (case hm => k_mem); k_whole))
local macro_rules | `(tactic| walk_at "And") => `(tactic| ((with_reducible show BmAt _ _ _ _ ∧ _); refine ⟨bmAt_of (by k_asm) (by k_mem), ?_⟩))
local macro_rules | `(tactic| walk_at "BmAt") => `(tactic| ((with_reducible show BmAt _ _ _ _); exact bmAt_of (by k_asm) (by k_mem)))
local macro_rules | `(tactic| walk_at "getMethod str") => `(tactic| (k_here; first | with_reducible refine gm_translate ?_ | with_reducible refine gm_encode ?_))
local macro_rules | `(tactic| walk_at "WLoop") => `(tactic| ((with_reducible show WLoop _ _ _ _ _ _ _ _ _); refine WLoop.step ?_))
local macro_rules | `(tactic| walk_at "m.at0") => `(tactic| (refine str_at 0 (by assumption) (by omega) (by omega) rfl ?_))
local macro_rules | `(tactic| walk_at "m.at1") => `(tactic| (refine str_at 1 (by assumption) (by omega) (by omega) rfl ?_))
local macro_rules | `(tactic| walk_at "m.at2") => `(tactic| (refine str_at 2 (by assumption) (by omega) (by omega) rfl ?_))
local macro_rules | `(tactic| walk_at "m.at3") => `(tactic| (refine str_at 3 (by assumption) (by omega) (by omega) rfl ?_))
local macro_rules | `(tactic| walk_at "m.at4") => `(tactic| (refine str_at 4 (by assumption) (by omega) (by omega) rfl ?_))
local macro_rules | `(tactic| walk_at "subscriptTail Name Name str int") => `(tactic| (k_here; (with_reducible show wpAny _ _ (subscriptTail _ _ (Value.str _ _) (Value.int _ _)) _ _ _); first | walk_at "m.at0" | walk_at "m.at1" | walk_at "m.at2" | walk_at "m.at3" | walk_at "m.at4"))
local macro_rules | `(tactic| walk_at "exec While") => `(tactic| (k_here; (with_reducible show wpAny _ _ (exec (Stmt.While _ _ [] _) _) _ _ _); refine WLoop.start ?_))
local macro_rules | `(tactic| walk_at "m.sl13") => `(tactic| (refine slice_at (s := ⟨_, _, _, _, _⟩) 1 3 #[33, 97] (by assumption) (by k_asm) (by k_asm) (by omega) (by omega) (by simp only [List.length_cons, List.length_nil]; omega) (by omega) (by simp only [sizeLine_eq]; omega) (by decide) (by decide) rfl ?_; intro _ _ _ _ _))
local macro_rules | `(tactic| walk_at "m.sl14") => `(tactic| (refine slice_at (s := ⟨_, _, _, _, _⟩) 1 4 #[98, 45, 97] (by assumption) (by k_asm) (by k_asm) (by omega) (by omega) (by simp only [List.length_cons, List.length_nil]; omega) (by omega) (by simp only [sizeLine_eq]; omega) (by decide) (by decide) rfl ?_; intro _ _ _ _ _))
local macro_rules | `(tactic| walk_at "m.sl12") => `(tactic| (refine slice_at (s := ⟨_, _, _, _, _⟩) 1 2 #[98] (by assumption) (by k_asm) (by k_asm) (by omega) (by omega) (by simp only [List.length_cons, List.length_nil]; omega) (by omega) (by simp only [sizeLine_eq]; omega) (by decide) (by decide) rfl ?_; intro _ _ _ _ _))
local macro_rules | `(tactic| walk_at "m.sl34") => `(tactic| (refine slice_at (s := ⟨_, _, _, _, _⟩) 3 4 #[97] (by assumption) (by k_asm) (by k_asm) (by omega) (by omega) (by simp only [List.length_cons, List.length_nil]; omega) (by omega) (by simp only [sizeLine_eq]; omega) (by decide) (by decide) rfl ?_; intro _ _ _ _ _))
local macro_rules | `(tactic| walk_at "subscriptTail Name Slice str ref") => `(tactic| ((with_reducible show wpAny _ _ (subscriptTail _ (PySem.Expr.Slice (some _) (some _) none _) _ _) _ _ _); first | walk_at "m.sl13" | walk_at "m.sl14" | walk_at "m.sl12" | walk_at "m.sl34"))
local macro_rules | `(tactic| walk_at "m.fn") => `(tactic| ((case hh => with_unfolding_all exact rfl); (case F => k_asm); (case N => k_asm); k_whole))
local macro_rules | `(tactic| walk_at "compareOp NotIn str str") => `(tactic| (first | (refine' notin_na ?hh ?F ?N ?_; walk_at "m.fn"; intro h' tk F' N') | (refine' notin_ba ?hh ?F ?N ?_; walk_at "m.fn"; intro h' tk F' N')))
local macro_rules | `(tactic| walk_at "call builtin:str.replace") => `(tactic| (k_here; first | (refine' rep_na ?hh ?F ?N ?_; walk_at "m.fn"; intro h' tk t' F' N') | (refine' rep_nil ?hh ?F ?N ?_; walk_at "m.fn"; intro h' tk t' F' N')))
local macro_rules | `(tactic| walk_at "getMethod ref") => `(tactic| (k_here; (with_reducible show wpAny _ _ (getMethod (Value.ref 44) _ _) _ _ _); refine' gm_sub ?hh ?F ?N ?X ?_; (case X => assumption); walk_at "m.fn"; intro h' tk F' N'))
local macro_rules | `(tactic| walk_at "eval Lambda") => `(tactic| (k_here; refine' lam_any ?d ?cl ?F ?N ?T ?C ?cd ?U ?t ?_; (case d => exact rfl); (case cl => exact rfl); (case F => k_asm); (case N => k_asm); (case T => k_asm); (case cd => exact rfl); (case C => kn_code); (case U => k_updF); (case t => assumption); k_whole; (intro f' o' h' tk' ps' io' F' N' ht' l1); (try dsimp only at N'); (try k_lt l1)))
local macro_rules | `(tactic| walk_at "call builtin:re.Pattern.sub") => `(tactic| (k_here; first | (refine' sub_na ?hh ?F ?N ?X ?hf ?ho ?_; (case X => assumption); (case hh => exact rfl); (case F => k_asm); (case N => k_asm); (case ho => assumption); (case hf => k_mem); k_whole; intro h' tk t' F' N') | (refine' sub_nil ?hh ?F ?N ?X ?hf ?ho ?_; (case X => assumption); (case hh => exact rfl); (case F => k_asm); (case N => k_asm); (case ho => assumption); (case hf => k_mem); k_whole; intro h' tk t' F' N')))
local macro_rules | `(tactic| walk_at "call builtin:str.find") => `(tactic| (k_here; (with_reducible show wpAny _ _ (call (Value.builtin _) [Value.str _ _, Value.str _ _, Value.int _ _, Value.int _ _]) _ _ _); first | ((refine find_at 2 4 (by assumption) (by omega) (by omega) (by simp only [List.length_cons, List.length_nil]; omega) (by decide) (by decide) rfl ?_); intro nn' hnn') | (refine find_no 5 4 (by assumption) (by omega) (by omega) (by omega) (by decide) ?_)))
local macro_rules | `(tactic| walk_at "m.item2") => `(tactic| (k_here; first
  | (refine list_item2_0 (by k_asm) (by k_mem) (by omega) ?_)
  | (refine list_item2_1 (by k_asm) (by k_mem) (by omega) ?_)))
local macro_rules | `(tactic| walk_at "subscriptTail Name BinOp ref int") => `(tactic| k_dflt (walk_at "m.item2"))
local macro_rules | `(tactic| walk_at "subscriptTail Name Name ref int") => `(tactic| k_dflt (walk_at "m.item2"))
local macro_rules | `(tactic| walk_at "call builtin:str.encode") => `(tactic| (k_here; first
  | (refine' enc_a ?hh ?F ?N ?_; walk_at "m.fn"; intro h' tk t' F' N')
  | (refine' enc_dot ?hh ?F ?N ?_; walk_at "m.fn"; intro h' tk t' F' N')
  | (refine' enc_ba ?hh ?F ?N ?_; walk_at "m.fn"; intro h' tk t' F' N')
  | (refine' enc_na ?hh ?F ?N ?_; walk_at "m.fn"; intro h' tk t' F' N')))
local macro_rules | `(tactic| walk_at "call builtin:isinstance") => `(tactic| (k_here; (with_reducible show wpAny _ _ (call (Value.builtin _) [Value.ref _, Value.type "str"] _) _ _ _); k_dflt (refine' isin_str ?hh ?F ?N ?ha ?_; (case hh => exact rfl); (case F => k_asm); (case N => k_asm); (case ha => k_mem); k_whole); intro h' tk F' N'))
local macro_rules | `(tactic| walk_at "call builtin:isinstance") => `(tactic| (k_here; (with_reducible show wpAny _ _ (call (Value.builtin _) [Value.ref _, Value.ref 32] _) _ _ _); k_dflt (refine' isin_tup ?hh ?F ?N ?X ?ha ?_; (case hh => exact rfl); (case F => k_asm); (case N => k_asm); (case X => assumption); (case ha => k_mem); k_whole); intro h' tk F' N'))
local macro_rules | `(tactic| walk_at "m.all") => `(tactic| first | exact List.forall_mem_nil _ | assumption | (refine' List.forall_mem_cons.mpr ⟨?a, ?b⟩; (case a => k_ne); (case b => walk_at "m.all")))
local macro_rules | `(tactic| walk_at "m.upd") => `(tactic| first | (refine' Upd.head ?a; (case a => walk_at "m.all")) | (refine' Upd.tail ?a ?b; (case a => k_ne); (case b => walk_at "m.upd")))
local macro_rules | `(tactic| walk_at "call builtin:list.append") => `(tactic| (k_here; (with_reducible show wpAny _ _ (call (Value.builtin _) [Value.ref _, _] _) _ _ _); refine' append_L ?F ?N ?U ?z ?_; (case F => k_asm); (case N => k_asm); (case U => walk_at "m.upd"); (case z => walk_at "m.size"); k_whole; intro h' F' N'; (try k_sweep)))
local macro_rules | `(tactic| walk_at "m.sub") => `(tactic| (intro _ hp; first | exact hp | exact .tail _ hp | exact .tail _ (.tail _ hp) | exact .tail _ (.tail _ (.tail _ hp)) | exact .tail _ (.tail _ (.tail _ (.tail _ hp))) | exact .tail _ (.tail _ (.tail _ (.tail _ (.tail _ hp))))))
local macro_rules | `(tactic| walk_at "call builtin:hasattr") => `(tactic| (k_here; k_dflt (first | (refine' hasattr_bytes ?hh ?F ?N ?_; (case hh => exact rfl); (case F => k_asm); (case N => k_asm); k_whole; intro h' tk F' N') | (refine' hasattr_ba ?hh ?F ?N ?ha ?_; (case hh => exact rfl); (case F => k_asm); (case N => k_asm); (case ha => k_mem); k_whole; intro h' tk F' N'))))
local macro_rules | `(tactic| walk_at "binaryOp Add bytes bytes") => `(tactic| (k_here; refine PySem.W.KBy.add_bytes (by walk_at "m.bsz") ?_; intro t' k'))
local macro_rules | `(tactic| walk_at "binaryOp Add bytes ref") => `(tactic| (k_here; k_dflt (refine' add_baF ?F ?N ?ha ?z ?_; (case F => k_asm); (case N => k_asm); (case ha => k_mem); (case z => assumption); k_whole); intro h' tk t' F' N'))
local macro_rules | `(tactic| walk_at "loadName") => `(tactic| (k_here; k_dflt (refine' ldn ?k1 ?k2 ?_; (case k1 => k_asm); (case k2 => walk_at "m.look"); k_whole)))
local macro_rules | `(tactic| walk_at "m.bsz") => `(tactic| first | assumption | omega | (simp only [Array.size_append, List.size_toArray, List.length_cons, List.length_nil]; omega) | ((have hs2 := take2_le); simp only [Array.size_append, List.size_toArray, List.length_cons, List.length_nil]; have hs3 := hs2 _; omega))
local macro_rules | `(tactic| walk_at "subscriptTail Name Slice bytes ref") => `(tactic| ((with_reducible show wpAny _ _ (subscriptTail _ (PySem.Expr.Slice _ _ none _) (Value.bytes _ _) (Value.ref _)) _ _ _); (with_reducible rename Fr _ _ _ _ => F'); (with_reducible rename News _ _ _ _ => N'); first | (refine slice_t2 (s := ⟨_, _, _, _, _⟩) F' N' (by omega) ?_; intro _ _ _ _ _) | (refine slice_d1 (s := ⟨_, _, _, _, _⟩) F' N' (by omega) ?_; intro _ _ _ _ _)))
local macro_rules | `(tactic| walk_at "UnrEnd") => `(tactic| (have hoff' := CellObj.off (by assumption) (by assumption : News _ _ _ ((_, krsIt _ _ _) :: _)) (by k_mem) rfl; refine unrEnd_head (by assumption) (by assumption) (by krn_off) ?_))
local macro_rules | `(tactic| walk_at "m.tr") => `(tactic| (first
  | (refine' tr_a ?hh ?F ?N ?X ?_; (case hh => exact rfl); (case F => k_asm); (case N => k_asm); (case X => k_asm); k_whole; intro h' tk t' F' N'; (try k_sweep))
  | (refine' tr_e ?hh ?F ?N ?X ?_; (case hh => exact rfl); (case F => k_asm); (case N => k_asm); (case X => k_asm); k_whole; intro h' tk t' F' N'; (try k_sweep))
  | (refine' tr_dot ?X ?_; (case X => exact Frag.In.keeps (by assumption) (Fr.keep (by assumption))); k_whole; intro tk t')))
local macro_rules | `(tactic| walk_at "call builtin:str.translate") => `(tactic| (k_here; walk_at "m.tr"))
section
variable {w : World} {base h₀ : Heap} {env1 env : Env} {L : Addr} {m mg mb : Str → Option Value} {news : List (Addr × Obj)} {p : Program} {loose : List Str} {mean : ExcName → Option Value} {s : Shared} {E : Value → Shared → Prop} {Q : Value → Shared → Prop}
theorem esc_dot {t : Tok}
    (B' : Below (callerA.deeper env1) base [env1] h₀) (F' : Fr h₀ L s.heap m) (X' : (Mine.hd.heap_39 w.params).In h₀) (T' : Top p loose mean mg mb h₀)
    (N' : News h₀ L s.heap news)
    (hf : env.frame = some L) (hke : env.scope.kind = .function)
    (h : ∀ h' tk t', Fr h₀ L h' m → News h₀ L h' news → Q (.str ⟨#[92, 46]⟩ t') { s with heap := h', toks := tk }) :
    wpAny (model pg w) ((callerA.deeper env1).deeper env) (call (.ref 56) [.str ⟨#[46]⟩ t] []) Q E s := by
  walk_at "m.enter"
  (repeat (first | walk1 | (dsimp only; walk1)))
  exact h _ _ _ (by assumption) (by assumption)
theorem esc_a {t : Tok}
    (B' : Below (callerA.deeper env1) base [env1] h₀) (F' : Fr h₀ L s.heap m) (X' : (Mine.hd.heap_39 w.params).In h₀) (T' : Top p loose mean mg mb h₀)
    (N' : News h₀ L s.heap news)
    (hf : env.frame = some L) (hke : env.scope.kind = .function)
    (h : ∀ h' tk t', Fr h₀ L h' m → News h₀ L h' news → Q (.str ⟨#[97]⟩ t') { s with heap := h', toks := tk }) :
    wpAny (model pg w) ((callerA.deeper env1).deeper env) (call (.ref 56) [.str ⟨#[97]⟩ t] []) Q E s := by
  walk_at "m.enter"
  (repeat (first | walk1 | (dsimp only; walk1)))
  exact h _ _ _ (by assumption) (by assumption)
theorem esc_e {t : Tok}
    (B' : Below (callerA.deeper env1) base [env1] h₀) (F' : Fr h₀ L s.heap m) (X' : (Mine.hd.heap_39 w.params).In h₀) (T' : Top p loose mean mg mb h₀)
    (N' : News h₀ L s.heap news)
    (hf : env.frame = some L) (hke : env.scope.kind = .function)
    (h : ∀ h' tk t', Fr h₀ L h' m → News h₀ L h' news → Q (.str ⟨#[233]⟩ t') { s with heap := h', toks := tk }) :
    wpAny (model pg w) ((callerA.deeper env1).deeper env) (call (.ref 56) [.str ⟨#[233]⟩ t] []) Q E s := by
  walk_at "m.enter"
  (repeat (first | walk1 | (dsimp only; walk1)))
  exact h _ _ _ (by assumption) (by assumption)
end
section
variable {w : World} {base h₀ : Heap} {env1 env : Env} {L : Addr} {m mg mb : Str → Option Value} {news : List (Addr × Obj)} {p : Program} {loose : List Str} {mean : ExcName → Option Value} {s : Shared} {E : Value → Shared → Prop} {Q : Value → Shared → Prop}
theorem bd_a {t : Tok}
    (B' : Below (callerA.deeper env1) base [env1] h₀) (F' : Fr h₀ L s.heap m) (X' : (Mine.hd.heap_39 w.params).In h₀) (T' : Top p loose mean mg mb h₀)
    (N' : News h₀ L s.heap news)
    (hf : env.frame = some L) (hke : env.scope.kind = .function)
    (h : ∀ h' tk t', Fr h₀ L h' m → News h₀ L h' news → Q (.bytes #[97] t') { s with heap := h', toks := tk }) :
    wpAny (model pg w) ((callerA.deeper env1).deeper env) (call (.ref 39) [.str ⟨#[97]⟩ t] []) Q E s := by
  walk_at "m.enter"
  (repeat (first | walk1 | (dsimp only; walk1)))
  exact h _ _ _ (by assumption) (by assumption)
theorem bd_dot {t : Tok}
    (B' : Below (callerA.deeper env1) base [env1] h₀) (F' : Fr h₀ L s.heap m) (X' : (Mine.hd.heap_39 w.params).In h₀) (T' : Top p loose mean mg mb h₀)
    (N' : News h₀ L s.heap news)
    (hf : env.frame = some L) (hke : env.scope.kind = .function)
    (h : ∀ h' tk t', Fr h₀ L h' m → News h₀ L h' news → Q (.bytes #[92, 46] t') { s with heap := h', toks := tk }) :
    wpAny (model pg w) ((callerA.deeper env1).deeper env) (call (.ref 39) [.str ⟨#[92, 46]⟩ t] []) Q E s := by
  walk_at "m.enter"
  (repeat (first | walk1 | (dsimp only; walk1)))
  exact h _ _ _ (by assumption) (by assumption)
theorem bd_ba {t : Tok}
    (B' : Below (callerA.deeper env1) base [env1] h₀) (F' : Fr h₀ L s.heap m) (X' : (Mine.hd.heap_39 w.params).In h₀) (T' : Top p loose mean mg mb h₀)
    (N' : News h₀ L s.heap news)
    (hf : env.frame = some L) (hke : env.scope.kind = .function)
    (h : ∀ h' tk t', Fr h₀ L h' m → News h₀ L h' news → Q (.bytes #[40, 63, 33, 41] t') { s with heap := h', toks := tk }) :
    wpAny (model pg w) ((callerA.deeper env1).deeper env) (call (.ref 39) [.str ⟨#[40, 63, 33, 41]⟩ t] []) Q E s := by
  walk_at "m.enter"
  (repeat (first | walk1 | (dsimp only; walk1)))
  exact h _ _ _ (by assumption) (by assumption)
theorem bd_na {t : Tok}
    (B' : Below (callerA.deeper env1) base [env1] h₀) (F' : Fr h₀ L s.heap m) (X' : (Mine.hd.heap_39 w.params).In h₀) (T' : Top p loose mean mg mb h₀)
    (N' : News h₀ L s.heap news)
    (hf : env.frame = some L) (hke : env.scope.kind = .function)
    (h : ∀ h' tk t', Fr h₀ L h' m → News h₀ L h' news → Q (.bytes #[91, 94, 97, 93] t') { s with heap := h', toks := tk }) :
    wpAny (model pg w) ((callerA.deeper env1).deeper env) (call (.ref 39) [.str ⟨#[91, 94, 97, 93]⟩ t] []) Q E s := by
  walk_at "m.enter"
  (repeat (first | walk1 | (dsimp only; walk1)))
  exact h _ _ _ (by assumption) (by assumption)
theorem bd_ref {a : Addr} {bs : Array UInt8}
    (B' : Below (callerA.deeper env1) base [env1] h₀) (F' : Fr h₀ L s.heap m) (X' : (Mine.hd.heap_39 w.params).In h₀) (T' : Top p loose mean mg mb h₀)
    (N' : News h₀ L s.heap news) (ha : (a, baObj bs) ∈ news)
    (hf : env.frame = some L) (hke : env.scope.kind = .function)
    (h : ∀ h' tk, Fr h₀ L h' m → News h₀ L h' news → Q (.ref a) { s with heap := h', toks := tk }) :
    wpAny (model pg w) ((callerA.deeper env1).deeper env) (call (.ref 39) [.ref a] []) Q E s := by
  walk_at "m.enter"
  (repeat (first | walk1 | (dsimp only; walk1)))
  exact h _ _ (by assumption) (by assumption)
end
section
variable {w : World} {base h₀ : Heap} {env1 env : Env} {L : Addr} {m mg mb : Str → Option Value} {news : List (Addr × Obj)} {p : Program} {loose : List Str} {mean : ExcName → Option Value} {s : Shared} {E : Value → Shared → Prop} {Q : Value → Shared → Prop}
noncomputable abbrev sOnly : Str := Str.ofString "string argument should contain only ASCII characters"
theorem bd_e {t : Tok}
    (B' : Below (callerA.deeper env1) base [env1] h₀) (F' : Fr h₀ L s.heap m) (X' : (Mine.hd.heap_39 w.params).In h₀) (T' : Top p loose mean mg mb h₀)
    (N' : News h₀ L s.heap news)
    (XB : (Mine.hd.heap_39 w.params).In base) (TB : Top p loose mean mg mb base) (hf : env.frame = some L) (hke : env.scope.kind = .function)
    (h : ∀ e t2 tm G h' tk, Fr h₀ L G m → RaisedS base G [env, env1] e (.type "ValueError") t2 [.str sOnly tm] news h' → G.UpToSlots h' → E (.ref e) { s with heap := h', toks := tk }) :
    wpAny (model pg w) ((callerA.deeper env1).deeper env) (call (.ref 39) [.str ⟨#[233]⟩ t] []) Q E s := by
  walk_at "m.enter"
  rename Fr h₀ L _ m => FG
  (repeat (first | walk1 | (dsimp only; walk1)))
  refine' enc_e ?hh ?F ?N ?_
  (case hh => exact rfl)
  (case F => k_asm)
  (case N => k_asm)
  intro e h' tk o F' N' hu hlt
  obtain ⟨tt, x1, x2, x3, x4, x5, rfl⟩ := hu
  refine caught_fresh2 (KF := Mine.hd.heap_39 w.params) (X := "UnicodeEncodeError") (T' := "UnicodeEncodeError") (by assumption) (by assumption) (fun q hq => Nat.ne_of_lt (hlt q hq)) rfl rfl rfl rfl (by assumption) XB TB (by k_is) (by decide +kernel) (by decide +kernel) (by rw [isSubtype_type]; kernel_rfl) (by kernel_rfl) (by rw [isSubtype_type]; kernel_rfl) ?_
  intro T h5 g5 T5 F5 N5 hT5 hTe K5 X5 P5
  (repeat (first | walk1 | (dsimp only; walk1)))
  refine Raise_under rfl ?_
  (repeat ((fail_if_success (with_reducible show wpAny _ _ (call _ _ _) _ _ _)); first | walk1 | (dsimp only; walk1)))
  refine call_VE (by k_asm) (by k_asm) ?_
  intro e2 t2 h6 F6 N6 hlt2 het2
  have hee : e < e2 := hlt2 _ (.head _)
  refine ⟨e2, veObj t2, _, "ValueError", _, _, excClass_ValueError, rfl, News.get N6 (.head _), rfl, rfl, rfl, (by simp), (Nat.ne_of_lt hee), ⟨_, _, News.get N6 (.tail _ (.tail _ (.head _))), rfl, rfl⟩, ?_⟩
  have hs : Heap.SameBut e2 h6 (h6.update e2 (Obj.mapFields (·.setIfInBounds 2 (.ref e)))) := Heap.SameBut.update ..
  have n1 := N6 _ (.head _)
  have n2 := N6 _ (.tail _ (.head _))
  have F7 := F6.change hs n1.2.1 n1.2.2
  have N7 : News g5 _ (h6.update e2 (Obj.mapFields (·.setIfInBounds 2 (.ref e)))) ((e2, (veObj t2).mapFields (·.setIfInBounds 2 (.ref e))) :: news) := fun q hq => by
    rcases List.mem_cons.mp hq with rfl | hq
    · exact ⟨Heap.get?_update_self _ n1.1 rfl, n1.2⟩
    · have n := N6 _ (.tail _ (.tail _ (.tail _ hq)))
      exact ⟨(hs.2 _ (Nat.ne_of_lt (hlt2 _ (.tail _ hq)))).trans n.1, n.2⟩
  refine leave_fresh (t := t2) K5 F7 N7 (fun q hq => Nat.ne_of_lt (hlt2 _ (.tail _ hq))) (fun q hq => Nat.ne_of_lt (Nat.lt_trans (hlt2 _ (.tail _ hq)) het2)) rfl rfl rfl ⟨_, _, (hs.2 _ (Nat.ne_of_gt het2)).trans n2.1, rfl, rfl⟩ n2.2.2 n2.2.1 ?_
  intro h8 R8 U8
  exact h _ _ _ _ _ _ FG (raised_turn T5 R8) (turn_slots T5 U8)
end
section
variable {w : World} {base h₀ : Heap} {env : Env} {L : Addr} {m mg mb : Str → Option Value} {news : List (Addr × Obj)} {p : Program} {loose : List Str} {mean : ExcName → Option Value} {s : Shared} {E : Value → Shared → Prop} {Q : Value → Shared → Prop}
theorem tr_ok {y1 y2 : Addr} {o1 o2 : Obj} (hd1 : CellObj y1 o1) (hc2 : o2.cls = .type "list") (hy1 : y1 ≠ 58) (hy2 : y2 ≠ 58) {P : Str} {t : Tok} {st mk : Addr} {bs bm : Array UInt8} {us : List U} {one : Bool} (hP : P.cps.toList = utext us) (hlen : P.length ≤ 100) (h1 : one = true → mk = st) (h0 : one = false → mk ≠ st)
    (B' : Below callerA base [] h₀) (F' : Fr h₀ L s.heap m) (X' : (Mine.hd.heap_39 w.params).In h₀) (T' : Top p loose mean mg mb h₀)
    (N' : News h₀ L s.heap [(st, baObj bs), (mk, baObj bm), (58, tabObj #[]), (y1, o1), (y2, o2)])
    (hC : CodeHd base 62 58) (hG : AllBare s.gens) (hf : env.frame = some L) (hke : env.scope.kind = .function)
    (h : ∀ h' gs dr tk r vals nn ps, AllBare gs → Fr h₀ L h' m → News h₀ L h' [(r, listOf (List.toArray vals) nn), (st, baObj bs), (mk, baObj bm), (58, tabObj ps), (y1, o1), (y2, o2)] → PartsAre st mk vals (trAll one us) → Q (.ref r) ⟨h', gs, dr, tk, s.os⟩) :
    wpAny (model pg w) (callerA.deeper env) (call (.ref 63) [.str P t, .ref st, .ref mk] []) Q E s := by
  have hs58 : st ≠ 58 := fun e => by have a := N'.get (a := st) (o := baObj bs) (.head _); have b := N'.get (a := 58) (o := tabObj #[]) (.tail _ (.tail _ (.head _))); subst e; rw [a] at b; cases b
  have hm58 : mk ≠ 58 := fun e => by have a := N'.get (a := mk) (o := baObj bm) (.tail _ (.head _)); have b := N'.get (a := 58) (o := tabObj #[]) (.tail _ (.tail _ (.head _))); subst e; rw [a] at b; cases b
  walk_at "m.enter"
  refine A_postN fun Q2 hQ2 => ?_
  (repeat ((fail_if_success (with_reducible show wpAny _ _ (newList _) _ _ _)); first | (dsimp only; walk1) | walk1))
  (refine newList_K (by k_asm) (by k_asm) ?_; intro r h2 F2 N2 lr; k_lt lr; k_sweep)
  (repeat ((fail_if_success (with_reducible show wpAny _ _ (getAttr _ _ _) _ _ _)); first | (dsimp only; walk1) | walk1))
  (refine getAttr_append rfl (by k_asm) (by k_asm) (by k_mem) ?_; intro q h3 tk3 F3 N3 lq; k_lt lq; k_sweep)
  (repeat ((fail_if_success (with_reducible show wpAny _ _ (exec (Stmt.While _ _ _ _) _) _ _ _)); first | (dsimp only; walk1) | walk1))
  rename Fr _ _ _ _ => FW
  rename News _ _ _ _ => NW
  refine While_invG (TrInv P t st mk bs bm one us q r y1 y2 o1 o2) (n₀ := us.length) FW (news := [(q, bmObj "list.append" (.ref r)), (r, listOf #[] 0), (st, baObj bs), (mk, baObj bm), (58, tabObj #[]), (y1, o1), (y2, o2)]) (fun p hp => NW p (.tail _ hp)) hG ?_ ?_
  · exact ⟨[], us, [], 0, _, _, #[], rfl, rfl, .nil, Nat.le_refl _, rfl, tabOk_nil, rfl, rfl, rfl, rfl, rfl, rfl, rfl⟩
  · rintro k m₁ news₁ h₁ gs₁ dr₁ tk₁ G₁ F₁ N₁ ⟨pre, rest, vals, nn, ti, tn, ps, hus, rfl, hv, hvl, rfl, hps, e1, e2, e3, e4, e5, e6, e7⟩ R hR
    clear FW NW
    have hpl : (utext pre).length ≥ pre.length := by
      clear hP h hvl e1 e7 hv hus
      induction pre with
      | nil => simp
      | cons u pre ih => cases u <;> simp [utext, U.text] at ih ⊢ <;> omega
    cases rest with
    | nil =>
      obtain rfl : us = pre := by rw [hus]; simp
      have hn : ((utext us).length : Int) = P.length := by
        show _ = (P.cps.size : Int)
        rw [← Array.length_toList, hP]
      (repeat (first | (dsimp only; walk1) | walk1))
      rotate_left
      · intros; exfalso; omega
      refine hQ2 _ _ ?_
      (repeat (first | (dsimp only; walk1) | walk1))
      rename Fr h₀ _ _ _ => kF
      rename News h₀ _ _ _ => kN
      exact h _ _ _ _ _ _ _ _ (by assumption) kF (fun p hp => kN p (.tail _ hp)) hv
    | cons u rest =>
      subst hus
      have hn : (P.length : Int) = ((utext pre).length : Int) + ((u.text ++ utext rest).length : Int) := by
        show (P.cps.size : Int) = _
        rw [← Array.length_toList, hP]; simp [utext]
      cases u with
      | star =>
        have hx : P.cps[((utext pre).length : Int).toNat]? = some 42 := by
          rw [← Array.getElem?_toList, hP]; simp [utext, U.text]
        simp only [U.text, List.length_append, List.length_cons, List.length_nil] at hn
        (repeat ((fail_if_success (with_reducible show wpAny _ _ (subscriptTail _ _ _ _) _ _ _)); first | (dsimp only; walk1) | walk1))
        refine str_item (by omega) (by omega) hx ?_
        (repeat ((fail_if_success (with_reducible show wpAny _ _ (truthy (Value.ref _)) _ _ _)); first | (dsimp only; walk1) | walk1))
        refine wpAny_truthy_list (News.isList (by k_asm) (by k_mem)) (by rw [List.size_toArray]; omega) ?_
        have hts : trStep one (trAll one pre) .star = if (trAll one pre).getLast? = some .star then trAll one pre else trAll one pre ++ [.star] := rfl
        have hmk : one = true → It.mark ∉ trAll one pre := fun e => by subst e; exact trAll_mark pre
        rcases hv.inv with ⟨rfl, hgen⟩ | ⟨vs, v, is, i, rfl, hgen, hv1, hi⟩
        · rw [hgen] at hts
          (repeat (first | (dsimp only; walk1) | walk1))
          rename Fr _ _ _ _ => kF
          rename News _ _ _ _ => kN
          exact hR _ _ <| trInv_next (by assumption) rfl kF kN (fun _ hp => hp) (by rw [hgen, hts]; exact PartsAre.nil.snoc rfl) (by simp) hps rfl ⟨by walk_at "m.look", by walk_at "m.look", by walk_at "m.look", by walk_at "m.look", by walk_at "m.look", by walk_at "m.look", by walk_at "m.look"⟩
        · rw [hgen] at hts hmk hv
          have hvl2 : vs.length + 1 ≤ pre.length := by simpa using hvl
          rw [not_mt]
          (repeat ((fail_if_success (with_reducible show wpAny _ _ (subscriptTail _ _ _ _) _ _ _)); first | (dsimp only; walk1) | walk1))
          refine last_item (by k_asm) (by k_mem) ?_
          cases i with
          | star =>
            obtain rfl := hi
            (repeat ((fail_if_success (with_reducible show wpAny _ _ (compareOp CmpOp.IsNot _ _) _ _ _)); first | (dsimp only; walk1) | walk1))
            refine wpAny_isNot_ref_self ?_
            (repeat (first | (dsimp only; walk1) | walk1))
            rename Fr _ _ _ _ => kF
            rename News _ _ _ _ => kN
            exact hR _ _ <| trInv_next (by assumption) rfl kF kN (fun _ hp => hp) (by rw [hgen, hts, if_pos (by simp)]; exact hv) (by simpa using Nat.le_succ_of_le hvl) hps rfl ⟨by walk_at "m.look", by walk_at "m.look", by walk_at "m.look", by walk_at "m.look", by walk_at "m.look", by walk_at "m.look", by walk_at "m.look"⟩
          | mark =>
            obtain rfl := hi
            have hne : mk ≠ st := by
              cases one
              · exact h0 rfl
              · exact absurd (by simp) (hmk rfl)
            (repeat ((fail_if_success (with_reducible show wpAny _ _ (compareOp CmpOp.IsNot _ _) _ _ _)); first | (dsimp only; walk1) | walk1))
            refine wpAny_isNot_ref_other hne (News.get (by k_asm) (by k_mem)) (News.get (by k_asm) (by k_mem)) (show (Value.type "bytearray") ≠ .type "tuple" by decide) ?_
            (repeat (first | (dsimp only; walk1) | walk1))
            rename Fr _ _ _ _ => kF
            rename News _ _ _ _ => kN

            exact hR _ _ <| trInv_next (by assumption) rfl kF kN (fun _ hp => hp) (by rw [hgen, hts, if_neg (by simp)]; simpa using hv.snoc (st := st) (i := .star) rfl) (by simpa using hvl) hps rfl ⟨by walk_at "m.look", by walk_at "m.look", by walk_at "m.look", by walk_at "m.look", by walk_at "m.look", by walk_at "m.look", by walk_at "m.look"⟩
          | _ =>
            obtain ⟨tv, rfl⟩ := hi
            (repeat ((fail_if_success (with_reducible show wpAny _ _ (compareOp CmpOp.IsNot _ _) _ _ _)); first | (dsimp only; walk1) | walk1))
            refine wpAny_isNot_other (by rfl) (by intro x; cases x) ?_
            (repeat (first | (dsimp only; walk1) | walk1))
            rename Fr _ _ _ _ => kF
            rename News _ _ _ _ => kN
            exact hR _ _ <| trInv_next (by assumption) rfl kF kN (fun _ hp => hp) (by rw [hgen, hts, if_neg (by simp)]; simpa using hv.snoc (st := st) (i := .star) rfl) (by simpa using hvl) hps rfl ⟨by walk_at "m.look", by walk_at "m.look", by walk_at "m.look", by walk_at "m.look", by walk_at "m.look", by walk_at "m.look", by walk_at "m.look"⟩
      | q =>
        have hx : P.cps[((utext pre).length : Int).toNat]? = some 63 := by
          rw [← Array.getElem?_toList, hP]; simp [utext, U.text]
        simp only [U.text, List.length_append, List.length_cons, List.length_nil] at hn
        (repeat ((fail_if_success (with_reducible show wpAny _ _ (subscriptTail _ _ _ _) _ _ _)); first | (dsimp only; walk1) | walk1))
        refine str_item (by omega) (by omega) hx ?_
        (repeat (first | (dsimp only; walk1) | walk1))
        rename Fr _ _ _ _ => kF
        rename News _ _ _ _ => kN
        have hts : trStep one (trAll one pre) .q = trAll one pre ++ [if one then .star else .mark] := rfl
        have hi : partIs st mk (if one then .star else .mark) (.ref mk) := by
          cases one
          · rfl
          · show Value.ref mk = .ref st
            rw [h1 rfl]
        exact hR _ _ <| trInv_next (by assumption) rfl kF kN (fun _ hp => hp) (by rw [hts]; simpa using hv.snoc hi) (by simpa using hvl) hps rfl ⟨by walk_at "m.look", by walk_at "m.look", by walk_at "m.look", by walk_at "m.look", by walk_at "m.look", by walk_at "m.look", by walk_at "m.look"⟩
      | a =>
        have hx : P.cps[((utext pre).length : Int).toNat]? = some 97 := by
          rw [← Array.getElem?_toList, hP]; simp [utext, U.text]
        simp only [U.text, List.length_append, List.length_cons, List.length_nil] at hn
        (repeat ((fail_if_success (with_reducible show wpAny _ _ (subscriptTail _ _ _ _) _ _ _)); first | (dsimp only; walk1) | walk1))
        refine str_item (by omega) (by omega) hx ?_
        (repeat ((fail_if_success (with_reducible show wpAny _ _ (call (Value.ref 56) _ _) _ _ _)); first | (dsimp only; walk1) | walk1))
        refine esc_a (by assumption) (by assumption) (by assumption) (by assumption) (by assumption) rfl rfl ?_
        intro h2 tk2 t2 F2 N2
        (repeat (first | (dsimp only; walk1) | walk1))

        rename Fr _ _ _ _ => kF
        rename News _ _ _ _ => kN
        exact hR _ _ <| trInv_next (by assumption) rfl kF kN (fun _ hp => hp) (by show PartsAre st mk _ (trAll one pre ++ [.a]); simpa using hv.snoc (i := .a) ⟨_, rfl⟩) (by simpa using hvl) hps rfl ⟨by walk_at "m.look", by walk_at "m.look", by walk_at "m.look", by walk_at "m.look", by walk_at "m.look", by walk_at "m.look", by walk_at "m.look"⟩
      | dot =>
        have hx : P.cps[((utext pre).length : Int).toNat]? = some 46 := by
          rw [← Array.getElem?_toList, hP]; simp [utext, U.text]
        simp only [U.text, List.length_append, List.length_cons, List.length_nil] at hn
        (repeat ((fail_if_success (with_reducible show wpAny _ _ (subscriptTail _ _ _ _) _ _ _)); first | (dsimp only; walk1) | walk1))
        refine str_item (by omega) (by omega) hx ?_
        (repeat ((fail_if_success (with_reducible show wpAny _ _ (call (Value.ref 56) _ _) _ _ _)); first | (dsimp only; walk1) | walk1))
        refine esc_dot (by assumption) (by assumption) (by assumption) (by assumption) (by assumption) rfl rfl ?_
        intro h2 tk2 t2 F2 N2
        (repeat (first | (dsimp only; walk1) | walk1))

        rename Fr _ _ _ _ => kF
        rename News _ _ _ _ => kN
        exact hR _ _ <| trInv_next (by assumption) rfl kF kN (fun _ hp => hp) (by show PartsAre st mk _ (trAll one pre ++ [.dot]); simpa using hv.snoc (i := .dot) ⟨_, rfl⟩) (by simpa using hvl) hps rfl ⟨by walk_at "m.look", by walk_at "m.look", by walk_at "m.look", by walk_at "m.look", by walk_at "m.look", by walk_at "m.look", by walk_at "m.look"⟩
      | e =>
        have hx : P.cps[((utext pre).length : Int).toNat]? = some 233 := by
          rw [← Array.getElem?_toList, hP]; simp [utext, U.text]
        simp only [U.text, List.length_append, List.length_cons, List.length_nil] at hn
        (repeat ((fail_if_success (with_reducible show wpAny _ _ (subscriptTail _ _ _ _) _ _ _)); first | (dsimp only; walk1) | walk1))
        refine str_item (by omega) (by omega) hx ?_
        (repeat ((fail_if_success (with_reducible show wpAny _ _ (call (Value.ref 56) _ _) _ _ _)); first | (dsimp only; walk1) | walk1))
        refine esc_e (by assumption) (by assumption) (by assumption) (by assumption) (by assumption) rfl rfl ?_
        intro h2 tk2 t2 F2 N2
        (repeat (first | (dsimp only; walk1) | walk1))

        rename Fr _ _ _ _ => kF
        rename News _ _ _ _ => kN
        exact hR _ _ <| trInv_next (by assumption) rfl kF kN (fun _ hp => hp) (by show PartsAre st mk _ (trAll one pre ++ [.e]); simpa using hv.snoc (i := .e) ⟨_, rfl⟩) (by simpa using hvl) hps rfl ⟨by walk_at "m.look", by walk_at "m.look", by walk_at "m.look", by walk_at "m.look", by walk_at "m.look", by walk_at "m.look", by walk_at "m.look"⟩
      | na =>
        have hta : TextAt P (utext pre).length [91, 33, 97, 93] := textAt_of (post := utext rest) (by rw [hP]; simp [utext, U.text])
        simp only [U.text, List.length_append, List.length_cons, List.length_nil] at hn
        (repeat (first | (dsimp only; walk1) | walk1))
        rename Fr _ _ _ _ => kF
        rename News _ _ _ _ => kN
        have ev : (Str.empty ++ Str.ofString "[" ++ Str.ofString "^a" ++ Str.ofString "]" : Str) = ⟨#[91, 94, 97, 93]⟩ := by decide +kernel
        exact hR _ _ <| trInv_next (z := ((utext pre).length : Int) + 1 + 1 + 1 + 1) (by assumption) rfl kF kN (fun _ hp => .tail _ hp) (by rw [List.concat_eq_append]; exact PartsAre.snoc (i := .na) hv ⟨_, congrArg (Value.str · _) ev⟩) (by simpa using hvl) (by assumption) (by show _ = ((utext pre).length : Int) + ((4 : Nat) : Int); omega) ⟨by walk_at "m.look", by walk_at "m.look", by walk_at "m.look", by walk_at "m.look", by walk_at "m.look", by walk_at "m.look", by walk_at "m.look"⟩
      | ba =>
        have hta : TextAt P (utext pre).length [91, 98, 45, 97, 93] := textAt_of (post := utext rest) (by rw [hP]; simp [utext, U.text])
        simp only [U.text, List.length_append, List.length_cons, List.length_nil] at hn
        (repeat ((fail_if_success (with_reducible show wpAny _ _ (eval (PySem.Expr.GeneratorExp _ _ _ _) _) _ _ _)); first | (dsimp only; walk1) | walk1))
        rename News _ _ _ _ => kN0
        have kN := kN0
        first | rw [slices_nil] at kN | rw [slices_nil'] at kN
        clear kN0
        rename Fr _ _ _ _ => kF
        refine' gen_K (F₀ := fun _ y => ∃ u, y = .str ⟨#[]⟩ u) ?hh ?F ?N ?T ?C ?cd ?U ?t ?G ?co ?cl ?ce ?h0 ?hx ?hk ?hr ?hl ?hi ?he ?_ ?hs
        case hh => exact rfl
        case F => exact kF
        case N => exact kN
        case T => k_asm
        case cd => exact rfl
        case C => kn_code
        case U => k_updF
        case t => assumption
        case G => assumption
        case co => exact rfl
        case cl => exact rfl
        case ce => decide
        case h0 => decide
        case hx => decide
        case hk => exact rfl
        case hr => k_room
        case hl => k_mem
        case hi =>
          walk1
          exact ⟨rfl, rfl⟩
        case he =>
          intro code C A' E' i v s₂ m₂ hA hi hn hm
          obtain rfl := items1 hi
          exact elt_wp hA hn hm rfl rfl rfl rfl
        case hs => intro _; with_unfolding_all rfl
        intro ga gK gh gtk ggs gps gF gN gt gG gL gKs gX
        (try dsimp only at gN); (try dsimp only at gKs)
        clear kN kF
        (repeat ((fail_if_success (with_reducible show wpAny _ _ (call (Value.builtin "str.join") _ _) _ _ _)); first | (dsimp only; walk1) | walk1))
        refine join_nil (s := ⟨_, _, _, _, _⟩) gF gN gG gX gL gKs ?_
        intro jh jgs jdr jtk jt jG jF jN
        clear gF gN gX
        (repeat (first | (dsimp only; walk1) | walk1))
        rename Fr _ _ _ _ => kF
        rename News _ _ _ _ => kN
        have ev : (Str.ofString "(?!)" : Str) = ⟨#[40, 63, 33, 41]⟩ := by decide +kernel
        exact hR _ _ <| trInv_next (z := ((utext pre).length : Int) + 1 + 1 + 1 + 1 + 1) (by assumption) rfl kF kN (fun _ hp => by first | exact .tail _ (.tail _ (.tail _ hp)) | exact .tail _ (.tail _ hp) | exact .tail _ hp) (by rw [List.concat_eq_append]; exact PartsAre.snoc (i := .ba) hv ⟨_, congrArg (Value.str · _) ev⟩) (by simpa using hvl) (by assumption) (by show _ = ((utext pre).length : Int) + ((5 : Nat) : Int); omega) ⟨by walk_at "m.look", by walk_at "m.look", by walk_at "m.look", by walk_at "m.look", by walk_at "m.look", by walk_at "m.look", by walk_at "m.look"⟩
end
section
variable {w : World} {base h₀ : Heap} {L : Addr} {env : Env} {m mg mb : Str → Option Value} {news : List (Addr × Obj)} {p : Program} {loose : List Str} {mean : ExcName → Option Value} {s : Shared} {E : Value → Shared → Prop} {Q : Value → Shared → Prop}
theorem lr_ok {y1 y2 : Addr} {o1 o2 : Obj} {vals : List Value} {is : List It} {r st mk : Addr} {bs bm : Array UInt8} {nn : Nat} {ps : Array Value}
    (B' : Below callerA base [] h₀) (F' : Fr h₀ L s.heap m) (X' : (Mine.hd.heap_39 w.params).In h₀) (T' : Top p loose mean mg mb h₀)
    (N' : News h₀ L s.heap [(r, listOf (List.toArray vals) nn), (st, baObj bs), (mk, baObj bm), (58, tabObj ps), (y1, o1), (y2, o2)])
    (XB : (Mine.hd.heap_39 w.params).In base) (TB : Top p loose mean mg mb base) (hG : AllBare s.gens) (hP : AreL (partIs st mk) vals is) (hlen : vals.length ≤ 100)
    (hf : env.frame = some L) (hke : env.scope.kind = .function)
    (h : ∀ h' gs dr tk q rvals nq, AllBare gs → Fr h₀ L h' m → News h₀ L h' [(q, listOf (List.toArray rvals) nq), (r, listOf (List.toArray vals) nn), (st, baObj bs), (mk, baObj bm), (58, tabObj ps), (y1, o1), (y2, o2)] → AreL (rowIs st mk) rvals is → Q (.ref q) ⟨h', gs, dr, tk, s.os⟩) :
    wpAny (model pg w) (callerA.deeper env) (call (.ref 126) [.ref r] []) Q E s := by
  refine wpAny_call ?_
  refine' code_defS0X (K := Mine.hd.heap_39 w.params) (binds := [(Str.ofString "parts", .ref r)]) B' F' X' N' T' rfl hf hke ?ho ?hcd ?hroom ?hbind ?hloc ?_ ?co ?gen ?k ?cell
  case ho => k_is
  case hcd => k_is
  case hroom => k_room
  case hbind => exact BindsTo.of_eq rfl
  case hloc => exact locs rfl
  case co => exact rfl
  case gen => exact rfl
  case k => exact rfl
  case cell => decide
  intro g L1 h1 FG F1 N1 B1 X1 T1 D1
  (repeat ((fail_if_success (with_reducible show wpAny _ _ (newList _) _ _ _)); first | walk1 | (dsimp only; walk1)))
  (refine newList_K (by k_asm) (by k_asm) ?_; intro q h2 F2 N2 lr; k_lt lr; k_sweep)
  (repeat ((fail_if_success (with_reducible show wpAny _ _ (exec (Stmt.For _ _ _ _ _) _) _ _ _)); first | walk1 | (dsimp only; walk1)))
  rename Fr _ _ _ _ => FW
  rename News _ _ _ _ => NW
  refine wpAny_For ?_
  (repeat ((fail_if_success (with_reducible show wpAny _ _ (pyIter _) _ _ _)); first | walk1 | (dsimp only; walk1)))
  refine for_list (LrInv w p loose mean mg mb (callerA.deeper env) env (List.filterMap (fun x => x.frame) [env]) base g st mk is q [(r, listOf (List.toArray vals) nn), (st, baObj bs), (mk, baObj bm), (58, tabObj ps), (y1, o1), (y2, o2)]) rfl FW NW hG (by k_mem) ?h0 ?turn ?done
  case h0 => exact ⟨[], 0, .refl, B1, X1, T1, D1, by walk_at "m.look", rfl, .nil⟩
  case done =>
    rintro g' m' news' h' gs dr tk ⟨rvals, nq, T2, B2, X2, TT2, D2, e1, rfl, hrv⟩ G2 F3 N3
    have h3 : AreL (rowIs st mk) rvals is := by
      rw [List.take_of_length_le (by rw [← hP.1]; simp)] at hrv
      exact hrv
    (repeat (first | walk1 | (dsimp only; walk1)))
    exact h _ _ _ _ _ _ _ G2 (by assumption) (by assumption) h3
  case turn =>
    rintro i v it oit g₁ m₁ news₁ h₁ gs dr tk hv ⟨rvals, nq, T2, B2, X2, TT2, D2, e1, rfl, hrv⟩ G2 F3 N3 hmem hne
    obtain ⟨k, hk, hpk⟩ := hP.at (by simpa using hv)
    have hrl : rvals.length ≤ 100 := by
      have h1 := hrv.1
      rw [List.length_take, ← hP.1] at h1
      omega
    have hq : @Ne Nat q it := hne _ (.head _)
    have hn : ∀ z ∈ [(r, listOf (List.toArray vals) nn), (st, baObj bs), (mk, baObj bm), (58, tabObj ps), (y1, o1), (y2, o2)], z.1 ≠ it := fun z hz => hne z (.tail _ hz)
    cases k with
    | star =>
      obtain rfl := hpk
      (repeat ((fail_if_success (with_reducible show wpAny _ _ (call (Value.ref 39) _ _) _ _ _)); first | walk1 | (dsimp only; walk1)))
      refine bd_ref (by assumption) (by assumption) (by assumption) (by assumption) (by assumption) (by k_mem) rfl rfl ?_
      intro h3 tk3 F4 N4
      (repeat (first | walk1 | (dsimp only; walk1)))
      exact lr_next G2 (by assumption) (by assumption) (.head _) hq hn T2 B2 X2 TT2 D2 (by walk_at "m.look") hrv hk rfl
    | mark =>
      obtain rfl := hpk
      (repeat ((fail_if_success (with_reducible show wpAny _ _ (call (Value.ref 39) _ _) _ _ _)); first | walk1 | (dsimp only; walk1)))
      refine bd_ref (by assumption) (by assumption) (by assumption) (by assumption) (by assumption) (by k_mem) rfl rfl ?_
      intro h3 tk3 F4 N4
      (repeat (first | walk1 | (dsimp only; walk1)))
      exact lr_next G2 (by assumption) (by assumption) (.head _) hq hn T2 B2 X2 TT2 D2 (by walk_at "m.look") hrv hk rfl
    | a =>
      obtain ⟨tv, rfl⟩ := hpk
      (repeat ((fail_if_success (with_reducible show wpAny _ _ (call (Value.ref 39) _ _) _ _ _)); first | walk1 | (dsimp only; walk1)))
      refine bd_a (by assumption) (by assumption) (by assumption) (by assumption) (by assumption) rfl rfl ?_
      intro h3 tk3 t3 F4 N4
      (repeat (first | walk1 | (dsimp only; walk1)))
      exact lr_next G2 (by assumption) (by assumption) (.head _) hq hn T2 B2 X2 TT2 D2 (by walk_at "m.look") hrv hk ⟨_, rfl⟩
    | dot =>
      obtain ⟨tv, rfl⟩ := hpk
      (repeat ((fail_if_success (with_reducible show wpAny _ _ (call (Value.ref 39) _ _) _ _ _)); first | walk1 | (dsimp only; walk1)))
      refine bd_dot (by assumption) (by assumption) (by assumption) (by assumption) (by assumption) rfl rfl ?_
      intro h3 tk3 t3 F4 N4
      (repeat (first | walk1 | (dsimp only; walk1)))
      exact lr_next G2 (by assumption) (by assumption) (.head _) hq hn T2 B2 X2 TT2 D2 (by walk_at "m.look") hrv hk ⟨_, rfl⟩
    | ba =>
      obtain ⟨tv, rfl⟩ := hpk
      (repeat ((fail_if_success (with_reducible show wpAny _ _ (call (Value.ref 39) _ _) _ _ _)); first | walk1 | (dsimp only; walk1)))
      refine bd_ba (by assumption) (by assumption) (by assumption) (by assumption) (by assumption) rfl rfl ?_
      intro h3 tk3 t3 F4 N4
      (repeat (first | walk1 | (dsimp only; walk1)))
      exact lr_next G2 (by assumption) (by assumption) (.head _) hq hn T2 B2 X2 TT2 D2 (by walk_at "m.look") hrv hk ⟨_, rfl⟩
    | na =>
      obtain ⟨tv, rfl⟩ := hpk
      (repeat ((fail_if_success (with_reducible show wpAny _ _ (call (Value.ref 39) _ _) _ _ _)); first | walk1 | (dsimp only; walk1)))
      refine bd_na (by assumption) (by assumption) (by assumption) (by assumption) (by assumption) rfl rfl ?_
      intro h3 tk3 t3 F4 N4
      (repeat (first | walk1 | (dsimp only; walk1)))
      exact lr_next G2 (by assumption) (by assumption) (.head _) hq hn T2 B2 X2 TT2 D2 (by walk_at "m.look") hrv hk ⟨_, rfl⟩
    | e =>
      obtain ⟨tv, rfl⟩ := hpk
      (repeat ((fail_if_success (with_reducible show wpAny _ _ (call (Value.ref 39) _ _) _ _ _)); first | walk1 | (dsimp only; walk1)))
      refine bd_e (by assumption) (by assumption) (by assumption) (by assumption) (by assumption) XB TB rfl rfl ?_
      intro e t2 tm G h3 tk3 FG3 R3 U3
      refine caught_SB (KF := Mine.hd.heap_39 w.params) (X := "ValueError") (T' := "ValueError") (g₀ := g) R3 FG3 B2 U3 XB TB D2 T2 (by k_is) (by decide +kernel) (by decide +kernel) (by rw [isSubtype_type]; kernel_rfl) (by kernel_rfl) (by rw [isSubtype_type]; kernel_rfl) ?_
      intro h4 g4 news4 tk4 T4 F4 N4 hgot N5 K4 X4 TT4 D4
      obtain ⟨oe, ot, ws, nt, me, mt, hoc, hod, how, htc, htd⟩ := hgot
      have he := (N4 _ me).1
      have ht := (N4 _ mt).1
      clear N4 N3 F3
      (repeat ((fail_if_success (with_reducible show wpAny _ _ (call (Value.type "str") _ _) _ _ _)); first | walk1 | (dsimp only; walk1)))
      obtain ⟨oc, odi, oda, osl⟩ := oe
      obtain ⟨tc, tdi, tda, tsl⟩ := ot
      dsimp only at hoc hod htc htd he ht
      subst hoc hod htc htd
      obtain ⟨wl⟩ := ws
      cases wl with
      | nil => simp at how
      | cons w0 wl =>
      obtain rfl : w0 = .ref t2 := by simpa using how
      refine str_exc (x := sOnly) (tx := tm) (t := t2) (ws := wl) (Nat.le_of_ble_eq_true rfl) he ht ?_
      rintro s5 ⟨h5, tk5, rfl, kk⟩
      have F5 := F4.keptAll kk
      have N6 := N5.grown kk
      clear F4 N5 he ht
      (repeat (first | walk1 | (dsimp only; walk1)))
      exact lr_next G2 (by assumption) (by assumption) (.head _) hq hn T4 K4 X4 TT4 D4 (by walk_at "m.look") hrv hk ⟨_, rfl⟩
end
section
theorem name_ok : ∀ k : It, PyData.strOk k.name = true := by intro k; cases k <;> decide +kernel
theorem name_ne : ∀ k : It, k ≠ .star → (!decide (k.name = Str.ofString "star")) = true := by intro k h; cases k <;> first | exact absurd rfl h | decide +kernel
variable {w : World} {base h₀ : Heap} {env : Env} {L : Addr} {m mg mb : Str → Option Value} {news : List (Addr × Obj)} {p : Program} {loose : List Str} {mean : ExcName → Option Value} {s : Shared} {E : Value → Shared → Prop} {Q : Value → Shared → Prop}
theorem li_ok {vals : List Value} {pcs : List Pc} {r : Addr} {nn : Nat} {one : Bool}
    (B' : Below callerA base [] h₀) (F' : Fr h₀ L s.heap m) (X' : (Mine.hd.heap_39 w.params).In h₀) (T' : Top p loose mean mg mb h₀)
    (N' : News h₀ L s.heap ((r, listOf (List.toArray vals) nn) :: news))
    (hf : env.frame = some L) (hke : env.scope.kind = .function) (hG : AllBare s.gens) (hP : PcsAre vals pcs) (hlen : vals.length ≤ 100)
    (h : ∀ h' gs dr tk q ivals nq, AllBare gs → Fr h₀ L h' m → News h₀ L h' ((q, listOf (List.toArray ivals) nq) :: (r, listOf (List.toArray vals) nn) :: news) → AreL itemIs ivals (trAll one (unitsOfP pcs)) → Q (.ref q) ⟨h', gs, dr, tk, s.os⟩) :
    wpAny (model pg w) (callerA.deeper env) (call (.ref 119) [.ref r, .bool one] []) Q E s := by
  refine wpAny_call ?_
  refine' code_def (K := Mine.hd.heap_39 w.params) (binds := [(Str.ofString "pieces", .ref r), (Str.ofString "one", .bool one)]) B' F' X' N' T' rfl hf hke ?ho ?hcd ?hroom ?hbind ?hloc ?_ ?co ?gen ?k ?cell
  case ho => k_is
  case hcd => k_is
  case hroom => k_room
  case hbind => exact BindsTo.of_eq rfl
  case hloc => exact locs rfl
  case co => exact rfl
  case gen => exact rfl
  case k => exact rfl
  case cell => decide
  intro g L1 h1 FG F1 N1 B1 X1 T1
  (repeat ((fail_if_success (with_reducible show wpAny _ _ (newList _) _ _ _)); first | walk1 | (dsimp only; walk1)))
  (refine newList_K (by k_asm) (by k_asm) ?_; intro q h2 F2 N2 lr; k_sweep)
  (repeat ((fail_if_success (with_reducible show wpAny _ _ (exec (Stmt.For _ _ _ _ _) _) _ _ _)); first | walk1 | (dsimp only; walk1)))
  rename Fr _ _ _ _ => FW
  rename News _ _ _ _ => NW
  refine wpAny_For ?_
  (repeat ((fail_if_success (with_reducible show wpAny _ _ (pyIter _) _ _ _)); first | walk1 | (dsimp only; walk1)))
  refine for_list (LiInv one (.bool one) pcs q ((r, listOf (List.toArray vals) nn) :: news) g) rfl FW NW hG (by k_mem) ?h0 ?turn ?done
  case h0 => exact ⟨[], 0, rfl, by walk_at "m.look", by walk_at "m.look", rfl, .nil, Nat.le_refl _⟩
  case done =>
    rintro g' m' news' h' gs dr tk ⟨ivals, nq, rfl, e1, e2, rfl, hrv, hil⟩ G2 F3 N3
    have h3 : AreL itemIs ivals (trAll one (unitsOfP pcs)) := by
      rw [List.take_of_length_le (by rw [← hP.1]; simp)] at hrv
      exact hrv
    (repeat (first | walk1 | (dsimp only; walk1)))
    exact h _ _ _ _ _ _ _ G2 (by assumption) (by assumption) h3
  case turn =>
    rintro i v it oit g₁ m₁ news₁ h₁ gs dr tk hv ⟨ivals, nq, rfl, e1, e2, rfl, hrv, hil⟩ G2 F3 N3 hmem hne
    obtain ⟨k, hk, hpk⟩ := hP.2 i v (by simpa using hv)
    have hil2 : ivals.length ≤ 100 := by
      have := (Array.getElem?_eq_some_iff.mp hv).1
      simp at this
      omega
    have htr := li_tr (one := one) hk
    have hq : @Ne Nat q it := hne _ (.head _)
    have hn : ∀ z ∈ (r, listOf (List.toArray vals) nn) :: news, z.1 ≠ it := fun z hz => hne z (.tail _ hz)
    have hrq : @Ne Nat r q := Nat.ne_of_lt (lr _ (.head _))
    have hnq : ∀ p ∈ news, p.1 ≠ q := fun p hp => Nat.ne_of_lt (lr _ (.tail _ hp))
    clear hne
    obtain ⟨tv, rfl⟩ := hpk
    cases k with
    | a =>
      (repeat (first | walk1 | (dsimp only; walk1)))
      rename News _ _ _ _ => kN
      exact li_next G2 (by assumption) (fun p hp => kN p (by revert p; walk_at "m.sub")) (.head _) hq hn (by walk_at "m.look") (by walk_at "m.look") htr (hrv.snoc (k := .a) ⟨_, rfl⟩) (by simp; omega)
    | dot =>
      (repeat (first | walk1 | (dsimp only; walk1)))
      rename News _ _ _ _ => kN
      exact li_next G2 (by assumption) (fun p hp => kN p (by revert p; walk_at "m.sub")) (.head _) hq hn (by walk_at "m.look") (by walk_at "m.look") htr (hrv.snoc (k := .dot) ⟨_, rfl⟩) (by simp; omega)
    | ba =>
      (repeat (first | walk1 | (dsimp only; walk1)))
      rename News _ _ _ _ => kN
      exact li_next G2 (by assumption) (fun p hp => kN p (by revert p; walk_at "m.sub")) (.head _) hq hn (by walk_at "m.look") (by walk_at "m.look") htr (hrv.snoc (k := .ba) ⟨_, rfl⟩) (by simp; omega)
    | na =>
      (repeat (first | walk1 | (dsimp only; walk1)))
      rename News _ _ _ _ => kN
      exact li_next G2 (by assumption) (fun p hp => kN p (by revert p; walk_at "m.sub")) (.head _) hq hn (by walk_at "m.look") (by walk_at "m.look") htr (hrv.snoc (k := .na) ⟨_, rfl⟩) (by simp; omega)
    | e =>
      (repeat (first | walk1 | (dsimp only; walk1)))
      rename News _ _ _ _ => kN
      exact li_next G2 (by assumption) (fun p hp => kN p (by revert p; walk_at "m.sub")) (.head _) hq hn (by walk_at "m.look") (by walk_at "m.look") htr (hrv.snoc (k := .e) ⟨_, rfl⟩) (by simp; omega)
    | q =>
      (repeat (first | walk1 | (dsimp only; walk1)))
      · rename News _ _ _ _ => kN
        rename one = true => ho
        subst ho
        exact li_next G2 (by assumption) (fun p hp => kN p (by revert p; walk_at "m.sub")) (.head _) hq hn (by walk_at "m.look") (by walk_at "m.look") htr (hrv.snoc (k := .star) ⟨_, rfl⟩) (by simp; omega)
      · (repeat (first | walk1 | (dsimp only; walk1)))
        rename News _ _ _ _ => kN
        rename one = false => ho
        subst ho
        exact li_next G2 (by assumption) (fun p hp => kN p (by revert p; walk_at "m.sub")) (.head _) hq hn (by walk_at "m.look") (by walk_at "m.look") htr (hrv.snoc (k := .mark) ⟨_, rfl⟩) (by simp; omega)
    | star =>
      (repeat ((fail_if_success (with_reducible show wpAny _ _ (compareOp CmpOp.NotEq _ _) _ _ _)); first | walk1 | (dsimp only; walk1)))
      rcases hrv.last with ⟨rfl, he⟩ | ⟨vs', v', is', k', rfl, he, hp'⟩
      · refine ne_nil_star (by k_asm) (.tail _ (.head _)) rfl (congrArg (Data.seq · _) pick_nil) (.head _) rfl rfl (by decide +kernel) (Nat.le_of_ble_eq_true rfl) ?_
        rename News _ _ _ _ => kN0
        have kN2 : News g₁ L1 _ ((it, oit) :: (q, listOf (List.toArray _) nq) :: (r, listOf (List.toArray vals) nn) :: news) := fun p hp => kN0 p (by revert p; walk_at "m.sub")
        clear kN0
        (repeat (first | walk1 | (dsimp only; walk1)))
        rename News _ _ _ _ => kN
        rw [he] at htr hrv
        exact li_next G2 (by assumption) (fun p hp => kN p (by revert p; walk_at "m.sub")) (.head _) hq hn (by walk_at "m.look") (by walk_at "m.look") htr (hrv.snoc (k := .star) ⟨_, rfl⟩) (by simp)
      · obtain ⟨tv', rfl⟩ := hp'
        by_cases hks : k' = .star
        · subst hks
          refine ne_one_star (by k_asm) (.tail _ (.head _)) rfl (congrArg (Data.seq · _) (pick_last _ _)) (.head _) rfl rfl (by decide +kernel) (by decide +kernel) (Nat.le_of_ble_eq_true rfl) (bb := false) (by decide +kernel) ?_
          rename News _ _ _ _ => kN0
          have kN2 : News g₁ L1 _ ((it, oit) :: (q, listOf (List.toArray _) nq) :: (r, listOf (List.toArray vals) nn) :: news) := fun p hp => kN0 p (by revert p; walk_at "m.sub")
          clear kN0
          (repeat (first | walk1 | (dsimp only; walk1)))
          rename News _ _ _ _ => kN
          rw [he] at hrv
          exact li_next G2 (by assumption) (fun p hp => kN p (by revert p; walk_at "m.sub")) (.head _) hq hn (by walk_at "m.look") (by walk_at "m.look") (by rw [htr, he]; simp [Pc.units, trStep]) hrv (by simpa using Nat.le_succ_of_le hil)
        · refine ne_one_star (by k_asm) (.tail _ (.head _)) rfl (congrArg (Data.seq · _) (pick_last _ _)) (.head _) rfl rfl (name_ok k') (by decide +kernel) (Nat.le_of_ble_eq_true rfl) (bb := true) (name_ne k' hks) ?_
          rename News _ _ _ _ => kN0
          have kN2 : News g₁ L1 _ ((it, oit) :: (q, listOf (List.toArray _) nq) :: (r, listOf (List.toArray vals) nn) :: news) := fun p hp => kN0 p (by revert p; walk_at "m.sub")
          clear kN0
          (repeat (first | walk1 | (dsimp only; walk1)))
          rename News _ _ _ _ => kN
          exact li_next G2 (by assumption) (fun p hp => kN p (by revert p; walk_at "m.sub")) (.head _) hq hn (by walk_at "m.look") (by walk_at "m.look") (is := is' ++ [k'] ++ [.star]) (by rw [htr, he]; simp [Pc.units, trStep, hks]) (by rw [he] at hrv; exact hrv.snoc (k := .star) ⟨_, rfl⟩) (by simp at hil ⊢; omega)
    | star2 =>
      (repeat ((fail_if_success (with_reducible show wpAny _ _ (compareOp CmpOp.NotEq _ _) _ _ _)); first | walk1 | (dsimp only; walk1)))
      rcases hrv.last with ⟨rfl, he⟩ | ⟨vs', v', is', k', rfl, he, hp'⟩
      · refine ne_nil_star (by k_asm) (.tail _ (.head _)) rfl (congrArg (Data.seq · _) pick_nil) (.head _) rfl rfl (by decide +kernel) (Nat.le_of_ble_eq_true rfl) ?_
        rename News _ _ _ _ => kN0
        have kN2 : News g₁ L1 _ ((it, oit) :: (q, listOf (List.toArray _) nq) :: (r, listOf (List.toArray vals) nn) :: news) := fun p hp => kN0 p (by revert p; walk_at "m.sub")
        clear kN0
        (repeat (first | walk1 | (dsimp only; walk1)))
        rename News _ _ _ _ => kN
        rw [he] at htr hrv
        exact li_next G2 (by assumption) (fun p hp => kN p (by revert p; walk_at "m.sub")) (.head _) hq hn (by walk_at "m.look") (by walk_at "m.look") htr (hrv.snoc (k := .star) ⟨_, rfl⟩) (by simp)
      · obtain ⟨tv', rfl⟩ := hp'
        by_cases hks : k' = .star
        · subst hks
          refine ne_one_star (by k_asm) (.tail _ (.head _)) rfl (congrArg (Data.seq · _) (pick_last _ _)) (.head _) rfl rfl (by decide +kernel) (by decide +kernel) (Nat.le_of_ble_eq_true rfl) (bb := false) (by decide +kernel) ?_
          rename News _ _ _ _ => kN0
          have kN2 : News g₁ L1 _ ((it, oit) :: (q, listOf (List.toArray _) nq) :: (r, listOf (List.toArray vals) nn) :: news) := fun p hp => kN0 p (by revert p; walk_at "m.sub")
          clear kN0
          (repeat (first | walk1 | (dsimp only; walk1)))
          rename News _ _ _ _ => kN
          rw [he] at hrv
          exact li_next G2 (by assumption) (fun p hp => kN p (by revert p; walk_at "m.sub")) (.head _) hq hn (by walk_at "m.look") (by walk_at "m.look") (by rw [htr, he]; simp [Pc.units, trStep]) hrv (by simpa using Nat.le_succ_of_le hil)
        · refine ne_one_star (by k_asm) (.tail _ (.head _)) rfl (congrArg (Data.seq · _) (pick_last _ _)) (.head _) rfl rfl (name_ok k') (by decide +kernel) (Nat.le_of_ble_eq_true rfl) (bb := true) (name_ne k' hks) ?_
          rename News _ _ _ _ => kN0
          have kN2 : News g₁ L1 _ ((it, oit) :: (q, listOf (List.toArray _) nq) :: (r, listOf (List.toArray vals) nn) :: news) := fun p hp => kN0 p (by revert p; walk_at "m.sub")
          clear kN0
          (repeat (first | walk1 | (dsimp only; walk1)))
          rename News _ _ _ _ => kN
          exact li_next G2 (by assumption) (fun p hp => kN p (by revert p; walk_at "m.sub")) (.head _) hq hn (by walk_at "m.look") (by walk_at "m.look") (is := is' ++ [k'] ++ [.star]) (by rw [htr, he]; simp [Pc.units, trStep, hks]) (by rw [he] at hrv; exact hrv.snoc (k := .star) ⟨_, rfl⟩) (by simp at hil ⊢; omega)
end
section
variable {w : World} {base h₀ : Heap} {env : Env} {L : Addr} {m mg mb : Str → Option Value} {news : List (Addr × Obj)} {p : Program} {loose : List Str} {mean : ExcName → Option Value} {s : Shared} {E : Value → Shared → Prop} {Q : Value → Shared → Prop}
theorem cc_b {x y : Array UInt8} {t u : Tok}
    (B' : Below callerA base [] h₀) (F' : Fr h₀ L s.heap m) (X' : (Mine.hd.heap_39 w.params).In h₀) (T' : Top p loose mean mg mb h₀)
    (N' : News h₀ L s.heap news) (hf : env.frame = some L) (hke : env.scope.kind = .function) (hsz : x.size + y.size ≤ 16777216)
    (h : ∀ h' tk t', Fr h₀ L h' m → News h₀ L h' news → Q (.bytes (x ++ y) t') { s with heap := h', toks := tk }) :
    wpAny (model pg w) (callerA.deeper env) (call (.ref 70) [.bytes x t, .bytes y u] []) Q E s := by
  refine wpAny_call ?_
  refine' code_def (K := Mine.hd.heap_39 w.params) (binds := [(Str.ofString "a", .bytes x t), (Str.ofString "b", .bytes y u)]) B' F' X' N' T' rfl hf hke ?ho ?hcd ?hroom ?hbind ?hloc ?_ ?co ?gen ?k ?cell
  case ho => k_is
  case hcd => k_is
  case hroom => k_room
  case hbind => exact BindsTo.of_eq rfl
  case hloc => exact locs rfl
  case co => exact rfl
  case gen => exact rfl
  case k => exact rfl
  case cell => decide
  intro g L1 h1 FG F1 N1 B1 X1 T1
  (repeat (first | walk1 | (dsimp only; walk1)))
  exact h _ _ _ (by assumption) (by assumption)
theorem cc_ba {x b : Array UInt8} {t : Tok} {a : Addr}
    (B' : Below callerA base [] h₀) (F' : Fr h₀ L s.heap m) (X' : (Mine.hd.heap_39 w.params).In h₀) (T' : Top p loose mean mg mb h₀)
    (N' : News h₀ L s.heap ((a, baObj b) :: news)) (hf : env.frame = some L) (hke : env.scope.kind = .function) (hsz : x.size + b.size ≤ 16777216)
    (h : ∀ h' tk t', Fr h₀ L h' m → News h₀ L h' ((a, baObj b) :: news) → Q (.bytes (x ++ b) t') { s with heap := h', toks := tk }) :
    wpAny (model pg w) (callerA.deeper env) (call (.ref 70) [.bytes x t, .ref a] []) Q E s := by
  refine wpAny_call ?_
  refine' code_def (K := Mine.hd.heap_39 w.params) (binds := [(Str.ofString "a", .bytes x t), (Str.ofString "b", .ref a)]) B' F' X' N' T' rfl hf hke ?ho ?hcd ?hroom ?hbind ?hloc ?_ ?co ?gen ?k ?cell
  case ho => k_is
  case hcd => k_is
  case hroom => k_room
  case hbind => exact BindsTo.of_eq rfl
  case hloc => exact locs rfl
  case co => exact rfl
  case gen => exact rfl
  case k => exact rfl
  case cell => decide
  intro g L1 h1 FG F1 N1 B1 X1 T1
  (repeat (first | walk1 | (dsimp only; walk1)))
  exact h _ _ _ (by assumption) (by assumption)
end
section
variable {w : World} {base h₀ : Heap} {env : Env} {L : Addr} {m mg mb : Str → Option Value} {news : List (Addr × Obj)} {p : Program} {loose : List Str} {mean : ExcName → Option Value} {s : Shared} {E : Value → Shared → Prop} {Q : Value → Shared → Prop}
theorem co_ok {rvals : List Value} {is : List It} {q st mk : Addr} {bs bm : Array UInt8} {nq : Nat}
    (B' : Below callerA base [] h₀) (F' : Fr h₀ L s.heap m) (X' : (Mine.hd.heap_39 w.params).In h₀) (T' : Top p loose mean mg mb h₀)
    (N' : News h₀ L s.heap ((st, baObj bs) :: (mk, baObj bm) :: (q, listOf (List.toArray rvals) nq) :: news))
    (hf : env.frame = some L) (hke : env.scope.kind = .function) (hG : AllBare s.gens) (hP : AreL (rowIs st mk) rvals is) (hlen : rvals.length ≤ 100)
    (h : ∀ h' gs dr tk t, AllBare gs → Fr h₀ L h' m → News h₀ L h' ((st, baObj bs) :: (mk, baObj bm) :: (q, listOf (List.toArray rvals) nq) :: news) → Q (.int ((is.countP (sameAs bs bm bs) : Nat) : Int) t) ⟨h', gs, dr, tk, s.os⟩) :
    wpAny (model pg w) (callerA.deeper env) (call (.ref 77) [.ref q, .ref st] []) Q E s := by
  refine wpAny_call ?_
  refine' code_def (K := Mine.hd.heap_39 w.params) (binds := [(Str.ofString "a", .ref q), (Str.ofString "b", .ref st)]) B' F' X' N' T' rfl hf hke ?ho ?hcd ?hroom ?hbind ?hloc ?_ ?co ?gen ?k ?cell
  case ho => k_is
  case hcd => k_is
  case hroom => k_room
  case hbind => exact BindsTo.of_eq rfl
  case hloc => exact locs rfl
  case co => exact rfl
  case gen => exact rfl
  case k => exact rfl
  case cell => decide
  intro g L1 h1 FG F1 N1 B1 X1 T1
  (repeat ((fail_if_success (with_reducible show wpAny _ _ (exec (Stmt.For _ _ _ _ _) _) _ _ _)); first | walk1 | (dsimp only; walk1)))
  rename Fr g _ _ _ => FW
  rename News g _ _ _ => NW
  refine wpAny_For ?_
  (repeat ((fail_if_success (with_reducible show wpAny _ _ (pyIter _) _ _ _)); first | walk1 | (dsimp only; walk1)))
  refine for_list (CoInv bs bm is (.ref q) (.ref st) ((st, baObj bs) :: (mk, baObj bm) :: (q, listOf (List.toArray rvals) nq) :: news) g) rfl FW NW hG (by k_mem) ?h0 ?turn ?done
  case h0 => exact ⟨_, rfl, by walk_at "m.look", by walk_at "m.look", by walk_at "m.look", rfl⟩
  case done =>
    rintro g' m' news' h' gs dr tk ⟨t, rfl, e1, e2, e3, rfl⟩ G2 F3 N3
    rw [List.take_of_length_le (by rw [← hP.1]; simp)] at e3
    (repeat (first | walk1 | (dsimp only; walk1)))
    exact h _ _ _ _ _ G2 (by assumption) (by assumption)
  case turn =>
    rintro i v it oit g₁ m₁ news₁ h₁ gs dr tk hv ⟨t, rfl, e1, e2, e3, rfl⟩ G2 F3 N3 hmem hne
    obtain ⟨k, hk, hpk⟩ := hP.at (by simpa using hv)
    have hcb : (is.take i).countP (sameAs bs bm bs) ≤ 100 := Nat.le_trans List.countP_le_length (by rw [List.length_take, ← hP.1]; omega)
    have hc0 : (0 : Int) ≤ (((is.take i).countP (sameAs bs bm bs) : Nat) : Int) := by omega
    have hc1 : (((is.take i).countP (sameAs bs bm bs) : Nat) : Int) ≤ 100 := by omega
    cases k with
    | star =>
      obtain rfl := hpk
      (repeat ((fail_if_success (with_reducible show wpAny _ _ (compareOp CmpOp.Is _ _) _ _ _)); first | walk1 | (dsimp only; walk1)))
      refine wpAny_is_ref_self ?_
      (repeat (first | walk1 | (dsimp only; walk1)))
      have hx : sameAs bs bm bs .star = true := by simp [sameAs, cont]
      exact co_next G2 (by assumption) (by assumption) (.tail _ (.tail _ (.head _))) hne (by walk_at "m.look") (by walk_at "m.look") (by walk_at "m.look") hk (by rw [hx]; rfl)
    | mark =>
      obtain rfl := hpk
      by_cases hmk : mk = st
      · subst hmk
        have hbb : bm = bs := by
          have x1 := (N3 _ (.tail _ (.head _))).1
          have x2 := (N3 _ (.tail _ (.tail _ (.head _)))).1
          dsimp only at x1 x2
          rw [x1] at x2
          injection x2 with x2
          injection x2 with _ _ x2 _
          injection x2 with x2 _
          exact x2.symm
        (repeat ((fail_if_success (with_reducible show wpAny _ _ (compareOp CmpOp.Is _ _) _ _ _)); first | walk1 | (dsimp only; walk1)))
        refine wpAny_is_ref_self ?_
        (repeat (first | walk1 | (dsimp only; walk1)))
        have hx : sameAs bs bm bs .mark = true := by simp [sameAs, cont, hbb]
        exact co_next G2 (by assumption) (by assumption) (.tail _ (.tail _ (.head _))) hne (by walk_at "m.look") (by walk_at "m.look") (by walk_at "m.look") hk (by rw [hx]; rfl)
      · (repeat ((fail_if_success (with_reducible show wpAny _ _ (compareOp CmpOp.Is _ _) _ _ _)); first | walk1 | (dsimp only; walk1)))
        refine wpAny_is_ref_other hmk (News.get (by k_asm) (by k_mem)) (News.get (by k_asm) (by k_mem)) (show (Value.type "bytearray") ≠ .type "tuple" by decide) ?_
        (repeat ((fail_if_success (with_reducible show wpAny _ _ (compareOp CmpOp.Eq _ _) _ _ _)); first | walk1 | (dsimp only; walk1)))
        refine eq_ba_baF (c := bm) (b := bs) (by k_asm) (by k_asm) (by k_mem) (by k_mem) (Nat.le_of_ble_eq_true rfl) ?_
        intro h3 tk3 F4 N4
        have hs : sameAs bs bm bs .mark = (bm.toList == bs.toList) := rfl
        rw [← hs]
        (repeat (first | walk1 | (dsimp only; walk1)))
        · rename sameAs bs bm bs .mark = true => hx
          exact co_next G2 (by assumption) (by assumption) (.tail _ (.tail _ (.head _))) hne (by walk_at "m.look") (by walk_at "m.look") (by walk_at "m.look") hk (by rw [hx]; rfl)
        · (repeat (first | walk1 | (dsimp only; walk1)))
          rename sameAs bs bm bs .mark = false => hx
          exact co_next G2 (by assumption) (by assumption) (.tail _ (.tail _ (.head _))) hne (by walk_at "m.look") (by walk_at "m.look") (by walk_at "m.look") hk (by rw [hx]; simp)
    | a =>
      obtain ⟨tv, rfl⟩ := hpk
      (repeat ((fail_if_success (with_reducible show wpAny _ _ (compareOp CmpOp.Is _ _) _ _ _)); first | walk1 | (dsimp only; walk1)))
      refine wpAny_is_other rfl (by intro x; cases x) ?_
      (repeat ((fail_if_success (with_reducible show wpAny _ _ (compareOp CmpOp.Eq _ _) _ _ _)); first | walk1 | (dsimp only; walk1)))
      refine eq_bytes_baF (by k_asm) (by k_asm) (by k_mem) (Nat.le_of_ble_eq_true rfl) ?_
      intro h3 tk3 F4 N4
      have hs : sameAs bs bm bs .a = (bs.toList == (cont bs bm .a).toList) := by
        show ((cont bs bm .a).toList == bs.toList) = _
        rw [Bool.beq_comm]
      simp only [cont] at hs
      rw [← hs]
      (repeat (first | walk1 | (dsimp only; walk1)))
      · rename sameAs bs bm bs .a = true => hx
        exact co_next G2 (by assumption) (by assumption) (.tail _ (.tail _ (.head _))) hne (by walk_at "m.look") (by walk_at "m.look") (by walk_at "m.look") hk (by rw [hx]; rfl)
      · (repeat (first | walk1 | (dsimp only; walk1)))
        rename sameAs bs bm bs .a = false => hx
        exact co_next G2 (by assumption) (by assumption) (.tail _ (.tail _ (.head _))) hne (by walk_at "m.look") (by walk_at "m.look") (by walk_at "m.look") hk (by rw [hx]; simp)
    | dot =>
      obtain ⟨tv, rfl⟩ := hpk
      (repeat ((fail_if_success (with_reducible show wpAny _ _ (compareOp CmpOp.Is _ _) _ _ _)); first | walk1 | (dsimp only; walk1)))
      refine wpAny_is_other rfl (by intro x; cases x) ?_
      (repeat ((fail_if_success (with_reducible show wpAny _ _ (compareOp CmpOp.Eq _ _) _ _ _)); first | walk1 | (dsimp only; walk1)))
      refine eq_bytes_baF (by k_asm) (by k_asm) (by k_mem) (Nat.le_of_ble_eq_true rfl) ?_
      intro h3 tk3 F4 N4
      have hs : sameAs bs bm bs .dot = (bs.toList == (cont bs bm .dot).toList) := by
        show ((cont bs bm .dot).toList == bs.toList) = _
        rw [Bool.beq_comm]
      simp only [cont] at hs
      rw [← hs]
      (repeat (first | walk1 | (dsimp only; walk1)))
      · rename sameAs bs bm bs .dot = true => hx
        exact co_next G2 (by assumption) (by assumption) (.tail _ (.tail _ (.head _))) hne (by walk_at "m.look") (by walk_at "m.look") (by walk_at "m.look") hk (by rw [hx]; rfl)
      · (repeat (first | walk1 | (dsimp only; walk1)))
        rename sameAs bs bm bs .dot = false => hx
        exact co_next G2 (by assumption) (by assumption) (.tail _ (.tail _ (.head _))) hne (by walk_at "m.look") (by walk_at "m.look") (by walk_at "m.look") hk (by rw [hx]; simp)
    | ba =>
      obtain ⟨tv, rfl⟩ := hpk
      (repeat ((fail_if_success (with_reducible show wpAny _ _ (compareOp CmpOp.Is _ _) _ _ _)); first | walk1 | (dsimp only; walk1)))
      refine wpAny_is_other rfl (by intro x; cases x) ?_
      (repeat ((fail_if_success (with_reducible show wpAny _ _ (compareOp CmpOp.Eq _ _) _ _ _)); first | walk1 | (dsimp only; walk1)))
      refine eq_bytes_baF (by k_asm) (by k_asm) (by k_mem) (Nat.le_of_ble_eq_true rfl) ?_
      intro h3 tk3 F4 N4
      have hs : sameAs bs bm bs .ba = (bs.toList == (cont bs bm .ba).toList) := by
        show ((cont bs bm .ba).toList == bs.toList) = _
        rw [Bool.beq_comm]
      simp only [cont] at hs
      rw [← hs]
      (repeat (first | walk1 | (dsimp only; walk1)))
      · rename sameAs bs bm bs .ba = true => hx
        exact co_next G2 (by assumption) (by assumption) (.tail _ (.tail _ (.head _))) hne (by walk_at "m.look") (by walk_at "m.look") (by walk_at "m.look") hk (by rw [hx]; rfl)
      · (repeat (first | walk1 | (dsimp only; walk1)))
        rename sameAs bs bm bs .ba = false => hx
        exact co_next G2 (by assumption) (by assumption) (.tail _ (.tail _ (.head _))) hne (by walk_at "m.look") (by walk_at "m.look") (by walk_at "m.look") hk (by rw [hx]; simp)
    | na =>
      obtain ⟨tv, rfl⟩ := hpk
      (repeat ((fail_if_success (with_reducible show wpAny _ _ (compareOp CmpOp.Is _ _) _ _ _)); first | walk1 | (dsimp only; walk1)))
      refine wpAny_is_other rfl (by intro x; cases x) ?_
      (repeat ((fail_if_success (with_reducible show wpAny _ _ (compareOp CmpOp.Eq _ _) _ _ _)); first | walk1 | (dsimp only; walk1)))
      refine eq_bytes_baF (by k_asm) (by k_asm) (by k_mem) (Nat.le_of_ble_eq_true rfl) ?_
      intro h3 tk3 F4 N4
      have hs : sameAs bs bm bs .na = (bs.toList == (cont bs bm .na).toList) := by
        show ((cont bs bm .na).toList == bs.toList) = _
        rw [Bool.beq_comm]
      simp only [cont] at hs
      rw [← hs]
      (repeat (first | walk1 | (dsimp only; walk1)))
      · rename sameAs bs bm bs .na = true => hx
        exact co_next G2 (by assumption) (by assumption) (.tail _ (.tail _ (.head _))) hne (by walk_at "m.look") (by walk_at "m.look") (by walk_at "m.look") hk (by rw [hx]; rfl)
      · (repeat (first | walk1 | (dsimp only; walk1)))
        rename sameAs bs bm bs .na = false => hx
        exact co_next G2 (by assumption) (by assumption) (.tail _ (.tail _ (.head _))) hne (by walk_at "m.look") (by walk_at "m.look") (by walk_at "m.look") hk (by rw [hx]; simp)
    | e =>
      obtain ⟨tv, rfl⟩ := hpk
      (repeat ((fail_if_success (with_reducible show wpAny _ _ (compareOp CmpOp.Is _ _) _ _ _)); first | walk1 | (dsimp only; walk1)))
      refine wpAny_is_other rfl (by intro x; cases x) ?_
      (repeat ((fail_if_success (with_reducible show wpAny _ _ (compareOp CmpOp.Eq _ _) _ _ _)); first | walk1 | (dsimp only; walk1)))
      refine eq_bytes_baF (by k_asm) (by k_asm) (by k_mem) (Nat.le_of_ble_eq_true rfl) ?_
      intro h3 tk3 F4 N4
      have hs : sameAs bs bm bs .e = (bs.toList == (cont bs bm .e).toList) := by
        show ((cont bs bm .e).toList == bs.toList) = _
        rw [Bool.beq_comm]
      simp only [cont] at hs
      rw [← hs]
      (repeat (first | walk1 | (dsimp only; walk1)))
      · rename sameAs bs bm bs .e = true => hx
        exact co_next G2 (by assumption) (by assumption) (.tail _ (.tail _ (.head _))) hne (by walk_at "m.look") (by walk_at "m.look") (by walk_at "m.look") hk (by rw [hx]; rfl)
      · (repeat (first | walk1 | (dsimp only; walk1)))
        rename sameAs bs bm bs .e = false => hx
        exact co_next G2 (by assumption) (by assumption) (.tail _ (.tail _ (.head _))) hne (by walk_at "m.look") (by walk_at "m.look") (by walk_at "m.look") hk (by rw [hx]; simp)
end
section
variable {w : World} {base h₀ : Heap} {env : Env} {L : Addr} {m mg mb : Str → Option Value} {news : List (Addr × Obj)} {p : Program} {loose : List Str} {mean : ExcName → Option Value} {s : Shared} {E : Value → Shared → Prop} {Q : Value → Shared → Prop}
theorem ix_ok {rvals : List Value} {is : List It} {q st mk : Addr} {bs bm : Array UInt8} {nq : Nat}
    (B' : Below callerA base [] h₀) (F' : Fr h₀ L s.heap m) (X' : (Mine.hd.heap_39 w.params).In h₀) (T' : Top p loose mean mg mb h₀)
    (N' : News h₀ L s.heap ((st, baObj bs) :: (mk, baObj bm) :: (q, listOf (List.toArray rvals) nq) :: news))
    (hf : env.frame = some L) (hke : env.scope.kind = .function) (hP : AreL (rowIs st mk) rvals is) (hlen : rvals.length ≤ 100) (hex : ∃ x ∈ is, sameAs bs bm bm x = true)
    (h : ∀ h' tk t, Fr h₀ L h' m → News h₀ L h' ((st, baObj bs) :: (mk, baObj bm) :: (q, listOf (List.toArray rvals) nq) :: news) → Q (.int ((is.findIdx (sameAs bs bm bm) : Nat) : Int) t) { s with heap := h', toks := tk }) :
    wpAny (model pg w) (callerA.deeper env) (call (.ref 98) [.ref q, .ref mk] []) Q E s := by
  refine wpAny_call ?_
  refine' code_def (K := Mine.hd.heap_39 w.params) (binds := [(Str.ofString "a", .ref q), (Str.ofString "b", .ref mk)]) B' F' X' N' T' rfl hf hke ?ho ?hcd ?hroom ?hbind ?hloc ?_ ?co ?gen ?k ?cell
  case ho => k_is
  case hcd => k_is
  case hroom => k_room
  case hbind => exact BindsTo.of_eq rfl
  case hloc => exact locs rfl
  case co => exact rfl
  case gen => exact rfl
  case k => exact rfl
  case cell => decide
  intro g L1 h1 FG F1 N1 B1 X1 T1
  (repeat ((fail_if_success (with_reducible show wpAny _ _ (exec (Stmt.For _ _ _ _ _) _) _ _ _)); first | walk1 | (dsimp only; walk1)))
  refine wpAny_For ?_
  (repeat ((fail_if_success (with_reducible show wpAny _ _ (call (Value.type "enumerate") _ _) _ _ _)); first | walk1 | (dsimp only; walk1)))
  rename Fr g _ _ _ => FW
  rename News g _ _ _ => NW
  have hsz : ∀ z ∈ (st, baObj bs) :: (mk, baObj bm) :: (q, listOf (List.toArray rvals) nq) :: news, z.1 < h1.objs.size := fun z hz => Heap.lt_size (NW z hz).1
  refine call_enumerate_list (News.isList NW (by k_mem)) ?_
  dsimp only
  intro h2 he hit hz hk2
  (repeat ((fail_if_success (with_reducible show wpAny _ _ (pyIter _) _ _ _)); first | walk1 | (dsimp only; walk1)))
  refine wpAny_pyIter_enum he ?_
  obtain ⟨oit, hoi, hci, hdi⟩ := hit
  have F2 := FW.keptAll hk2
  have nw : ∀ b, h1.objs.size ≤ b → b ≠ L1 ∧ g.get? b = none := fun b hb => by
    refine ⟨fun z => ?_, ?_⟩
    · have := FW.ns.lt; rw [← z] at this; exact absurd this (Nat.not_lt.mpr hb)
    · cases z : g.get? b with
      | none => rfl
      | some o => exact absurd (Heap.lt_size (FW.keep _ _ z)) (Nat.not_lt.mpr hb)
  have N2 : News g L1 h2 ((h1.objs.size + 1, enumO h1.objs.size 0 .none) :: (h1.objs.size, oit) :: (st, baObj bs) :: (mk, baObj bm) :: (q, listOf (List.toArray rvals) nq) :: news) := fun z hz => by
    rcases List.mem_cons.mp hz with rfl | hz
    · exact ⟨he, nw _ (Nat.le_succ _)⟩
    · rcases List.mem_cons.mp hz with rfl | hz
      · exact ⟨hoi, nw _ (Nat.le_refl _)⟩
      · exact NW.grown hk2 z hz
  refine for_enum (IxInv (sameAs bs bm bm) is (.ref q) (.ref mk)) rfl F2 N2 hci hdi (by k_mem) (Nat.succ_ne_self _) (fun z hz => Nat.ne_of_lt (Nat.lt_succ_of_lt (hsz z hz))) (fun z hz => Nat.ne_of_lt (hsz z hz)) ?h0 ?turn ?done
  case h0 => exact ⟨by walk_at "m.look", by walk_at "m.look", by simp⟩
  case done =>
    rintro m' ⟨e1, e2, e3⟩
    exact ix_none e3 (by rw [← hP.1]; simp) hex
  case turn =>
    rintro i v ti m₁ oe oit₁ h₁ tk₁ hv ⟨e1, e2, e3⟩ F3 N3
    obtain ⟨k, hk, hpk⟩ := hP.at (by simpa using hv)
    cases k with
    | mark =>
      obtain rfl := hpk
      (repeat ((fail_if_success (with_reducible show wpAny _ _ (compareOp CmpOp.Is _ _) _ _ _)); first | walk1 | (dsimp only; walk1)))
      refine wpAny_is_ref_self ?_
      (repeat (first | walk1 | (dsimp only; walk1)))
      have hx : sameAs bs bm bm .mark = true := by simp [sameAs, cont]
      dsimp only
      refine EnStep.ret_ ?_
      (repeat (first | walk1 | (dsimp only; walk1)))
      rename News h₀ _ _ _ => kN
      rename Fr h₀ _ _ _ => kF
      rw [ix_find e3 hk hx] at h
      exact h _ _ _ kF (fun p hp => kN p (.tail _ (.tail _ hp)))
    | star =>
      obtain rfl := hpk
      by_cases hmk : st = mk
      · subst hmk
        have hbb : bm = bs := by
          have x1 := (N3 _ (.tail _ (.tail _ (.head _)))).1
          have x2 := (N3 _ (.tail _ (.tail _ (.tail _ (.head _))))).1
          dsimp only at x1 x2
          rw [x1] at x2
          injection x2 with x2
          injection x2 with _ _ x2 _
          injection x2 with x2 _
          exact x2.symm
        (repeat ((fail_if_success (with_reducible show wpAny _ _ (compareOp CmpOp.Is _ _) _ _ _)); first | walk1 | (dsimp only; walk1)))
        refine wpAny_is_ref_self ?_
        (repeat (first | walk1 | (dsimp only; walk1)))
        have hx : sameAs bs bm bm .star = true := by simp [sameAs, cont, hbb]
        dsimp only
        refine EnStep.ret_ ?_
        (repeat (first | walk1 | (dsimp only; walk1)))
        rename News h₀ _ _ _ => kN
        rename Fr h₀ _ _ _ => kF
        rw [ix_find e3 hk hx] at h
        exact h _ _ _ kF (fun p hp => kN p (.tail _ (.tail _ hp)))
      · (repeat ((fail_if_success (with_reducible show wpAny _ _ (compareOp CmpOp.Is _ _) _ _ _)); first | walk1 | (dsimp only; walk1)))
        refine wpAny_is_ref_other hmk (News.get (by k_asm) (by k_mem)) (News.get (by k_asm) (by k_mem)) (show (Value.type "bytearray") ≠ .type "tuple" by decide) ?_
        (repeat ((fail_if_success (with_reducible show wpAny _ _ (compareOp CmpOp.Eq _ _) _ _ _)); first | walk1 | (dsimp only; walk1)))
        refine eq_ba_baF (c := bs) (b := bm) (by k_asm) (by k_asm) (by k_mem) (by k_mem) (Nat.le_of_ble_eq_true rfl) ?_
        intro h3 tk3 F4 N4
        have hs : sameAs bs bm bm .star = (bs.toList == bm.toList) := rfl
        rw [← hs]
        (repeat (first | walk1 | (dsimp only; walk1)))
        · rename sameAs bs bm bm .star = true => hx
          dsimp only
          refine EnStep.ret_ ?_
          (repeat (first | walk1 | (dsimp only; walk1)))
          rename News h₀ _ _ _ => kN
          rename Fr h₀ _ _ _ => kF
          rw [ix_find e3 hk hx] at h
          exact h _ _ _ kF (fun p hp => kN p (.tail _ (.tail _ hp)))
        · (repeat (first | walk1 | (dsimp only; walk1)))
          rename sameAs bs bm bm .star = false => hx
          exact EnStep.nxt (by assumption) (by assumption) (IxInv.nxt (by walk_at "m.look") (by walk_at "m.look") e3 hk hx)
    | a =>
      obtain ⟨tv, rfl⟩ := hpk
      (repeat ((fail_if_success (with_reducible show wpAny _ _ (compareOp CmpOp.Is _ _) _ _ _)); first | walk1 | (dsimp only; walk1)))
      refine wpAny_is_other rfl (by intro x; cases x) ?_
      (repeat ((fail_if_success (with_reducible show wpAny _ _ (compareOp CmpOp.Eq _ _) _ _ _)); first | walk1 | (dsimp only; walk1)))
      refine eq_bytes_baF (b := bm) (by k_asm) (by k_asm) (by k_mem) (Nat.le_of_ble_eq_true rfl) ?_
      intro h3 tk3 F4 N4
      have hs : sameAs bs bm bm .a = (bm.toList == (cont bs bm .a).toList) := by
        show ((cont bs bm .a).toList == bm.toList) = _
        rw [Bool.beq_comm]
      simp only [cont] at hs
      rw [← hs]
      (repeat (first | walk1 | (dsimp only; walk1)))
      · rename sameAs bs bm bm .a = true => hx
        dsimp only
        refine EnStep.ret_ ?_
        (repeat (first | walk1 | (dsimp only; walk1)))
        rename News h₀ _ _ _ => kN
        rename Fr h₀ _ _ _ => kF
        rw [ix_find e3 hk hx] at h
        exact h _ _ _ kF (fun p hp => kN p (.tail _ (.tail _ hp)))
      · (repeat (first | walk1 | (dsimp only; walk1)))
        rename sameAs bs bm bm .a = false => hx
        exact EnStep.nxt (by assumption) (by assumption) (IxInv.nxt (by walk_at "m.look") (by walk_at "m.look") e3 hk hx)
    | dot =>
      obtain ⟨tv, rfl⟩ := hpk
      (repeat ((fail_if_success (with_reducible show wpAny _ _ (compareOp CmpOp.Is _ _) _ _ _)); first | walk1 | (dsimp only; walk1)))
      refine wpAny_is_other rfl (by intro x; cases x) ?_
      (repeat ((fail_if_success (with_reducible show wpAny _ _ (compareOp CmpOp.Eq _ _) _ _ _)); first | walk1 | (dsimp only; walk1)))
      refine eq_bytes_baF (b := bm) (by k_asm) (by k_asm) (by k_mem) (Nat.le_of_ble_eq_true rfl) ?_
      intro h3 tk3 F4 N4
      have hs : sameAs bs bm bm .dot = (bm.toList == (cont bs bm .dot).toList) := by
        show ((cont bs bm .dot).toList == bm.toList) = _
        rw [Bool.beq_comm]
      simp only [cont] at hs
      rw [← hs]
      (repeat (first | walk1 | (dsimp only; walk1)))
      · rename sameAs bs bm bm .dot = true => hx
        dsimp only
        refine EnStep.ret_ ?_
        (repeat (first | walk1 | (dsimp only; walk1)))
        rename News h₀ _ _ _ => kN
        rename Fr h₀ _ _ _ => kF
        rw [ix_find e3 hk hx] at h
        exact h _ _ _ kF (fun p hp => kN p (.tail _ (.tail _ hp)))
      · (repeat (first | walk1 | (dsimp only; walk1)))
        rename sameAs bs bm bm .dot = false => hx
        exact EnStep.nxt (by assumption) (by assumption) (IxInv.nxt (by walk_at "m.look") (by walk_at "m.look") e3 hk hx)
    | ba =>
      obtain ⟨tv, rfl⟩ := hpk
      (repeat ((fail_if_success (with_reducible show wpAny _ _ (compareOp CmpOp.Is _ _) _ _ _)); first | walk1 | (dsimp only; walk1)))
      refine wpAny_is_other rfl (by intro x; cases x) ?_
      (repeat ((fail_if_success (with_reducible show wpAny _ _ (compareOp CmpOp.Eq _ _) _ _ _)); first | walk1 | (dsimp only; walk1)))
      refine eq_bytes_baF (b := bm) (by k_asm) (by k_asm) (by k_mem) (Nat.le_of_ble_eq_true rfl) ?_
      intro h3 tk3 F4 N4
      have hs : sameAs bs bm bm .ba = (bm.toList == (cont bs bm .ba).toList) := by
        show ((cont bs bm .ba).toList == bm.toList) = _
        rw [Bool.beq_comm]
      simp only [cont] at hs
      rw [← hs]
      (repeat (first | walk1 | (dsimp only; walk1)))
      · rename sameAs bs bm bm .ba = true => hx
        dsimp only
        refine EnStep.ret_ ?_
        (repeat (first | walk1 | (dsimp only; walk1)))
        rename News h₀ _ _ _ => kN
        rename Fr h₀ _ _ _ => kF
        rw [ix_find e3 hk hx] at h
        exact h _ _ _ kF (fun p hp => kN p (.tail _ (.tail _ hp)))
      · (repeat (first | walk1 | (dsimp only; walk1)))
        rename sameAs bs bm bm .ba = false => hx
        exact EnStep.nxt (by assumption) (by assumption) (IxInv.nxt (by walk_at "m.look") (by walk_at "m.look") e3 hk hx)
    | na =>
      obtain ⟨tv, rfl⟩ := hpk
      (repeat ((fail_if_success (with_reducible show wpAny _ _ (compareOp CmpOp.Is _ _) _ _ _)); first | walk1 | (dsimp only; walk1)))
      refine wpAny_is_other rfl (by intro x; cases x) ?_
      (repeat ((fail_if_success (with_reducible show wpAny _ _ (compareOp CmpOp.Eq _ _) _ _ _)); first | walk1 | (dsimp only; walk1)))
      refine eq_bytes_baF (b := bm) (by k_asm) (by k_asm) (by k_mem) (Nat.le_of_ble_eq_true rfl) ?_
      intro h3 tk3 F4 N4
      have hs : sameAs bs bm bm .na = (bm.toList == (cont bs bm .na).toList) := by
        show ((cont bs bm .na).toList == bm.toList) = _
        rw [Bool.beq_comm]
      simp only [cont] at hs
      rw [← hs]
      (repeat (first | walk1 | (dsimp only; walk1)))
      · rename sameAs bs bm bm .na = true => hx
        dsimp only
        refine EnStep.ret_ ?_
        (repeat (first | walk1 | (dsimp only; walk1)))
        rename News h₀ _ _ _ => kN
        rename Fr h₀ _ _ _ => kF
        rw [ix_find e3 hk hx] at h
        exact h _ _ _ kF (fun p hp => kN p (.tail _ (.tail _ hp)))
      · (repeat (first | walk1 | (dsimp only; walk1)))
        rename sameAs bs bm bm .na = false => hx
        exact EnStep.nxt (by assumption) (by assumption) (IxInv.nxt (by walk_at "m.look") (by walk_at "m.look") e3 hk hx)
    | e =>
      obtain ⟨tv, rfl⟩ := hpk
      (repeat ((fail_if_success (with_reducible show wpAny _ _ (compareOp CmpOp.Is _ _) _ _ _)); first | walk1 | (dsimp only; walk1)))
      refine wpAny_is_other rfl (by intro x; cases x) ?_
      (repeat ((fail_if_success (with_reducible show wpAny _ _ (compareOp CmpOp.Eq _ _) _ _ _)); first | walk1 | (dsimp only; walk1)))
      refine eq_bytes_baF (b := bm) (by k_asm) (by k_asm) (by k_mem) (Nat.le_of_ble_eq_true rfl) ?_
      intro h3 tk3 F4 N4
      have hs : sameAs bs bm bm .e = (bm.toList == (cont bs bm .e).toList) := by
        show ((cont bs bm .e).toList == bm.toList) = _
        rw [Bool.beq_comm]
      simp only [cont] at hs
      rw [← hs]
      (repeat (first | walk1 | (dsimp only; walk1)))
      · rename sameAs bs bm bm .e = true => hx
        dsimp only
        refine EnStep.ret_ ?_
        (repeat (first | walk1 | (dsimp only; walk1)))
        rename News h₀ _ _ _ => kN
        rename Fr h₀ _ _ _ => kF
        rw [ix_find e3 hk hx] at h
        exact h _ _ _ kF (fun p hp => kN p (.tail _ (.tail _ hp)))
      · (repeat (first | walk1 | (dsimp only; walk1)))
        rename sameAs bs bm bm .e = false => hx
        exact EnStep.nxt (by assumption) (by assumption) (IxInv.nxt (by walk_at "m.look") (by walk_at "m.look") e3 hk hx)
end
section
variable {w : World} {base h₀ : Heap} {env : Env} {L : Addr} {m mg mb : Str → Option Value} {news : List (Addr × Obj)} {p : Program} {loose : List Str} {mean : ExcName → Option Value} {s : Shared} {E : Value → Shared → Prop} {Q : Value → Shared → Prop}
noncomputable abbrev tup2 (a b : Value) : Obj := { cls := .type "tuple", data := .seq #[a, b] }
theorem lt_ok {bs bm : Array UInt8} {n : Int} {tn t1 t2 : Tok} {one : Bool}
    (B' : Below callerA base [] h₀) (F' : Fr h₀ L s.heap m) (X' : (Mine.hd.heap_39 w.params).In h₀) (T' : Top p loose mean mg mb h₀)
    (N' : News h₀ L s.heap news)
    (hf : env.frame = some L) (hke : env.scope.kind = .function) (h1 : bs.size ≤ 1000) (h2 : bm.size ≤ 1000) (hn : 0 ≤ n ∧ n < 5) 
    (h : ∀ h' tk p t1' t2', Fr h₀ L h' m → News h₀ L h' ((p, tup2 (.bytes (told n one bs bm).1 t1') (.bytes (told n one bs bm).2 t2')) :: news) → Q (.ref p) { s with heap := h', toks := tk }) :
    wpAny (model pg w) (callerA.deeper env) (call (.ref 140) [.int n tn, .bytes bs t1, .bytes bm t2, .bool one] []) Q E s := by
  refine wpAny_call ?_
  refine' code_def (K := Mine.hd.heap_39 w.params) (binds := [(Str.ofString "kind", .int n tn), (Str.ofString "star", .bytes bs t1), (Str.ofString "mark", .bytes bm t2), (Str.ofString "one", .bool one)]) B' F' X' N' T' rfl hf hke ?ho ?hcd ?hroom ?hbind ?hloc ?_ ?co ?gen ?k ?cell
  case ho => k_is
  case hcd => k_is
  case hroom => k_room
  case hbind => exact BindsTo.of_eq rfl
  case hloc => exact locs rfl
  case co => exact rfl
  case gen => exact rfl
  case k => exact rfl
  case cell => decide
  intro g L1 h1 FG F1 N1 B1 X1 T1
  have hn5 : n = 0 ∨ n = 1 ∨ n = 2 ∨ n = 3 ∨ n = 4 := by omega
  have h3 := take2_le bm
  rcases hn5 with rfl | rfl | rfl | rfl | rfl <;> cases one
  all_goals simp [told, toldS, toldM] at h
  all_goals (repeat (first | walk1 | (dsimp only; walk1)))
  all_goals exact h _ _ _ _ _ (by assumption) (by assumption)
end
section
variable {w : World} {base h₀ : Heap} {env env1 : Env} {L : Addr} {m mg mb : Str → Option Value} {news : List (Addr × Obj)} {p : Program} {loose : List Str} {mean : ExcName → Option Value} {s : Shared} {E : Value → Shared → Prop} {Q : Value → Shared → Prop}
theorem gi_ok {b : Array UInt8} {a sl : Addr} {t u : Tok}
    (B' : Below (callerA.deeper env1) base [env1] h₀) (F' : Fr h₀ L s.heap m) (X' : (Mine.hd.heap_39 w.params).In h₀) (T' : Top p loose mean mg mb h₀)
    (N' : News h₀ L s.heap news) (ha : (a, baObj b) ∈ news) (hs : (sl, slObj (.int 0 t) (.int 2 u) .none) ∈ news) (hf : env.frame = some L) (hke : env.scope.kind = .function)
    (h : ∀ c h' tk, Fr h₀ L h' m → News h₀ L h' ((c, baObj (take2 b)) :: news) → (∀ q ∈ news, q.1 < c) → Q (.ref c) { s with heap := h', toks := tk }) :
    wpAny (model pg w) ((callerA.deeper env1).deeper env) (call (.ref 91) [.ref a, .ref sl] []) Q E s := by
  refine wpAny_call ?_
  refine' code_def (K := Mine.hd.heap_39 w.params) (binds := [(Str.ofString "a", .ref a), (Str.ofString "b", .ref sl)]) B' F' X' N' T' rfl hf hke ?ho ?hcd ?hroom ?hbind ?hloc ?_ ?co ?gen ?k ?cell
  case ho => k_is
  case hcd => k_is
  case hroom => k_room
  case hbind => exact BindsTo.of_eq rfl
  case hloc => exact locs rfl
  case co => exact rfl
  case gen => exact rfl
  case k => exact rfl
  case cell => decide
  intro g L1 h1 FG F1 N1 B1 X1 T1
  (repeat ((fail_if_success (with_reducible show wpAny _ _ (subscriptTail _ _ _ _) _ _ _)); first | walk1 | (dsimp only; walk1)))
  refine subscriptTail_builtin (T := "bytearray") ⟨_, ((by assumption : News g L1 _ news) _ ha).1, rfl⟩ slot_ba_get.lookup ?_
  refine get_ba2 (by assumption) (by assumption : News g L1 _ news) ha hs fun c h2 tk2 F2 N2 hlt => ?_
  (repeat (first | walk1 | (dsimp only; walk1)))
  exact h c _ _ (by assumption) (by assumption) hlt
end
section
variable {w : World} {base h₀ : Heap} {env env1 : Env} {outer : List Env} {L : Addr} {m mg mb : Str → Option Value} {news : List (Addr × Obj)} {p : Program} {loose : List Str} {mean : ExcName → Option Value} {s : Shared} {Q : Value → Shared → Prop}
theorem ic_b {x b : Array UInt8} {t : Tok} {a : Addr}
    (B' : Below (callerA.deeper env1) base [env1] h₀) (F' : Fr h₀ L s.heap m) (X' : (Mine.hd.heap_39 w.params).In h₀) (T' : Top p loose mean mg mb h₀)
    (N' : News h₀ L s.heap ((a, baObj b) :: news)) (hne : ∀ q ∈ news, q.1 ≠ a) (hf : env.frame = some L) (hke : env.scope.kind = .function) (hsz : b.size + x.size ≤ 16777216)
    (h : ∀ h' tk, Fr h₀ L h' m → News h₀ L h' ((a, baObj (b ++ x)) :: news) → Q (.ref a) { s with heap := h', toks := tk }) :
    wpC (model pg w) ((callerA.deeper env1).deeper env) (call (.ref 112) [.ref a, .bytes x t] []) Q NoE s := by
  refine C_call ?_
  refine' C_def (K := Mine.hd.heap_39 w.params) (binds := [(Str.ofString "a", .ref a), (Str.ofString "b", .bytes x t)]) B' F' X' N' T' rfl hf hke ?ho ?hcd ?hroom ?hbind ?hloc ?_ ?co ?gen ?k ?cell
  case ho => k_is
  case hcd => k_is
  case hroom => k_room
  case hbind => exact BindsTo.of_eq rfl
  case hloc => exact locs rfl
  case co => exact rfl
  case gen => exact rfl
  case k => exact rfl
  case cell => decide
  intro g L1 h1 FG F1 N1 B1 X1 T1
  refine C_execs_consA ?_
  (repeat (first | walk1 | (dsimp only; walk1)))
  refine C_execs_cons (C_AugAssign_Name ?_)
  (repeat (first | walk1 | (dsimp only; walk1)))
  refine C_iadd (b := b) (x := x) ((by assumption : News g L1 _ ((a, baObj b) :: news)) _ (.head _)).1 hsz (fun c e => nomatch e) (fun h => tryN_ba_b ((by assumption : News g L1 _ ((a, baObj b) :: news)) _ (.head _)).1 h) (fun k h => take_b h) ?_
  refine Wrote.after (by assumption) (by assumption : News g L1 _ ((a, baObj b) :: news)) hne fun h2 tk2 F2 N2 => ?_
  (repeat (first | walk1 | (dsimp only; walk1)))
  refine C_any ?_
  (repeat (first | walk1 | (dsimp only; walk1)))
  exact h _ _ (by assumption) (by assumption)
theorem ic_ba {x b : Array UInt8} {a c : Addr}
    (B' : Below (callerA.deeper env1) base [env1] h₀) (F' : Fr h₀ L s.heap m) (X' : (Mine.hd.heap_39 w.params).In h₀) (T' : Top p loose mean mg mb h₀)
    (N' : News h₀ L s.heap ((a, baObj b) :: (c, baObj x) :: news)) (hne : ∀ q ∈ news, q.1 ≠ a) (hca : c ≠ a) (hf : env.frame = some L) (hke : env.scope.kind = .function) (hsz : b.size + x.size ≤ 16777216)
    (h : ∀ h' tk, Fr h₀ L h' m → News h₀ L h' ((a, baObj (b ++ x)) :: (c, baObj x) :: news) → Q (.ref a) { s with heap := h', toks := tk }) :
    wpC (model pg w) ((callerA.deeper env1).deeper env) (call (.ref 112) [.ref a, .ref c] []) Q NoE s := by
  refine C_call ?_
  refine' C_def (K := Mine.hd.heap_39 w.params) (binds := [(Str.ofString "a", .ref a), (Str.ofString "b", .ref c)]) B' F' X' N' T' rfl hf hke ?ho ?hcd ?hroom ?hbind ?hloc ?_ ?co ?gen ?k ?cell
  case ho => k_is
  case hcd => k_is
  case hroom => k_room
  case hbind => exact BindsTo.of_eq rfl
  case hloc => exact locs rfl
  case co => exact rfl
  case gen => exact rfl
  case k => exact rfl
  case cell => decide
  intro g L1 h1 FG F1 N1 B1 X1 T1
  refine C_execs_consA ?_
  (repeat (first | walk1 | (dsimp only; walk1)))
  refine C_execs_cons (C_AugAssign_Name ?_)
  (repeat (first | walk1 | (dsimp only; walk1)))
  refine C_iadd (b := b) (x := x) ((by assumption : News g L1 _ ((a, baObj b) :: (c, baObj x) :: news)) _ (.head _)).1 hsz (fun d e => by injection e with e; exact e ▸ hca) (fun h => tryN_ba_ba ((by assumption : News g L1 _ ((a, baObj b) :: (c, baObj x) :: news)) _ (.head _)).1 ((by assumption : News g L1 _ ((a, baObj b) :: (c, baObj x) :: news)) _ (.tail _ (.head _))).1 h) (fun k h => take_ba (Keeps.get k ((by assumption : News g L1 _ ((a, baObj b) :: (c, baObj x) :: news)) _ (.tail _ (.head _))).1) h) ?_
  refine Wrote.after (by assumption) (by assumption : News g L1 _ ((a, baObj b) :: (c, baObj x) :: news)) (fun q hq => (List.mem_cons.mp hq).elim (fun e => e ▸ hca) (hne q)) fun h2 tk2 F2 N2 => ?_
  (repeat (first | walk1 | (dsimp only; walk1)))
  refine C_any ?_
  (repeat (first | walk1 | (dsimp only; walk1)))
  exact h _ _ (by assumption) (by assumption)
theorem dl_ok {b : Array UInt8} {a sl : Addr} {t u : Tok}
    (B' : Below (callerA.deeper env1) base [env1] h₀) (F' : Fr h₀ L s.heap m) (X' : (Mine.hd.heap_39 w.params).In h₀) (T' : Top p loose mean mg mb h₀)
    (N' : News h₀ L s.heap ((a, baObj b) :: (sl, slObj (.int 0 t) (.int 1 u) .none) :: news)) (hne : ∀ q ∈ news, q.1 ≠ a) (hca : sl ≠ a) (hsz : b.size ≤ 16777216) (hf : env.frame = some L) (hke : env.scope.kind = .function)
    (h : ∀ h' tk, Fr h₀ L h' m → News h₀ L h' ((a, baObj (drop1 b)) :: (sl, slObj (.int 0 t) (.int 1 u) .none) :: news) → Q .none { s with heap := h', toks := tk }) :
    wpC (model pg w) ((callerA.deeper env1).deeper env) (call (.ref 84) [.ref a, .ref sl] []) Q NoE s := by
  refine C_call ?_
  refine' C_def (K := Mine.hd.heap_39 w.params) (binds := [(Str.ofString "a", .ref a), (Str.ofString "b", .ref sl)]) B' F' X' N' T' rfl hf hke ?ho ?hcd ?hroom ?hbind ?hloc ?_ ?co ?gen ?k ?cell
  case ho => k_is
  case hcd => k_is
  case hroom => k_room
  case hbind => exact BindsTo.of_eq rfl
  case hloc => exact locs rfl
  case co => exact rfl
  case gen => exact rfl
  case k => exact rfl
  case cell => decide
  intro g L1 h1 FG F1 N1 B1 X1 T1
  refine C_execs_cons (C_Delete_Subscript ?_)
  (repeat (first | walk1 | (dsimp only; walk1)))
  refine C_delitem (b := b) ((by assumption : News g L1 _ ((a, baObj b) :: (sl, slObj (.int 0 t) (.int 1 u) .none) :: news)) _ (.head _)).1 ((by assumption : News g L1 _ ((a, baObj b) :: (sl, slObj (.int 0 t) (.int 1 u) .none) :: news)) _ (.tail _ (.head _))).1 hsz ?_
  refine Wrote.after (by assumption) (by assumption : News g L1 _ ((a, baObj b) :: (sl, slObj (.int 0 t) (.int 1 u) .none) :: news)) (fun q hq => (List.mem_cons.mp hq).elim (fun e => e ▸ hca) (hne q)) fun h2 tk2 F2 N2 => ?_
  refine C_any ?_
  (repeat (first | walk1 | (dsimp only; walk1)))
  exact h _ _ (by assumption) (by assumption)
theorem si_ok {b x : Array UInt8} {a sl : Addr} {t u tx : Tok}
    (B' : Below (callerA.deeper env1) base [env1] h₀) (F' : Fr h₀ L s.heap m) (X' : (Mine.hd.heap_39 w.params).In h₀) (T' : Top p loose mean mg mb h₀)
    (N' : News h₀ L s.heap ((a, baObj b) :: (sl, slObj (.int 0 t) (.int 0 u) .none) :: news)) (hne : ∀ q ∈ news, q.1 ≠ a) (hca : sl ≠ a) (hsz : b.size + x.size ≤ 16777216) (hf : env.frame = some L) (hke : env.scope.kind = .function)
    (h : ∀ h' tk, Fr h₀ L h' m → News h₀ L h' ((a, baObj (x ++ b)) :: (sl, slObj (.int 0 t) (.int 0 u) .none) :: news) → Q .none { s with heap := h', toks := tk }) :
    wpC (model pg w) ((callerA.deeper env1).deeper env) (call (.ref 105) [.ref a, .ref sl, .bytes x tx] []) Q NoE s := by
  refine C_call ?_
  refine' C_def (K := Mine.hd.heap_39 w.params) (binds := [(Str.ofString "a", .ref a), (Str.ofString "b", .ref sl), (Str.ofString "c", .bytes x tx)]) B' F' X' N' T' rfl hf hke ?ho ?hcd ?hroom ?hbind ?hloc ?_ ?co ?gen ?k ?cell
  case ho => k_is
  case hcd => k_is
  case hroom => k_room
  case hbind => exact BindsTo.of_eq rfl
  case hloc => exact locs rfl
  case co => exact rfl
  case gen => exact rfl
  case k => exact rfl
  case cell => decide
  intro g L1 h1 FG F1 N1 B1 X1 T1
  refine C_execs_cons (C_Assign_Subscript ?_)
  (repeat (first | walk1 | (dsimp only; walk1)))
  refine C_mono (E := NoE) (C_setitem (b := b) ((by assumption : News g L1 _ ((a, baObj b) :: (sl, slObj (.int 0 t) (.int 0 u) .none) :: news)) _ (.head _)).1 ((by assumption : News g L1 _ ((a, baObj b) :: (sl, slObj (.int 0 t) (.int 0 u) .none) :: news)) _ (.tail _ (.head _))).1 hsz ?_) (fun _ _ x => x) fun _ _ x => x.elim
  refine Wrote.after (by assumption) (by assumption : News g L1 _ ((a, baObj b) :: (sl, slObj (.int 0 t) (.int 0 u) .none) :: news)) (fun q hq => (List.mem_cons.mp hq).elim (fun e => e ▸ hca) (hne q)) fun h2 tk2 F2 N2 => ?_
  refine C_any ?_
  (repeat (first | walk1 | (dsimp only; walk1)))
  exact h _ _ (by assumption) (by assumption)
end
section
variable {w : World} {base h₀ : Heap} {env : Env} {L : Addr} {m mg mb : Str → Option Value} {news : List (Addr × Obj)} {p : Program} {loose : List Str} {mean : ExcName → Option Value} {s : Shared} {Q : Value → Shared → Prop}
theorem ld_two {bs bm : Array UInt8} {n : Int} {tn : Tok} {st mk : Addr}
    (B' : Below callerA base [] h₀) (F' : Fr h₀ L s.heap m) (X' : (Mine.hd.heap_39 w.params).In h₀) (T' : Top p loose mean mg mb h₀)
    (N' : News h₀ L s.heap ((st, baObj bs) :: (mk, baObj bm) :: news)) (hsm : st ≠ mk) (h2 : ∀ q ∈ news, q.1 ≠ st) (h3 : ∀ q ∈ news, q.1 ≠ mk) (hf : env.frame = some L) (hke : env.scope.kind = .function)
    (hs1 : bs.size ≤ 1000) (hs2 : bm.size ≤ 1000) (hn : 0 ≤ n ∧ n < 5)
    (h : ∀ h' tk, Fr h₀ L h' m → News h₀ L h' ((st, baObj (told n false bs bm).1) :: (mk, baObj (told n false bs bm).2) :: news) → Q .none { s with heap := h', toks := tk }) :
    wpC (model pg w) (callerA.deeper env) (call (.ref 133) [.int n tn, .ref st, .ref mk] []) Q NoE s := by
  refine C_call ?_
  refine' C_def (K := Mine.hd.heap_39 w.params) (binds := [(Str.ofString "kind", .int n tn), (Str.ofString "star", .ref st), (Str.ofString "mark", .ref mk)]) B' F' X' N' T' rfl hf hke ?ho ?hcd ?hroom ?hbind ?hloc ?_ ?co ?gen ?k ?cell
  case ho => k_is
  case hcd => k_is
  case hroom => k_room
  case hbind => exact BindsTo.of_eq rfl
  case hloc => exact locs rfl
  case co => exact rfl
  case gen => exact rfl
  case k => exact rfl
  case cell => decide
  intro g L1 h1 FG F1 N1 B1 X1 T1
  refine C_post fun Q' hQ => ?_
  have hn5 : n = 0 ∨ n = 1 ∨ n = 2 ∨ n = 3 ∨ n = 4 := by omega
  have h5 := take2_le bm
  rcases hn5 with rfl | rfl | rfl | rfl | rfl
  all_goals simp [told, toldS, toldM] at h
  · refine C_execs_cons (C_If ?_)
    (repeat (first | walk1 | (dsimp only; walk1)))
    refine C_execs_cons (C_Expr (C_Call_Name (a := 112) ?_))
    (repeat (first | walk1 | (dsimp only; walk1)))
    refine ⟨rfl, ?_⟩
    (repeat (first | walk1 | (dsimp only; walk1)))
    refine ⟨⟨_, _, X1.keeps (Fr.keep (by assumption : Fr g L1 _ _)) _ _ (by k_is), rfl⟩, ?_⟩
    refine ic_b (b := bs) B1 (by assumption) X1 T1 (News.put N1 (.head _) (News.put N1 (.tail _ (.head _)) (News.tl (News.tl N1)))) (fun q hq => (List.mem_cons.mp hq).elim (fun e => e ▸ Ne.symm hsm) (h2 q)) rfl rfl (by simp; omega) fun h3 tk3 F3 N3 => ?_
    (try dsimp only)
    (repeat (first | walk1 | (dsimp only; walk1)))
    repeat (refine C_any ?_; (repeat (first | walk1 | (dsimp only; walk1))))
    refine hQ _ _ ?_
    (repeat (first | walk1 | (dsimp only; walk1)))
    have NN := (by assumption : News h₀ L _ ((st, baObj (bs ++ #[97])) :: (mk, baObj bm) :: news))
    exact h _ _ (by assumption) (News.put NN (.head _) (News.put NN (.tail _ (.head _)) (News.tl (News.tl NN))))
  · refine C_execs_cons (C_If ?_)
    (repeat (first | walk1 | (dsimp only; walk1)))
    refine C_execs_cons (C_If ?_)
    (repeat (first | walk1 | (dsimp only; walk1)))
    refine C_execs_cons (C_Expr (C_Call_Name (a := 112) ?_))
    (repeat (first | walk1 | (dsimp only; walk1)))
    refine ⟨rfl, ?_⟩
    (repeat (first | walk1 | (dsimp only; walk1)))
    refine ⟨⟨_, _, X1.keeps (Fr.keep (by assumption : Fr g L1 _ _)) _ _ (by k_is), rfl⟩, ?_⟩
    refine ic_b (b := bm) B1 (by assumption) X1 T1 (News.put N1 (.tail _ (.head _)) (News.put N1 (.head _) (News.tl (News.tl N1)))) (fun q hq => (List.mem_cons.mp hq).elim (fun e => e ▸ hsm) (h3 q)) rfl rfl (by simp; omega) fun h3 tk3 F3 N3 => ?_
    (try dsimp only)
    (repeat (first | walk1 | (dsimp only; walk1)))
    repeat (refine C_any ?_; (repeat (first | walk1 | (dsimp only; walk1))))
    refine hQ _ _ ?_
    (repeat (first | walk1 | (dsimp only; walk1)))
    have NN := (by assumption : News h₀ L _ ((mk, baObj (bm ++ #[92, 46])) :: (st, baObj bs) :: news))
    exact h _ _ (by assumption) (News.put NN (.tail _ (.head _)) (News.put NN (.head _) (News.tl (News.tl NN))))
  · refine C_execs_cons (C_If ?_)
    (repeat (first | walk1 | (dsimp only; walk1)))
    refine C_execs_cons (C_If ?_)
    (repeat (first | walk1 | (dsimp only; walk1)))
    refine C_execs_cons (C_If ?_)
    (repeat (first | walk1 | (dsimp only; walk1)))
    refine C_execs_cons (C_Expr (C_Call_Name (a := 112) ?_))
    (repeat (first | walk1 | (dsimp only; walk1)))
    refine ⟨rfl, ?_⟩
    (repeat ((fail_if_success (with_reducible show wpAny _ _ (call _ _ _) _ _ _)); first | walk1 | (dsimp only; walk1)))
    refine call_slice rfl (by assumption) N1 fun sl h6 tk6 F6 N6 hl6 => ?_
    have e1 : sl ≠ st := Nat.ne_of_gt (hl6 (st, baObj bs) (by simp))
    (repeat ((fail_if_success (with_reducible show wpAny _ _ (call _ _ _) _ _ _)); first | walk1 | (dsimp only; walk1)))
    refine gi_ok (b := bm) (a := mk) B1 (by assumption) X1 T1 N6 (by simp) (.head _) rfl rfl fun c h7 tk7 F7 N7 hl7 => ?_
    have e2 : c ≠ st := Nat.ne_of_gt (hl7 (st, baObj bs) (by simp))
    (repeat (first | walk1 | (dsimp only; walk1)))
    refine ⟨⟨_, _, X1.keeps (Fr.keep (by assumption : Fr g L1 _ _)) _ _ (by k_is), rfl⟩, ?_⟩
    refine ic_ba (b := bs) (x := take2 bm) B1 (by assumption) X1 T1 (News.put N7 (.tail _ (.tail _ (.head _))) (News.put N7 (.head _) (News.put N7 (.tail _ (.head _)) (News.put N7 (.tail _ (.tail _ (.tail _ (.head _)))) (News.tl (News.tl (News.tl (News.tl N7)))))))) (fun q hq => (List.mem_cons.mp hq).elim (fun e => e ▸ e1) fun hq => (List.mem_cons.mp hq).elim (fun e => e ▸ Ne.symm hsm) (h2 q)) e2 rfl rfl (by omega) fun h3 tk3 F3 N3 => ?_
    (try dsimp only)
    (repeat (first | walk1 | (dsimp only; walk1)))
    repeat (refine C_any ?_; (repeat (first | walk1 | (dsimp only; walk1))))
    refine hQ _ _ ?_
    (repeat (first | walk1 | (dsimp only; walk1)))
    have NN := (by assumption : News h₀ L _ ((st, baObj (bs ++ take2 bm)) :: (c, _) :: (sl, _) :: (mk, baObj bm) :: news))
    exact h _ _ (by assumption) (News.put NN (.head _) (News.put NN (.tail _ (.tail _ (.tail _ (.head _)))) (News.tl (News.tl (News.tl (News.tl NN))))))
  · refine C_execs_cons (C_If ?_)
    (repeat (first | walk1 | (dsimp only; walk1)))
    refine C_execs_cons (C_If ?_)
    (repeat (first | walk1 | (dsimp only; walk1)))
    refine C_execs_cons (C_If ?_)
    (repeat (first | walk1 | (dsimp only; walk1)))
    refine C_execs_cons (C_If ?_)
    (repeat (first | walk1 | (dsimp only; walk1)))
    refine C_execs_cons (C_Expr (C_Call_Name (a := 84) ?_))
    (repeat (first | walk1 | (dsimp only; walk1)))
    refine ⟨rfl, ?_⟩
    (repeat ((fail_if_success (with_reducible show wpAny _ _ (call _ _ _) _ _ _)); first | walk1 | (dsimp only; walk1)))
    refine call_slice rfl (by assumption) N1 fun sl h6 tk6 F6 N6 hl6 => ?_
    have e1 : sl ≠ mk := Nat.ne_of_gt (hl6 (mk, baObj bm) (by simp))
    (repeat (first | walk1 | (dsimp only; walk1)))
    refine ⟨⟨_, _, X1.keeps (Fr.keep (by assumption : Fr g L1 _ _)) _ _ (by k_is), rfl⟩, ?_⟩
    refine dl_ok (b := bm) B1 (by assumption) X1 T1 (News.put N6 (.tail _ (.tail _ (.head _))) (News.put N6 (.head _) (News.put N6 (.tail _ (.head _)) (News.tl (News.tl (News.tl N6)))))) (fun q hq => (List.mem_cons.mp hq).elim (fun e => e ▸ hsm) (h3 q)) e1 (by omega) rfl rfl fun h3 tk3 F3 N3 => ?_
    (try dsimp only)
    (repeat (first | walk1 | (dsimp only; walk1)))
    repeat (refine C_any ?_; (repeat (first | walk1 | (dsimp only; walk1))))
    refine hQ _ _ ?_
    (repeat (first | walk1 | (dsimp only; walk1)))
    have NN := (by assumption : News h₀ L _ ((mk, baObj (drop1 bm)) :: (sl, _) :: (st, baObj bs) :: news))
    exact h _ _ (by assumption) (News.put NN (.tail _ (.tail _ (.head _))) (News.put NN (.head _) (News.tl (News.tl (News.tl NN)))))
  · refine C_execs_cons (C_If ?_)
    (repeat (first | walk1 | (dsimp only; walk1)))
    refine C_execs_cons (C_If ?_)
    (repeat (first | walk1 | (dsimp only; walk1)))
    refine C_execs_cons (C_If ?_)
    (repeat (first | walk1 | (dsimp only; walk1)))
    refine C_execs_cons (C_If ?_)
    (repeat (first | walk1 | (dsimp only; walk1)))
    refine C_execs_cons (C_Expr (C_Call_Name (a := 105) ?_))
    (repeat (first | walk1 | (dsimp only; walk1)))
    refine ⟨rfl, ?_⟩
    (repeat ((fail_if_success (with_reducible show wpAny _ _ (call _ _ _) _ _ _)); first | walk1 | (dsimp only; walk1)))
    refine call_slice rfl (by assumption) N1 fun sl h6 tk6 F6 N6 hl6 => ?_
    have e1 : sl ≠ st := Nat.ne_of_gt (hl6 (st, baObj bs) (by simp))
    (repeat (first | walk1 | (dsimp only; walk1)))
    refine ⟨⟨_, _, X1.keeps (Fr.keep (by assumption : Fr g L1 _ _)) _ _ (by k_is), rfl⟩, ?_⟩
    refine si_ok (b := bs) B1 (by assumption) X1 T1 (News.put N6 (.tail _ (.head _)) (News.put N6 (.head _) (News.put N6 (.tail _ (.tail _ (.head _))) (News.tl (News.tl (News.tl N6)))))) (fun q hq => (List.mem_cons.mp hq).elim (fun e => e ▸ Ne.symm hsm) (h2 q)) e1 (by simp; omega) rfl rfl fun h3 tk3 F3 N3 => ?_
    (try dsimp only)
    (repeat (first | walk1 | (dsimp only; walk1)))
    repeat (refine C_any ?_; (repeat (first | walk1 | (dsimp only; walk1))))
    refine hQ _ _ ?_
    (repeat (first | walk1 | (dsimp only; walk1)))
    have NN := (by assumption : News h₀ L _ ((st, baObj (#[40, 63, 33, 41] ++ bs)) :: (sl, _) :: (mk, baObj bm) :: news))
    exact h _ _ (by assumption) (News.put NN (.head _) (News.put NN (.tail _ (.tail _ (.head _))) (News.tl (News.tl (News.tl NN)))))
theorem ld_one {bs : Array UInt8} {n : Int} {tn : Tok} {st : Addr}
    (B' : Below callerA base [] h₀) (F' : Fr h₀ L s.heap m) (X' : (Mine.hd.heap_39 w.params).In h₀) (T' : Top p loose mean mg mb h₀)
    (N' : News h₀ L s.heap ((st, baObj bs) :: news)) (h2 : ∀ q ∈ news, q.1 ≠ st) (hf : env.frame = some L) (hke : env.scope.kind = .function)
    (hs1 : bs.size ≤ 1000) (hn : 0 ≤ n ∧ n < 5)
    (h : ∀ h' tk, Fr h₀ L h' m → News h₀ L h' ((st, baObj (told n true bs bs).1) :: news) → Q .none { s with heap := h', toks := tk }) :
    wpC (model pg w) (callerA.deeper env) (call (.ref 133) [.int n tn, .ref st, .ref st] []) Q NoE s := by
  refine C_call ?_
  refine' C_def (K := Mine.hd.heap_39 w.params) (binds := [(Str.ofString "kind", .int n tn), (Str.ofString "star", .ref st), (Str.ofString "mark", .ref st)]) B' F' X' N' T' rfl hf hke ?ho ?hcd ?hroom ?hbind ?hloc ?_ ?co ?gen ?k ?cell
  case ho => k_is
  case hcd => k_is
  case hroom => k_room
  case hbind => exact BindsTo.of_eq rfl
  case hloc => exact locs rfl
  case co => exact rfl
  case gen => exact rfl
  case k => exact rfl
  case cell => decide
  intro g L1 h1 FG F1 N1 B1 X1 T1
  refine C_post fun Q' hQ => ?_
  have hn5 : n = 0 ∨ n = 1 ∨ n = 2 ∨ n = 3 ∨ n = 4 := by omega
  have h5 := take2_le bs
  rcases hn5 with rfl | rfl | rfl | rfl | rfl
  all_goals simp [told, toldS, toldM] at h
  · refine C_execs_cons (C_If ?_)
    (repeat (first | walk1 | (dsimp only; walk1)))
    refine C_execs_cons (C_Expr (C_Call_Name (a := 112) ?_))
    (repeat (first | walk1 | (dsimp only; walk1)))
    refine ⟨rfl, ?_⟩
    (repeat (first | walk1 | (dsimp only; walk1)))
    refine ⟨⟨_, _, X1.keeps (Fr.keep (by assumption : Fr g L1 _ _)) _ _ (by k_is), rfl⟩, ?_⟩
    refine ic_b (b := bs) B1 (by assumption) X1 T1 (News.put N1 (.head _) (News.tl N1)) h2 rfl rfl (by simp; omega) fun h3 tk3 F3 N3 => ?_
    (try dsimp only)
    (repeat (first | walk1 | (dsimp only; walk1)))
    repeat (refine C_any ?_; (repeat (first | walk1 | (dsimp only; walk1))))
    refine hQ _ _ ?_
    (repeat (first | walk1 | (dsimp only; walk1)))
    have NN := (by assumption : News h₀ L _ ((st, baObj (bs ++ #[97])) :: news))
    exact h _ _ (by assumption) (News.put NN (.head _) (News.tl NN))
  · refine C_execs_cons (C_If ?_)
    (repeat (first | walk1 | (dsimp only; walk1)))
    refine C_execs_cons (C_If ?_)
    (repeat (first | walk1 | (dsimp only; walk1)))
    refine C_execs_cons (C_Expr (C_Call_Name (a := 112) ?_))
    (repeat (first | walk1 | (dsimp only; walk1)))
    refine ⟨rfl, ?_⟩
    (repeat (first | walk1 | (dsimp only; walk1)))
    refine ⟨⟨_, _, X1.keeps (Fr.keep (by assumption : Fr g L1 _ _)) _ _ (by k_is), rfl⟩, ?_⟩
    refine ic_b (b := bs) B1 (by assumption) X1 T1 (News.put N1 (.head _) (News.tl N1)) h2 rfl rfl (by simp; omega) fun h3 tk3 F3 N3 => ?_
    (try dsimp only)
    (repeat (first | walk1 | (dsimp only; walk1)))
    repeat (refine C_any ?_; (repeat (first | walk1 | (dsimp only; walk1))))
    refine hQ _ _ ?_
    (repeat (first | walk1 | (dsimp only; walk1)))
    have NN := (by assumption : News h₀ L _ ((st, baObj (bs ++ #[92, 46])) :: news))
    exact h _ _ (by assumption) (News.put NN (.head _) (News.tl NN))
  · refine C_execs_cons (C_If ?_)
    (repeat (first | walk1 | (dsimp only; walk1)))
    refine C_execs_cons (C_If ?_)
    (repeat (first | walk1 | (dsimp only; walk1)))
    refine C_execs_cons (C_If ?_)
    (repeat (first | walk1 | (dsimp only; walk1)))
    refine C_execs_cons (C_Expr (C_Call_Name (a := 112) ?_))
    (repeat (first | walk1 | (dsimp only; walk1)))
    refine ⟨rfl, ?_⟩
    (repeat ((fail_if_success (with_reducible show wpAny _ _ (call _ _ _) _ _ _)); first | walk1 | (dsimp only; walk1)))
    refine call_slice rfl (by assumption) N1 fun sl h6 tk6 F6 N6 hl6 => ?_
    have e1 : sl ≠ st := Nat.ne_of_gt (hl6 (st, baObj bs) (by simp))
    (repeat ((fail_if_success (with_reducible show wpAny _ _ (call _ _ _) _ _ _)); first | walk1 | (dsimp only; walk1)))
    refine gi_ok (b := bs) (a := st) B1 (by assumption) X1 T1 N6 (by simp) (.head _) rfl rfl fun c h7 tk7 F7 N7 hl7 => ?_
    have e2 : c ≠ st := Nat.ne_of_gt (hl7 (st, baObj bs) (by simp))
    (repeat (first | walk1 | (dsimp only; walk1)))
    refine ⟨⟨_, _, X1.keeps (Fr.keep (by assumption : Fr g L1 _ _)) _ _ (by k_is), rfl⟩, ?_⟩
    refine ic_ba (b := bs) (x := take2 bs) B1 (by assumption) X1 T1 (News.put N7 (.tail _ (.tail _ (.head _))) (News.put N7 (.head _) (News.put N7 (.tail _ (.head _)) (News.tl (News.tl (News.tl N7)))))) (fun q hq => (List.mem_cons.mp hq).elim (fun e => e ▸ e1) (h2 q)) e2 rfl rfl (by omega) fun h3 tk3 F3 N3 => ?_
    (try dsimp only)
    (repeat (first | walk1 | (dsimp only; walk1)))
    repeat (refine C_any ?_; (repeat (first | walk1 | (dsimp only; walk1))))
    refine hQ _ _ ?_
    (repeat (first | walk1 | (dsimp only; walk1)))
    have NN := (by assumption : News h₀ L _ ((st, baObj (bs ++ take2 bs)) :: (c, _) :: (sl, _) :: news))
    exact h _ _ (by assumption) (News.put NN (.head _) (News.tl (News.tl (News.tl NN))))
  · refine C_execs_cons (C_If ?_)
    (repeat (first | walk1 | (dsimp only; walk1)))
    refine C_execs_cons (C_If ?_)
    (repeat (first | walk1 | (dsimp only; walk1)))
    refine C_execs_cons (C_If ?_)
    (repeat (first | walk1 | (dsimp only; walk1)))
    refine C_execs_cons (C_If ?_)
    (repeat (first | walk1 | (dsimp only; walk1)))
    refine C_execs_cons (C_Expr (C_Call_Name (a := 84) ?_))
    (repeat (first | walk1 | (dsimp only; walk1)))
    refine ⟨rfl, ?_⟩
    (repeat ((fail_if_success (with_reducible show wpAny _ _ (call _ _ _) _ _ _)); first | walk1 | (dsimp only; walk1)))
    refine call_slice rfl (by assumption) N1 fun sl h6 tk6 F6 N6 hl6 => ?_
    have e1 : sl ≠ st := Nat.ne_of_gt (hl6 (st, baObj bs) (by simp))
    (repeat (first | walk1 | (dsimp only; walk1)))
    refine ⟨⟨_, _, X1.keeps (Fr.keep (by assumption : Fr g L1 _ _)) _ _ (by k_is), rfl⟩, ?_⟩
    refine dl_ok (b := bs) B1 (by assumption) X1 T1 (News.put N6 (.tail _ (.head _)) (News.put N6 (.head _) (News.tl (News.tl N6)))) h2 e1 (by omega) rfl rfl fun h3 tk3 F3 N3 => ?_
    (try dsimp only)
    (repeat (first | walk1 | (dsimp only; walk1)))
    repeat (refine C_any ?_; (repeat (first | walk1 | (dsimp only; walk1))))
    refine hQ _ _ ?_
    (repeat (first | walk1 | (dsimp only; walk1)))
    have NN := (by assumption : News h₀ L _ ((st, baObj (drop1 bs)) :: (sl, _) :: news))
    exact h _ _ (by assumption) (News.put NN (.head _) (News.tl (News.tl NN)))
  · refine C_execs_cons (C_If ?_)
    (repeat (first | walk1 | (dsimp only; walk1)))
    refine C_execs_cons (C_If ?_)
    (repeat (first | walk1 | (dsimp only; walk1)))
    refine C_execs_cons (C_If ?_)
    (repeat (first | walk1 | (dsimp only; walk1)))
    refine C_execs_cons (C_If ?_)
    (repeat (first | walk1 | (dsimp only; walk1)))
    refine C_execs_cons (C_Expr (C_Call_Name (a := 105) ?_))
    (repeat (first | walk1 | (dsimp only; walk1)))
    refine ⟨rfl, ?_⟩
    (repeat ((fail_if_success (with_reducible show wpAny _ _ (call _ _ _) _ _ _)); first | walk1 | (dsimp only; walk1)))
    refine call_slice rfl (by assumption) N1 fun sl h6 tk6 F6 N6 hl6 => ?_
    have e1 : sl ≠ st := Nat.ne_of_gt (hl6 (st, baObj bs) (by simp))
    (repeat (first | walk1 | (dsimp only; walk1)))
    refine ⟨⟨_, _, X1.keeps (Fr.keep (by assumption : Fr g L1 _ _)) _ _ (by k_is), rfl⟩, ?_⟩
    refine si_ok (b := bs) B1 (by assumption) X1 T1 (News.put N6 (.tail _ (.head _)) (News.put N6 (.head _) (News.tl (News.tl N6)))) h2 e1 (by simp; omega) rfl rfl fun h3 tk3 F3 N3 => ?_
    (try dsimp only)
    (repeat (first | walk1 | (dsimp only; walk1)))
    repeat (refine C_any ?_; (repeat (first | walk1 | (dsimp only; walk1))))
    refine hQ _ _ ?_
    (repeat (first | walk1 | (dsimp only; walk1)))
    have NN := (by assumption : News h₀ L _ ((st, baObj (#[40, 63, 33, 41] ++ bs)) :: (sl, _) :: news))
    exact h _ _ (by assumption) (News.put NN (.head _) (News.tl (News.tl NN)))
end
section
variable {w : World} {base h₀ : Heap} {env : Env} {L : Addr} {m mg mb : Str → Option Value} {news : List (Addr × Obj)} {p : Program} {loose : List Str} {mean : ExcName → Option Value} {s : Shared} {Q : Value → Shared → Prop}
theorem News.notBa {a : Addr} {b : Array UInt8} {h : Heap} (N : News h₀ L h news) (ha : (a, baObj b) ∈ news) {z : Addr × Obj} (hz : z ∈ news) (hd : z.2.data ≠ (baObj b).data) : z.1 ≠ a := fun e => by
  have x := (N _ ha).1
  have y := (N _ hz).1
  rw [e] at y
  exact hd (congrArg Obj.data (Option.some.inj (y.symm.trans x)))
theorem ld_any {one : Bool} {bs bm : Array UInt8} {n : Int} {tn : Tok} {st mk : Addr}
    (B' : Below callerA base [] h₀) (F' : Fr h₀ L s.heap m) (X' : (Mine.hd.heap_39 w.params).In h₀) (T' : Top p loose mean mg mb h₀)
    (N' : News h₀ L s.heap ((st, baObj bs) :: (mk, baObj bm) :: news)) (h1 : one = true → mk = st) (h0 : one = false → mk ≠ st) (hb : one = true → bm = bs) (h2 : ∀ q ∈ news, q.1 ≠ st) (h3 : ∀ q ∈ news, q.1 ≠ mk) (hf : env.frame = some L) (hke : env.scope.kind = .function)
    (hs1 : bs.size ≤ 1000) (hs2 : bm.size ≤ 1000) (hn : 0 ≤ n ∧ n < 5)
    (h : ∀ h' tk, Fr h₀ L h' m → News h₀ L h' ((st, baObj (told n one bs bm).1) :: (mk, baObj (told n one bs bm).2) :: news) → (one = true → (told n one bs bm).2 = (told n one bs bm).1) → Q .none { s with heap := h', toks := tk }) :
    wpC (model pg w) (callerA.deeper env) (call (.ref 133) [.int n tn, .ref st, .ref mk] []) Q NoE s := by
  cases one
  · exact ld_two B' F' X' T' N' (Ne.symm (h0 rfl)) h2 h3 hf hke hs1 hs2 hn fun h' tk F N => h h' tk F N fun e => nomatch e
  · cases h1 rfl
    cases hb rfl
    exact ld_one B' F' X' T' (News.re N' (by intro q hq; rcases List.mem_cons.mp hq with rfl | hq; exact .head _; exact .tail _ (.tail _ hq))) h2 hf hke hs1 hn fun h' tk F N => by
      refine h h' tk F ?_ fun _ => told_one _ _
      rw [told_one]
      exact News.put N (.head _) N
end
local macro_rules | `(tactic| walk_at "eval Name") => `(tactic| (k_here; (first | (with_reducible show wpAny _ _ (eval (PySem.Expr.Name _ _) (envOfC _ _ _ _ _)) _ _ _) | (with_reducible show wpAny _ _ (eval (PySem.Expr.Name _ _) (envX _ _ _ _ _ _)) _ _ _)); k_dflt (refine' nameX_L ?F ?v ?_ ?a ?b; (case F => k_asm); (case a => rfl); (case b => rfl); (case v => walk_at "m.look"); k_whole)))
section
variable {w : World} {g : Heap} {L fa : Addr} {m mg mb : Str → Option Value} {p : Program} {loose : List Str} {mean : ExcName → Option Value} {s : Shared} {Q : Flow → Shared → Prop}
theorem law_turn2 {name : Str} {ps : Arguments} {body : List PySem.Stmt} {scope : Scope} (hfd : hd.fdAt PySem.Challenge.pw_in0260_01 23 = some (name, ps, body, scope)) {fb : List PySem.Stmt} (hfb : (forBody (body.getD 7 (.Pass ⟨0, 0, 0, 0⟩))).drop 4 = fb) {cd : Value}
    {is : List It} {st mk q D : Addr} {bs bm : Array UInt8} {t1 t2 : Tok} {rvals ys : List Value} {nq nD : Nat} {news : List (Addr × Obj)}
    (K : Below callerA g [] g) (X : (Mine.hd.heap_39 w.params).In g) (T : Top p loose mean mg mb g) (hG : AllBare s.gens)
    (F : Fr g L s.heap m) (N : News g L s.heap ((st, baObj bs) :: (mk, baObj bm) :: (q, listOf rvals.toArray nq) :: (D, listOf ys.toArray nD) :: news))
    (e3 : m (Str.ofString "star") = some (.ref st)) (e4 : m (Str.ofString "mark") = some (.ref mk)) (e5 : m (Str.ofString "rows") = some (.ref q)) (e8 : m (Str.ofString "due") = some (.ref D))
    (e6 : m (Str.ofString "in_star") = some (.bytes bs t1)) (e7 : m (Str.ofString "in_mark") = some (.bytes bm t2))
    (hr : AreL (rowIs st mk) rvals is) (hy : AreL (fun k y => ∃ t, y = .bytes (cont bs bm k) t) ys is) (hlen : is.length ≤ 26) (hlen3 : 3 ≤ is.length) (hex : ∃ k ∈ is, sameAs bs bm bm k = true)
    (hs1 : bs.size ≤ 100) (hs2 : bm.size ≤ 100)
    (h : ∀ h' gs dr tk m', AllBare gs → Fr g L h' m' → News g L h' ((st, baObj bs) :: (mk, baObj bm) :: (q, listOf rvals.toArray nq) :: (D, listOf ys.toArray nD) :: news) → (∀ y, y ≠ Str.ofString "page" → y ≠ Str.ofString "row" → m' y = m y) → Q .next ⟨h', gs, dr, tk, s.os⟩) :
    wpC (model pg w) (callerA.deeper (envOfC name scope L fa cd)) (execs fb (envOfC name scope L fa cd)) Q NoE s := by
  obtain ⟨hp, gs, dr, tk, os⟩ := s
  dsimp only at F N hG h
  cases hfd
  subst hfb
  simp only [List.getD_cons_succ, List.getD_cons_zero, forBody, List.drop_succ_cons, List.drop_zero]
  refine C_post fun Q' hQ => ?_
  refine C_execs_consA ?_
  (repeat (first | walk1 | (dsimp only; walk1)))
  dsimp only
  refine C_execs_consA ?_
  (repeat ((fail_if_success (with_reducible show wpAny _ _ (exec (Stmt.For _ _ _ _ _) _) _ _ _)); first | walk1 | (dsimp only; walk1)))
  rename Fr _ _ _ _ => F1
  rename News _ _ _ _ => N1
  refine wpAny_For ?_
  (repeat ((fail_if_success (with_reducible show wpAny _ _ (pyIter _) _ _ _)); first | walk1 | (dsimp only; walk1)))
  refine for_listX (PgInv g m bs bm is ((st, baObj bs) :: (mk, baObj bm) :: (q, listOf rvals.toArray nq) :: (D, listOf ys.toArray nD) :: news)) rfl F1 N1 hG (.tail _ (.tail _ (.head _))) ?h0 ?turn ?done
  case h0 => exact ⟨_, rfl, fun y hy _ => if_neg hy, rfl, rfl⟩
  case turn =>
    rintro i v it oit g₁ m₁ news₁ h₁ gs1 dr1 tk1 hv ⟨t, rfl, e0, ep, rfl⟩ G2 F3 N3 hmem hne
    have e0' : ∀ y, y ≠ Str.ofString "page" → y ≠ Str.ofString "row" → (fun y => if y = Str.ofString "row" then some v else m₁ y) y = m y := fun y h1 h2 => (if_neg h2).trans (e0 y h1 h2)
    obtain ⟨k, hk, hpk⟩ := hr.at (by simpa using hv)
    have hil : i < is.length := (List.getElem?_eq_some_iff.mp hk).1
    have hfs := flat_size hs1 hs2 (is.take i)
    rw [List.length_take] at hfs
    have hcs := cont_size hs1 hs2 k
    have hfl : flat bs bm (is.take (i + 1)) = flat bs bm (is.take i) ++ cont bs bm k := by rw [List.take_add_one, hk]; exact flat_snoc _ _ _ _
    revert ep hfl hfs
    generalize flat bs bm (is.take i) = pg0
    intro ep hfs hfl
    cases k
    · cases hpk
      (repeat ((fail_if_success (with_reducible show wpAny _ _ (call _ _ _) _ _ _)); first | walk1 | (dsimp only; walk1)))
      refine cc_ba (a := st) (b := bs) K (by assumption) X T (News.put N3 (.tail _ (.head _)) N3) rfl rfl (by omega) fun h2 tk2 u2 F2 N2 => ?_
      have N2' := News.tl N2
      clear N2
      (try dsimp only)
      (repeat (first | walk1 | (dsimp only; walk1)))
      exact ForStep.nxt G2 (by assumption) (by assumption) hmem hne ⟨_, rfl, fun y h1 h2 => (if_neg h1).trans (e0' y h1 h2), (if_pos rfl).trans (congrArg (fun a => some (Value.bytes a _)) hfl.symm), rfl⟩
    · cases hpk
      (repeat ((fail_if_success (with_reducible show wpAny _ _ (call _ _ _) _ _ _)); first | walk1 | (dsimp only; walk1)))
      refine cc_ba (a := mk) (b := bm) K (by assumption) X T (News.put N3 (.tail _ (.tail _ (.head _))) N3) rfl rfl (by omega) fun h2 tk2 u2 F2 N2 => ?_
      have N2' := News.tl N2
      clear N2
      (try dsimp only)
      (repeat (first | walk1 | (dsimp only; walk1)))
      exact ForStep.nxt G2 (by assumption) (by assumption) hmem hne ⟨_, rfl, fun y h1 h2 => (if_neg h1).trans (e0' y h1 h2), (if_pos rfl).trans (congrArg (fun a => some (Value.bytes a _)) hfl.symm), rfl⟩
    all_goals
      obtain ⟨tv, rfl⟩ := hpk
      (repeat ((fail_if_success (with_reducible show wpAny _ _ (call _ _ _) _ _ _)); first | walk1 | (dsimp only; walk1)))
      refine cc_b K (by assumption) X T N3 rfl rfl (by simp [cont] at hcs; simp; omega) fun h2 tk2 u2 F2 N2 => ?_
      (try dsimp only)
      (repeat (first | walk1 | (dsimp only; walk1)))
      exact ForStep.nxt G2 (by assumption) (by assumption) hmem hne ⟨_, rfl, fun y h1 h2 => (if_neg h1).trans (e0' y h1 h2), (if_pos rfl).trans (congrArg (fun a => some (Value.bytes a _)) hfl.symm), rfl⟩
  case done =>
    rintro g' m' news' h' gs1 dr1 tk1 ⟨t, rfl, e0, ep, rfl⟩ G2 F3 N3
    rw [List.size_toArray, hr.1, List.take_length] at ep
    have e5' := (e0 (Str.ofString "rows") (by decide) (by decide)).trans e5
    have e8' := (e0 (Str.ofString "due") (by decide) (by decide)).trans e8
    have e3' := (e0 (Str.ofString "star") (by decide) (by decide)).trans e3
    have e4' := (e0 (Str.ofString "mark") (by decide) (by decide)).trans e4
    have e6' := (e0 (Str.ofString "in_star") (by decide) (by decide)).trans e6
    have e7' := (e0 (Str.ofString "in_mark") (by decide) (by decide)).trans e7
    dsimp only
    refine C_execs_consA ?_
    (repeat (first | walk1 | (dsimp only; walk1)))
    refine len_list (News.isList N3 (.tail _ (.tail _ (.head _)))) (by rw [List.size_toArray, hr.1]; omega) ?_
    rw [List.size_toArray, hr.1]
    dsimp only
    (repeat (first | walk1 | (dsimp only; walk1)))
    refine len_list (News.isList N3 (.tail _ (.tail _ (.tail _ (.head _))))) (by rw [List.size_toArray, hy.1]; omega) ?_
    rw [List.size_toArray, hy.1]
    dsimp only
    (repeat ((fail_if_success (with_reducible show wpAny _ _ (compareOp CmpOp.NotEq _ _) _ _ _)); first | walk1 | (dsimp only; walk1)))
    refine ne_int ?_
    rw [bne_self_eq_false]
    (repeat (first | walk1 | (dsimp only; walk1)))
    refine gm_bjoin ?_
    repeat ((fail_if_success (with_reducible show wpAny _ _ (call (Value.builtin "bytes.join") _ _) _ _ _)); first | walk1 | (dsimp only; walk1))
    obtain ⟨lb, rfl, hll, hlf⟩ := bvs_of hy
    refine join_bytes (N3.get (.tail _ (.tail _ (.tail _ (.head _))))) (by omega) (by rw [hlf]; have := flat_size hs1 hs2 is; simp [flat] at this; simp; omega) fun s2 u2 k2 => ?_
    obtain ⟨h2, tk2, rfl, kk2⟩ := k2
    have F4 := F3.keeps kk2
    have N4 := N3.grown kk2
    clear F3 N3 F1 N1
    dsimp only at F4 N4 ⊢
    (repeat ((fail_if_success (with_reducible show wpAny _ _ (compareOp CmpOp.NotEq _ _) _ _ _)); first | walk1 | (dsimp only; walk1)))
    refine ne_bytes ?_
    rw [show ((flat bs bm is).toList != (lb.flatMap fun p => p.1.toList).toArray.toList) = false by rw [hlf]; simp [flat]]
    (repeat (first | walk1 | (dsimp only; walk1)))
    dsimp only
    refine C_execs_consA ?_
    (repeat ((fail_if_success (with_reducible show wpAny _ _ (call _ _ _) _ _ _)); first | walk1 | (dsimp only; walk1)))
    refine co_ok K (by assumption) X T (by assumption) rfl rfl G2 hr (by rw [hr.1]; omega) fun h5 gs5 dr5 tk5 u5 G5 F5 N5 => ?_
    clear F4 N4
    dsimp only
    repeat ((fail_if_success (with_reducible show wpAny _ _ (getMethod (Value.ref _) _ _) _ _ _)); first | walk1 | (dsimp only; walk1))
    refine gm_count N5 (.tail _ (.tail _ (.tail _ (.head _)))) ?_
    repeat ((fail_if_success (with_reducible show wpAny _ _ (call (Value.builtin "list.count") _ _) _ _ _)); first | walk1 | (dsimp only; walk1))
    refine list_count_due N5 (.tail _ (.tail _ (.tail _ (.head _)))) hy ?_
    dsimp only
    (repeat ((fail_if_success (with_reducible show wpAny _ _ (compareOp CmpOp.NotEq _ _) _ _ _)); first | walk1 | (dsimp only; walk1)))
    refine ne_int ?_
    rw [bne_self_eq_false]
    (repeat ((fail_if_success (with_reducible show wpAny _ _ (call _ _ _) _ _ _)); first | walk1 | (dsimp only; walk1)))
    refine ix_ok K (by assumption) X T (by assumption) rfl rfl hr (by rw [hr.1]; omega) hex fun h6 tk6 u6 F6 N6 => ?_
    clear F5 N5
    dsimp only
    repeat ((fail_if_success (with_reducible show wpAny _ _ (getMethod (Value.ref _) _ _) _ _ _)); first | walk1 | (dsimp only; walk1))
    refine gm_index N6 (.tail _ (.tail _ (.tail _ (.head _)))) ?_
    repeat ((fail_if_success (with_reducible show wpAny _ _ (call (Value.builtin "list.index") _ _) _ _ _)); first | walk1 | (dsimp only; walk1))
    refine list_index_due N6 (.tail _ (.tail _ (.tail _ (.head _)))) hy hlen hex ?_
    dsimp only
    (repeat ((fail_if_success (with_reducible show wpAny _ _ (compareOp CmpOp.NotEq _ _) _ _ _)); first | walk1 | (dsimp only; walk1)))
    refine ne_int ?_
    rw [bne_self_eq_false]
    (repeat (first | walk1 | (dsimp only; walk1)))
    exact C_any (wpAny_execs_nil (hQ _ _ (h _ _ _ _ _ G5 (by assumption) (by assumption) e0)))
end
section
variable {w : World} {g : Heap} {L fa : Addr} {m mg mb : Str → Option Value} {p : Program} {loose : List Str} {mean : ExcName → Option Value} {s : Shared} {Q : Flow → Shared → Prop}
theorem law_turn {name : Str} {ps : Arguments} {body : List PySem.Stmt} {scope : Scope} (hfd : hd.fdAt PySem.Challenge.pw_in0260_01 23 = some (name, ps, body, scope)) {fb : List PySem.Stmt} (hfb : forBody (body.getD 7 (.Pass ⟨0, 0, 0, 0⟩)) = fb) {cd : Value}
    {one : Bool} {is : List It} {st mk q qi l it : Addr} {bs bm : Array UInt8} {t1 t2 tx : Tok} {x : Int} {rvals ivals wl : List Value} {nq ni nl k : Nat} {co oit : Obj} {tps : Array Value}
    (K : Below callerA g [] g) (X : (Mine.hd.heap_39 w.params).In g) (T : Top p loose mean mg mb g) (hG : AllBare s.gens)
    (F : Fr g L s.heap m) (N : News g L s.heap [(it, oit), (st, baObj bs), (mk, baObj bm), (L + 1, co), (q, listOf rvals.toArray nq), (qi, listOf ivals.toArray ni), (58, tabObj tps), (l, listOf wl.toArray nl)])
    (ex : m (Str.ofString "x") = some (.int x tx)) (e1 : m (Str.ofString "one") = some (.bool one)) (e2 : m (Str.ofString "items") = some (.ref qi)) (e3 : m (Str.ofString "star") = some (.ref st)) (e4 : m (Str.ofString "mark") = some (.ref mk)) (e5 : m (Str.ofString "rows") = some (.ref q))
    (e6 : m (Str.ofString "in_star") = some (.bytes bs t1)) (e7 : m (Str.ofString "in_mark") = some (.bytes bm t2))
    (hco : CellObj (L + 1) co) (hr : AreL (rowIs st mk) rvals is) (hi : AreL itemIs ivals is) (hlen : is.length ≤ 26) (hlen3 : 3 ≤ is.length) (hex : ∀ bs bm : Array UInt8, (one = true → bm = bs) → ∃ k ∈ is, sameAs bs bm bm k = true)
    (hk : k ≤ 60) (hs1 : bs.size ≤ k) (hs2 : bm.size ≤ k) (h1 : one = true → mk = st) (h0 : one = false → mk ≠ st) (hb : one = true → bm = bs)
    (hit : st ≠ it ∧ mk ≠ it ∧ L + 1 ≠ it ∧ q ≠ it ∧ qi ≠ it ∧ 58 ≠ it ∧ l ≠ it)
    (h : ∀ h' gs dr tk m' bs' bm' t1' t2' co', AllBare gs → Fr g L h' m' → News g L h' [(it, oit), (st, baObj bs'), (mk, baObj bm'), (L + 1, co'), (q, listOf rvals.toArray nq), (qi, listOf ivals.toArray ni), (58, tabObj tps), (l, listOf wl.toArray nl)] →
      m' (Str.ofString "one") = some (.bool one) → m' (Str.ofString "items") = some (.ref qi) → m' (Str.ofString "star") = some (.ref st) → m' (Str.ofString "mark") = some (.ref mk) → m' (Str.ofString "rows") = some (.ref q) →
      m' (Str.ofString "in_star") = some (.bytes bs' t1') → m' (Str.ofString "in_mark") = some (.bytes bm' t2') → CellObj (L + 1) co' → bs'.size ≤ k + 4 → bm'.size ≤ k + 4 → (one = true → bm' = bs') → Q .next ⟨h', gs, dr, tk, s.os⟩) :
    wpC (model pg w) (callerA.deeper (envOfC name scope L fa cd)) (execs fb (envOfC name scope L fa cd)) Q NoE s := by
  obtain ⟨hp, gs, dr, tk, os⟩ := s
  dsimp only at F N hG h
  cases hfd
  subst hfb
  simp only [List.getD_cons_succ, List.getD_cons_zero, forBody]
  refine C_post fun Q' hQ => ?_
  refine C_execs_cons (C_Expr (C_Call_Name (a := 133) ?_))
  (repeat (first | walk1 | (dsimp only; walk1)))
  refine ⟨rfl, ?_⟩
  (repeat (first | walk1 | (dsimp only; walk1)))
  refine ⟨⟨_, _, X.keeps (Fr.keep (by assumption : Fr g L _ _)) _ _ (by k_is), rfl⟩, ?_⟩
  have hx5 : 0 ≤ x.fmod 5 ∧ x.fmod 5 < 5 := ⟨PySem.W.fmod_lo x (by omega), PySem.W.fmod_hi x (by omega)⟩
  have hts := told_size (x.fmod 5) one bs bm k hs1 hs2
  have NR := (by assumption : News g L _ [(it, oit), (st, baObj bs), (mk, baObj bm), (L + 1, co), (q, listOf rvals.toArray nq), (qi, listOf ivals.toArray ni), (58, tabObj tps), (l, listOf wl.toArray nl)])
  have dd : ∀ (a : Addr) (b : Array UInt8), (a, baObj b) ∈ [(it, oit), (st, baObj bs), (mk, baObj bm), (L + 1, co), (q, listOf rvals.toArray nq), (qi, listOf ivals.toArray ni), (58, tabObj tps), (l, listOf wl.toArray nl)] → a ≠ it →
      ∀ z ∈ [(it, oit), (L + 1, co), (q, listOf rvals.toArray nq), (qi, listOf ivals.toArray ni), (58, tabObj tps), (l, listOf wl.toArray nl)], z.1 ≠ a := by
    intro a b ha hai z hz
    rcases List.mem_cons.mp hz with rfl | hz
    · exact Ne.symm hai
    rcases List.mem_cons.mp hz with rfl | hz
    · obtain ⟨v, hv⟩ := hco.d
      exact News.notBa NR ha (.tail _ (.tail _ (.tail _ (.head _)))) (by rw [hv]; exact fun e => nomatch e)
    rcases List.mem_cons.mp hz with rfl | hz
    · exact News.notBa NR ha (.tail _ (.tail _ (.tail _ (.tail _ (.head _))))) (fun e => nomatch e)
    rcases List.mem_cons.mp hz with rfl | hz
    · exact News.notBa NR ha (.tail _ (.tail _ (.tail _ (.tail _ (.tail _ (.head _)))))) (fun e => nomatch e)
    rcases List.mem_cons.mp hz with rfl | hz
    · exact News.notBa NR ha (.tail _ (.tail _ (.tail _ (.tail _ (.tail _ (.tail _ (.head _))))))) (fun e => nomatch e)
    rcases List.mem_cons.mp hz with rfl | hz
    · exact News.notBa NR ha (.tail _ (.tail _ (.tail _ (.tail _ (.tail _ (.tail _ (.tail _ (.head _)))))))) (fun e => nomatch e)
    cases hz
  refine ld_any (news := [(it, oit), (L + 1, co), (q, listOf rvals.toArray nq), (qi, listOf ivals.toArray ni), (58, tabObj tps), (l, listOf wl.toArray nl)]) K (by assumption) X T
    (News.put NR (.tail _ (.head _)) (News.put NR (.tail _ (.tail _ (.head _))) (News.put NR (.head _) (News.tl (News.tl (News.tl NR)))))) h1 h0 hb
    (dd st bs (.tail _ (.head _)) hit.1) (dd mk bm (.tail _ (.tail _ (.head _))) hit.2.1) rfl rfl (by omega) (by omega) hx5 fun h2 tk2 F2 N2 hb2 => ?_
  clear NR N F
  dsimp only
  refine C_execs_consA ?_
  (repeat ((fail_if_success (with_reducible show wpAny _ _ (call _ _ _) _ _ _)); first | walk1 | (dsimp only; walk1)))
  refine lt_ok (n := x.fmod 5) (bs := bs) (bm := bm) (one := one) K (by assumption) X T (by assumption) rfl rfl (by omega) (by omega) hx5 fun h3 tk3 p3 t13 t23 F3 N3 => ?_
  clear N2 F2
  dsimp only
  revert hts hb2 N3
  generalize (told (x.fmod 5) one bs bm).1 = bs2
  generalize (told (x.fmod 5) one bs bm).2 = bm2
  intro hts hb2 N3
  (repeat (first | walk1 | (dsimp only; walk1)))
  dsimp only
  refine C_execs_consA ?_
  (repeat (first | walk1 | (dsimp only; walk1)))
  dsimp only
  rename Fr _ _ _ _ => F4
  rename News _ _ _ _ => N4
  rename Obj.IsDictOf _ _ _ => hd4
  have hd5 : ∃ u1 u2 u3 u4 u5 u6 u7, Obj.IsDictOf (PySem.strKind pg w) _ [(Str.ofString "star", Value.bytes bs2 u1), (Str.ofString "mark", Value.bytes bm2 u2), (Str.ofString "a", Value.bytes #[97] u3), (Str.ofString ".", Value.bytes #[92, 46] u4),
    (Str.ofString "[b-a]", Value.bytes #[40, 63, 33, 41] u5), (Str.ofString "[!a]", Value.bytes #[91, 94, 97, 93] u6), (Str.ofString "é", Value.bytes #[] u7)] := ⟨_, _, _, _, _, _, _, hd4⟩
  obtain ⟨u1, u2, u3, u4, u5, u6, u7, hd6⟩ := hd5
  clear hd4
  obtain ⟨⟨v0, hv0⟩⟩ := hco
  have N5' := News.put N4 (.tail _ (.tail _ (.tail _ (.tail _ (.tail _ (.head _)))))) (News.put N4 (.tail _ (.tail _ (.head _))) (News.put N4 (.tail _ (.tail _ (.tail _ (.head _)))) (News.put N4 (.head _) (News.put N4 (.tail _ (.tail _ (.tail _ (.tail _ (.head _))))) (News.tl (News.tl (News.tl (News.tl (News.tl (News.tl N4))))))))))
  have hcne := cell_ne N5' hv0 (by
    intro z hz
    rcases List.mem_cons.mp hz with rfl | hz
    · exact .inr fun v e => nomatch e
    rcases List.mem_cons.mp hz with rfl | hz
    · exact .inr fun v e => nomatch e
    rcases List.mem_cons.mp hz with rfl | hz
    · obtain ⟨_, _, _, e, _⟩ := hd6
      exact .inr fun v => by rw [e]; exact fun e => nomatch e
    rcases List.mem_cons.mp hz with rfl | hz
    · exact .inl (Ne.symm hit.2.2.1)
    rcases List.mem_cons.mp hz with rfl | hz
    · exact .inr fun v e => nomatch e
    rcases List.mem_cons.mp hz with rfl | hz
    · exact .inr fun v e => nomatch e
    rcases List.mem_cons.mp hz with rfl | hz
    · exact .inr fun v e => nomatch e
    rcases List.mem_cons.mp hz with rfl | hz
    · exact .inr fun v e => nomatch e
    cases hz)
  refine storeX_C (c := L + 1) (o := co) F4 N5' rfl (UpdF.head hcne) hv0 ?_ rfl rfl
  intro h5 co5 F5 N5 hco5
  clear F4 N4 N5'
  dsimp only at N5 ⊢
  refine C_execs_consA ?_
  refine comp_items (R := fun k y => ∃ t, y = .bytes (cont bs2 bm2 k) t) rfl rfl rfl rfl (by decide) rfl (by decide) rfl rfl rfl F5 N5 (.tail _ (.tail _ (.tail _ (.tail _ (.tail _ (.tail _ (.head _))))))) hi (by rw [sizeLine_eq]; omega) ?iter ?elt ?rest ?hs
  case hs => intro _; rfl
  case iter =>
    intro Q h
    walk1
    exact h
  case elt =>
    intro C k t s2 m2 E' FC hmx
    obtain ⟨t', hv⟩ := value_due k bs2 bm2 u1 u2 u3 u4 u5 u6 u7
    exact wpAny_mono (elt_due rfl rfl rfl rfl (N5.grown FC.keep) (.head _) hco5 (.tail _ (.tail _ (.tail _ (.head _)))) hd6 FC.ns hmx hv) (fun y s3 hy => ⟨⟨t', hy.1⟩, hy.2⟩) fun _ _ e => e
  case rest =>
    intro D ys h6 tk6 n6 F6 N6 hD6 hy6
    dsimp only
    refine C_mono (law_turn2 (Q := Q') (news := [(it, oit), (L + 1, co5), (qi, listOf ivals.toArray ni), (58, tabObj tps), (l, listOf wl.toArray nl)]) (is := is) rfl rfl K X T hG F6
      (News.put N6 (.tail _ (.tail _ (.head _))) (News.put N6 (.tail _ (.tail _ (.tail _ (.head _)))) (News.put N6 (.tail _ (.tail _ (.tail _ (.tail _ (.tail _ (.tail _ (.head _))))))) (News.put N6 (.head _)
        (News.put N6 (.tail _ (.tail _ (.tail _ (.tail _ (.tail _ (.head _)))))) (News.put N6 (.tail _ (.head _)) (News.tl (News.tl (News.tl (News.tl (News.tl (News.tl (News.tl N6)))))))))))))
      ((if_neg (by decide)).trans ((if_neg (by decide)).trans ((if_neg (by decide)).trans e3))) ((if_neg (by decide)).trans ((if_neg (by decide)).trans ((if_neg (by decide)).trans e4))) ((if_neg (by decide)).trans ((if_neg (by decide)).trans ((if_neg (by decide)).trans e5))) (if_pos rfl)
      ((if_neg (by decide)).trans ((if_neg (by decide)).trans (if_pos rfl))) ((if_neg (by decide)).trans (if_pos rfl)) hr hy6 hlen hlen3 (hex _ _ hb2) (by omega) (by omega) ?_) (fun _ _ x => x) fun _ _ x => x
    intro h7 gs7 dr7 tk7 m7 G7 F7 N7 e0
    refine hQ _ _ (h _ _ _ _ _ bs2 bm2 t13 t23 co5 G7 F7
      (News.put N7 (.tail _ (.tail _ (.tail _ (.tail _ (.head _))))) (News.put N7 (.head _) (News.put N7 (.tail _ (.head _)) (News.put N7 (.tail _ (.tail _ (.tail _ (.tail _ (.tail _ (.head _)))))) (News.put N7 (.tail _ (.tail _ (.head _))) (News.tl (News.tl (News.tl (News.tl (News.tl (News.tl N7)))))))))))
      ((e0 _ (by decide) (by decide)).trans ((if_neg (by decide)).trans ((if_neg (by decide)).trans ((if_neg (by decide)).trans e1)))) ((e0 _ (by decide) (by decide)).trans ((if_neg (by decide)).trans ((if_neg (by decide)).trans ((if_neg (by decide)).trans e2))))
      ((e0 _ (by decide) (by decide)).trans ((if_neg (by decide)).trans ((if_neg (by decide)).trans ((if_neg (by decide)).trans e3)))) ((e0 _ (by decide) (by decide)).trans ((if_neg (by decide)).trans ((if_neg (by decide)).trans ((if_neg (by decide)).trans e4))))
      ((e0 _ (by decide) (by decide)).trans ((if_neg (by decide)).trans ((if_neg (by decide)).trans ((if_neg (by decide)).trans e5)))) ((e0 _ (by decide) (by decide)).trans ((if_neg (by decide)).trans ((if_neg (by decide)).trans (if_pos rfl))))
      ((e0 _ (by decide) (by decide)).trans ((if_neg (by decide)).trans (if_pos rfl))) ⟨_, hco5⟩ hts.1 hts.2 hb2)
end
section
theorem ints_at : ∀ {vs : List Value} {ns : List Int} {i : Nat} {v : Value}, IntsAre vs ns → vs[i]? = some v → ∃ n t, v = .int n t
  | _, _, 0, _, .cons n t _, h => ⟨n, t, by simpa using h.symm⟩
  | _, _, i + 1, _, .cons _ _ r, h => ints_at r (by simpa using h)
  | _, _, _, _, .nil, h => by simp at h
variable {w : World} {g : Heap} {L fa : Addr} {m mg mb : Str → Option Value} {p : Program} {loose : List Str} {mean : ExcName → Option Value} {s : Shared} {Q : Flow → Shared → Prop}
theorem law_loop {name : Str} {ps : Arguments} {body : List PySem.Stmt} {scope : Scope} (hfd : hd.fdAt PySem.Challenge.pw_in0260_01 23 = some (name, ps, body, scope)) {fb : List PySem.Stmt} (hfb : forBody (body.getD 7 (.Pass ⟨0, 0, 0, 0⟩)) = fb) {cd : Value} {px : Pos}
    {one : Bool} {xs ns : List Int} {st mk q qi l : Addr} {t1 t2 : Tok} {rvals ivals wl : List Value} {nq ni nl : Nat} {co : Obj} {tps : Array Value}
    (K : Below callerA g [] g) (X : (Mine.hd.heap_39 w.params).In g) (T : Top p loose mean mg mb g) (hG : AllBare s.gens)
    (F : Fr g L s.heap m) (N : News g L s.heap [(st, baObj #[]), (mk, baObj #[]), (L + 1, co), (q, listOf rvals.toArray nq), (qi, listOf ivals.toArray ni), (58, tabObj tps), (l, listOf wl.toArray nl)])
    (e1 : m (Str.ofString "one") = some (.bool one)) (e2 : m (Str.ofString "items") = some (.ref qi)) (e3 : m (Str.ofString "star") = some (.ref st)) (e4 : m (Str.ofString "mark") = some (.ref mk)) (e5 : m (Str.ofString "rows") = some (.ref q))
    (e6 : m (Str.ofString "in_star") = some (.bytes #[] t1)) (e7 : m (Str.ofString "in_mark") = some (.bytes #[] t2))
    (hco : CellObj (L + 1) co) (hns : ns.length ≤ 10) (hr : AreL (rowIs st mk) rvals (lawIs one ns)) (hi : AreL itemIs ivals (lawIs one ns)) (hw : IntsAre wl xs) (hx : xs.length ≤ 12)
    (h1 : one = true → mk = st) (h0 : one = false → mk ≠ st)
    (h : ∀ h' gs dr tk m' ps, Fr g L h' m' → News g L h' [(58, tabObj ps)] → AllBare gs → Q .next ⟨h', gs, dr, tk, s.os⟩) :
    wpAny (model pg w) (callerA.deeper (envOfC name scope L fa cd)) (pyIter (.ref l)) (fun it s₂ => codeC (model pg w) (callerA.deeper (envOfC name scope L fa cd)) (.forLoop (.Name (Str.ofString "x") px) it fb [] (envOfC name scope L fa cd))
      (fun r s' => match r with | .ok f => Q f s' | .error _ => False) s₂) NoE s := by
  have hfd' := hfd
  obtain ⟨r, hir⟩ := lawIs_head one ns
  have hlen3 : 3 ≤ (lawIs one ns).length := by rw [hir]; simp
  refine C_for_list (LawInv g st mk q qi (L + 1) one [(q, listOf rvals.toArray nq), (qi, listOf ivals.toArray ni), (58, tabObj tps), (l, listOf wl.toArray nl)]) rfl F N hG (.tail _ (.tail _ (.tail _ (.tail _ (.tail _ (.tail _ (.head _))))))) ?h0 ?turn ?done ?hk ?hx
  case hk => cases hfd; rfl
  case hx => cases hfd; rfl
  case h0 => exact ⟨#[], #[], t1, t2, co, rfl, e1, e2, e3, e4, e5, e6, e7, rfl, hco, Nat.zero_le _, Nat.zero_le _, fun _ => rfl⟩
  case turn =>
    rintro i v it oit g₁ m₁ news₁ h₁ gs1 dr1 tk1 hv ⟨bs, bm, u1, u2, co1, rfl, f1, f2, f3, f4, f5, f6, f7, rfl, hc1, hb1, hb2, hbo⟩ G2 F3 N3 hmem hne
    have hil : i < 12 := by
      have a := (Array.getElem?_eq_some_iff.mp hv).1
      have b := hw.length
      simp at a
      omega
    obtain ⟨x, tx, rfl⟩ := ints_at hw (by simpa using hv)
    have hit : st ≠ it ∧ mk ≠ it ∧ L + 1 ≠ it ∧ q ≠ it ∧ qi ≠ it ∧ 58 ≠ it ∧ l ≠ it := ⟨hne _ (.head _), hne _ (.tail _ (.head _)), hne _ (.tail _ (.tail _ (.head _))), hne _ (.tail _ (.tail _ (.tail _ (.head _)))), hne _ (.tail _ (.tail _ (.tail _ (.tail _ (.head _))))), hne _ (.tail _ (.tail _ (.tail _ (.tail _ (.tail _ (.head _)))))), hne _ (.tail _ (.tail _ (.tail _ (.tail _ (.tail _ (.tail _ (.head _))))))) ⟩
    refine law_turn (k := 4 * i) (is := lawIs one ns) (x := x) (tx := tx) (bs := bs) (bm := bm) (t1 := u1) (t2 := u2) hfd' hfb K X T G2 F3 N3 (if_pos rfl) ((if_neg (by decide)).trans f1) ((if_neg (by decide)).trans f2) ((if_neg (by decide)).trans f3) ((if_neg (by decide)).trans f4) ((if_neg (by decide)).trans f5) ((if_neg (by decide)).trans f6) ((if_neg (by decide)).trans f7)
      hc1 hr hi (lawIs_len one ns hns) hlen3 (fun bs bm e => lawIs_ex one ns bs bm (fun z => (e z).symm)) (by omega) hb1 hb2 h1 h0 hbo hit ?_
    intro h' gs dr tk m' bs' bm' t1' t2' co' G4 F4 N4 g1 g2 g3 g4 g5 g6 g7 hc4 hs1 hs2 hb4
    refine ForStep.nxt G4 F4 N4 (.tail _ (.tail _ (.tail _ (.tail _ (.tail _ (.tail _ (.head _))))))) ?_ ⟨bs', bm', t1', t2', co', rfl, g1, g2, g3, g4, g5, g6, g7, rfl, hc4, by omega, by omega, hb4⟩
    intro z hz
    rcases List.mem_cons.mp hz with rfl | hz
    · exact hit.1
    rcases List.mem_cons.mp hz with rfl | hz
    · exact hit.2.1
    rcases List.mem_cons.mp hz with rfl | hz
    · exact hit.2.2.1
    · exact hne z (.tail _ (.tail _ (.tail _ hz)))
  case done =>
    rintro g' m' news' h' gs1 dr1 tk1 ⟨bs, bm, u1, u2, co1, rfl, f1, f2, f3, f4, f5, f6, f7, rfl, hc1, hb1, hb2, hbo⟩ G2 F3 N3
    exact h _ _ _ _ _ _ F3 (News.re N3 (by intro z hz; rw [List.mem_singleton.mp hz]; exact .tail _ (.tail _ (.tail _ (.tail _ (.tail _ (.head _))))))) G2
end
section
variable {w : World} {g : Heap} {L fa : Addr} {m mg mb : Str → Option Value} {p : Program} {loose : List Str} {mean : ExcName → Option Value} {s : Shared} {Q : Flow → Shared → Prop}
theorem law_rest {name : Str} {ps : Arguments} {body : List PySem.Stmt} {scope : Scope} (hfd : hd.fdAt PySem.Challenge.pw_in0260_01 23 = some (name, ps, body, scope)) {cd : Value}
    {one : Bool} {ns : List Int} {st mk q pz l : Addr} {ivals pvals vs : List Value} {nq np : Nat} {co : Obj} {bd : List PySem.Stmt} (hbd : body.drop 5 = bd)
    (K : Below callerA g [] g) (X : (Mine.hd.heap_39 w.params).In g) (T : Top p loose mean mg mb g) (C : CodeHd g 62 58) (hG : AllBare s.gens)
    (F : Fr g L s.heap m) (N : News g L s.heap [(st, baObj #[]), (mk, baObj #[]), (q, listOf ivals.toArray nq), (pz, listOf pvals.toArray np), (L + 1, co), (58, tabObj #[])])
    (e1 : m (Str.ofString "one") = some (.bool one)) (e2 : m (Str.ofString "items") = some (.ref q)) (e3 : m (Str.ofString "star") = some (.ref st)) (e4 : m (Str.ofString "mark") = some (.ref mk)) (e5 : m (Str.ofString "pieces") = some (.ref pz)) (e6 : m (Str.ofString "script") = some (.ref l))
    (hl : g.IsList l vs.toArray) (hI : IntsAre vs ns) (hc1 : ¬ ((63 : Nat) : Int) < (ns.length : Int)) (hco : CellObj (L + 1) co) (hA : AreL itemIs ivals (lawIs one (ns.take 10))) (hP : PcsAre pvals (lawPcs (ns.take 10))) (h1 : one = true → mk = st) (h0 : one = false → mk ≠ st)
    (h : ∀ h' gs dr tk m' ps, Fr g L h' m' → News g L h' [(58, tabObj ps)] → AllBare gs → Q (.ret (.bool true)) ⟨h', gs, dr, tk, s.os⟩) :
    wpC (model pg w) (callerA.deeper (envOfC name scope L fa cd)) (execs bd (envOfC name scope L fa cd)) Q NoE s := by
  obtain ⟨hp, gs, dr, tk, os⟩ := s
  dsimp only at F N hG h
  cases hfd
  subst hbd
  refine C_post fun Q' hQ => ?_
  refine C_execs_consA ?_
  (repeat (first | walk1 | (dsimp only; walk1)))
  have hpl : pvals.length = min 10 ns.length + 3 := by rw [hP.1]; simp [lawPcs]
  have hw := pieces_weight (lawPcs (ns.take 10))
  rw [← hP.1, hpl] at hw
  refine join_listW (N.isList (.tail _ (.tail _ (.tail _ (.head _))))) (by rw [List.toList_toArray]; exact strs_of hP) (by decide +kernel) (by omega) fun tj kj => ?_
  dsimp only
  have hPc := (join_cps (lawPcs (ns.take 10))).trans (utext_pcs _).symm
  have hPl : (Txt.join (Str.ofString "") ((lawPcs (ns.take 10)).map Pc.text)).length ≤ 100 := by
    have a1 := ptext_len (lawPcs (ns.take 10))
    rw [← join_cps, ← hP.1, hpl] at a1
    show (Txt.join (Str.ofString "") ((lawPcs (ns.take 10)).map Pc.text)).cps.size ≤ 100
    rw [← Array.length_toList]
    omega
  have h58c : @Ne Nat (L + 1) 58 := fun e => by
    obtain ⟨v, hv⟩ := hco.d
    have a := (N (L + 1, co) (.tail _ (.tail _ (.tail _ (.tail _ (.head _)))))).1
    have b := (N (58, tabObj #[]) (.tail _ (.tail _ (.tail _ (.tail _ (.tail _ (.head _))))))).1
    dsimp only at a b
    rw [e, b] at a
    cases a
    cases hv
  have h58q : @Ne Nat q 58 := fun e => by
    have a := (N (q, listOf ivals.toArray nq) (.tail _ (.tail _ (.head _)))).1
    have b := (N (58, tabObj #[]) (.tail _ (.tail _ (.tail _ (.tail _ (.tail _ (.head _))))))).1
    dsimp only at a b
    rw [e, b] at a
    cases a
  revert hPc hPl
  generalize Txt.join (Str.ofString "") ((lawPcs (ns.take 10)).map Pc.text) = P
  intro hPc hPl
  (repeat ((fail_if_success (with_reducible show wpAny _ _ (call _ _ _) _ _ _)); first | walk1 | (dsimp only; walk1)))
  refine tr_ok (hd1 := hco) (hc2 := rfl) (hy1 := h58c) (hy2 := h58q) (us := unitsOfP (lawPcs (ns.take 10))) (one := one) hPc hPl h1 h0 K (by assumption) X T
    (fun z hz => N z (by
      rcases List.mem_cons.mp hz with rfl | hz; exact .head _
      rcases List.mem_cons.mp hz with rfl | hz; exact .tail _ (.head _)
      rcases List.mem_cons.mp hz with rfl | hz; exact .tail _ (.tail _ (.tail _ (.tail _ (.tail _ (.head _)))))
      rcases List.mem_cons.mp hz with rfl | hz; exact .tail _ (.tail _ (.tail _ (.tail _ (.head _))))
      rcases List.mem_cons.mp hz with rfl | hz; exact .tail _ (.tail _ (.head _))
      cases hz)) C (by assumption) rfl rfl fun h3 gs3 dr3 tk3 r vals nn ps3 G3 F3 N3 hv3 => ?_
  clear N F
  have hvl : vals.length ≤ 100 := by
    rw [(AreL.of_parts hv3).1]
    exact Nat.le_trans (lawIs_len one (ns.take 10) (by rw [List.length_take]; omega)) (by omega)
  dsimp only
  (repeat ((fail_if_success (with_reducible show wpAny _ _ (call _ _ _) _ _ _)); first | walk1 | (dsimp only; walk1)))
  refine lr_ok K (by assumption) X T N3 X T (by assumption) (AreL.of_parts hv3) hvl rfl rfl fun h4 gs4 dr4 tk4 q4 rvals nq4 G4 F4 N4 hr4 => ?_
  clear N3 F3
  dsimp only
  (repeat (first | walk1 | (dsimp only; walk1)))
  dsimp only
  refine C_execs_consA ?_
  (repeat (first | walk1 | (dsimp only; walk1)))
  dsimp only
  refine C_execs_cons (C_For ?_)
  (repeat (first | walk1 | (dsimp only; walk1)))
  dsimp only
  rename News _ _ _ _ => NW
  rename Fr _ _ _ _ => FW
  rename IntsAre _ ([1, 2] ++ _) => hIW
  refine law_loop (ns := ns.take 10) (q := q4) (qi := q) (st := st) (mk := mk) (one := one) (ivals := ivals) (rvals := rvals) (tps := ps3) (co := co) rfl rfl K X T G4 FW
    (News.put NW (.tail _ (.tail _ (.tail _ (.tail _ (.tail _ (.tail _ (.tail _ (.head _)))))))) (News.put NW (.tail _ (.tail _ (.tail _ (.tail _ (.tail _ (.tail _ (.tail _ (.tail _ (.head _)))))))))
      (News.put NW (.tail _ (.tail _ (.tail _ (.tail _ (.tail _ (.tail _ (.tail _ (.tail _ (.tail _ (.tail _ (.head _))))))))))) (News.put NW (.tail _ (.tail _ (.tail _ (.tail _ (.tail _ (.head _))))))
        (News.put NW (.tail _ (.tail _ (.tail _ (.tail _ (.tail _ (.tail _ (.tail _ (.tail _ (.tail _ (.tail _ (.tail _ (.head _)))))))))))) (News.put NW (.tail _ (.tail _ (.tail _ (.tail _ (.tail _ (.tail _ (.tail _ (.tail _ (.tail _ (.head _))))))))))
          (News.put NW (.head _) fun _ hz => nomatch hz)))))))
    ((if_neg (by decide)).trans ((if_neg (by decide)).trans ((if_neg (by decide)).trans e1))) ((if_neg (by decide)).trans ((if_neg (by decide)).trans ((if_neg (by decide)).trans e2)))
    ((if_neg (by decide)).trans ((if_neg (by decide)).trans ((if_neg (by decide)).trans e3))) ((if_neg (by decide)).trans ((if_neg (by decide)).trans ((if_neg (by decide)).trans e4)))
    ((if_neg (by decide)).trans ((if_neg (by decide)).trans (if_pos rfl))) ((if_neg (by decide)).trans (if_pos rfl)) (if_pos rfl)
    hco (by rw [List.length_take]; omega) hr4 hA hIW (by rw [List.length_append, List.length_take]; simp; omega) h1 h0 ?_
  intro h7 gs7 dr7 tk7 m7 ps7 F7 N7 G7
  dsimp only
  refine C_execs_consA ?_
  (repeat (first | walk1 | (dsimp only; walk1)))
  exact hQ _ _ (h _ _ _ _ _ _ F7 N7 G7)
end
section
variable {w : World} {g : Heap} {L fa : Addr} {m mg mb : Str → Option Value} {p : Program} {loose : List Str} {mean : ExcName → Option Value} {s : Shared} {Q : Flow → Shared → Prop}
theorem law_mid {name : Str} {ps : Arguments} {body : List PySem.Stmt} {scope : Scope} (hfd : hd.fdAt PySem.Challenge.pw_in0260_01 23 = some (name, ps, body, scope)) {cd : Value}
    {one : Bool} {ns : List Int} {st q pz l : Addr} {ivals pvals vs : List Value} {nq np : Nat} {co : Obj} {bd : List PySem.Stmt} (hbd : body.drop 4 = bd)
    (K : Below callerA g [] g) (X : (Mine.hd.heap_39 w.params).In g) (T : Top p loose mean mg mb g) (C : CodeHd g 62 58) (hG : AllBare s.gens)
    (F : Fr g L s.heap m) (N : News g L s.heap [(st, baObj #[]), (q, listOf ivals.toArray nq), (pz, listOf pvals.toArray np), (L + 1, co), (58, tabObj #[])])
    (e1 : m (Str.ofString "one") = some (.bool one)) (e2 : m (Str.ofString "items") = some (.ref q)) (e3 : m (Str.ofString "star") = some (.ref st)) (e5 : m (Str.ofString "pieces") = some (.ref pz)) (e6 : m (Str.ofString "script") = some (.ref l))
    (hl : g.IsList l vs.toArray) (hI : IntsAre vs ns) (hc1 : ¬ ((63 : Nat) : Int) < (ns.length : Int)) (hco : CellObj (L + 1) co) (hA : AreL itemIs ivals (lawIs one (ns.take 10))) (hP : PcsAre pvals (lawPcs (ns.take 10)))
    (h : ∀ h' gs dr tk m' ps, Fr g L h' m' → News g L h' [(58, tabObj ps)] → AllBare gs → Q (.ret (.bool true)) ⟨h', gs, dr, tk, s.os⟩) :
    wpC (model pg w) (callerA.deeper (envOfC name scope L fa cd)) (execs bd (envOfC name scope L fa cd)) Q NoE s := by
  obtain ⟨hp, gs, dr, tk, os⟩ := s
  dsimp only at F N hG h
  cases hfd
  subst hbd
  simp only [List.drop_succ_cons, List.drop_zero]
  refine C_post fun Q' hQ => ?_
  refine C_execs_cons (C_Assign_Name (C_IfExp ?_))
  (repeat (first | walk1 | (dsimp only; walk1)))
  · rename one = true => h1
    refine C_any ?_
    (repeat (first | walk1 | (dsimp only; walk1)))
    dsimp only
    rename News _ _ _ _ => NW
    rename Fr _ _ _ _ => FW
    refine C_mono (law_rest (Q := Q') (st := st) (mk := st) (q := q) (pz := pz) (co := co) (one := one) (ivals := ivals) (pvals := pvals) rfl rfl K X T C hG FW (News.put NW (.head _) NW)
      ((if_neg (by decide)).trans e1) ((if_neg (by decide)).trans e2) ((if_neg (by decide)).trans e3) (if_pos rfl) ((if_neg (by decide)).trans e5) ((if_neg (by decide)).trans e6) hl hI hc1 hco hA hP (fun _ => rfl) (fun e => by rw [h1] at e; cases e) ?_) (fun _ _ x => x) fun _ _ x => x
    intro h7 gs7 dr7 tk7 m7 ps7 F7 N7 G7
    exact hQ _ _ (h _ _ _ _ _ _ F7 N7 G7)
  · rename one = false => h0
    refine C_Call_type0 (T := "bytearray") ?_
    refine nameX_B (by assumption) X (by k_asm) (by k_is) boot_ba (by decide) ?_ rfl rfl
    refine ⟨rfl, ?_⟩
    refine C_newBA (b := #[]) typeCall_ba0 newCall_ba0 (fun _ => args_ba_init0 _) (fun ha h => init0 ha h) ?_
    refine newBA_after (P := fun a s' => wpAny _ _ (storeName _ _ (.ref a)) _ _ s') (by assumption) (by assumption) fun mk h4 tk4 F4 N4 hl4 => ?_
    have hms : @Ne Nat mk st := Nat.ne_of_gt (hl4 _ (.head _))
    dsimp only
    (repeat (first | walk1 | (dsimp only; walk1)))
    dsimp only
    rename News _ _ _ _ => NW
    rename Fr _ _ _ _ => FW
    refine C_mono (law_rest (Q := Q') (st := st) (mk := mk) (q := q) (pz := pz) (co := co) (one := one) (ivals := ivals) (pvals := pvals) rfl rfl K X T C hG FW (News.put NW (.tail _ (.head _)) (News.put NW (.head _) (News.tl (News.tl NW))))
      ((if_neg (by decide)).trans e1) ((if_neg (by decide)).trans e2) ((if_neg (by decide)).trans e3) (if_pos rfl) ((if_neg (by decide)).trans e5) ((if_neg (by decide)).trans e6) hl hI hc1 hco hA hP (fun e => by rw [h0] at e; cases e) (fun _ => hms) ?_) (fun _ _ x => x) fun _ _ x => x
    intro h7 gs7 dr7 tk7 m7 ps7 F7 N7 G7
    exact hQ _ _ (h _ _ _ _ _ _ F7 N7 G7)
end
theorem law_post (a : List WData) : PySem.Challenge.rw_in0260_01.row.claim.post a (WData.bool true) a = true := by kernel_rfl
theorem lawx : PySem.Challenge.rw_in0260_01.Holds := by
  refine Mine.hd (by rfl) (by rfl) (by rfl) ?_
  intro w s₀ s₁ mg mb G Y fa o pm cd doc dV kV ho hd hcd hD hmg hg args vals as hpre hlay hrd hwl hlo
  have KX := km_in_of Y
  have KT : TabsAt [(62, 58)] s₁.heap := List.forall_mem_cons.mpr ⟨⟨codeHd_of_K (c := 62) (P := 58) KX (by kernel_rfl), km_tabs_of Y 58 (.head _)⟩, fun _ h => nomatch h⟩
  have X := (Ground.X G).1
  have V := (Ground.X G).2
  refine Ground.open G ?_
  intro T B D TE TW
  obtain ⟨_, _, he, B0⟩ := based_of_top T rfl hmg ho hd; have he' : cd = _ := he; subst he'; clear he
  wrow_args hpre hlay hrd hwl hlo
  refine C_mono (E := NoE) ?_ (fun _ _ x => x) fun _ _ x => x.elim
  have he := Dflts.none hD rfl
  subst he
  have he := Dflts.noKw hD
  subst he
  refine C_call ?_
  rename_i ns hs0 hl0 hL1 hr1 hl2 wa wb l vs as' hL ra w1 r0 hI hr hc1 hc2
  refine C_cells (binds := [(Str.ofString "script", .ref l)]) (by decide) ho (fd_plain hd) (Top.nolimit T) hcd rfl (kinds_of (by kinds_ok)) (by decide) fun h₁ tk₁ cells F N0 X0 => ?_
  clear hd hD hmg hcd B D TE TW B0
  have C' := (ghost_code KT).1
  have X' := ghost_K KT KX (by kernel_rfl)
  have T' := ghost_top KT T
  have K' := ghost_below KT
  have N' := ghost_news KT F N0
  have F' := ghost_fr KT F
  have L' := ghost_list KT hL
  cells_open X0
  simp only [tabNews, List.map_cons, List.map_nil, List.nil_append, List.cons_append] at N'
  clear F N0 KX T hL
  dsimp only at F' X0 N' ⊢
  refine C_post fun Q' hQ => ?_
  refine C_execs_consA ?_
  (repeat (first | walk1 | (dsimp only; walk1)))
  dsimp only
  refine C_execs_consA ?_
  (repeat ((fail_if_success (with_reducible show wpAny _ _ (pyIter _) _ _ _)); first | walk1 | (dsimp only; walk1)))
  dsimp only
  walk1
  case pz => exact fun _ => true
  case d => exact fun x => PyData.str (menu x).text
  case g1 => (repeat (first | walk1 | (dsimp only; walk1)))
  case g2 =>
    dsimp only at *
    (repeat ((fail_if_success (with_reducible show wpAny _ _ (newTuple _) _ _ _)); first | walk1 | (dsimp only; walk1)))
    refine tuple_made (by assumption) (by rw [sizeLine_eq]; exact Nat.le_of_ble_eq_true rfl) fun ta hta FT kT hT => ?_
    (repeat ((fail_if_success (with_reducible show wpAny _ _ (subscriptTail _ _ _ _) _ _ _)); first | walk1 | (dsimp only; walk1)))
    exact menu_sub hT ⟨_, _, rfl, kT⟩
  case g3 =>
    (repeat ((fail_if_success (with_reducible show wpAny _ _ (binaryOp Operator.Add _ _) _ _ _)); first | walk1 | (dsimp only; walk1)))
    rename News _ _ _ _ => NA
    rename Fr _ _ _ _ => FA
    rename CarriedAll _ _ => CA
    have hys := (carried_at (by rw [List.filter_eq_self.mpr (fun _ _ => rfl)] at CA; exact CA)).1
    refine add_lists (vs := [_, _, _]) FA NA (News.isList NA (.tail _ (.head _))) (by assumption) (fun h2 F2 N2 => ?_) (by rw [hys, sizeLine_eq]; simp; omega)
    dsimp only
    (repeat (first | walk1 | (dsimp only; walk1)))
    dsimp only
    have hP := fun t1 t2 t3 => pcs_of (t1 := t1) (t2 := t2) (t3 := t3) CA
    have hlen3 : (lawPcs (List.take 10 ns)).length ≤ 100 := by rw [← (hP 0 0 0).1]; simp [hys]; omega
    clear CA
    refine C_execs_consA ?_
    (repeat ((fail_if_success (with_reducible show wpAny _ _ (call _ _ _) _ _ _)); first | walk1 | (dsimp only; walk1)))
    refine li_ok K' (by assumption) X' T' (by assumption) rfl rfl (by rw [hg]; exact fun _ h => nomatch h) (hP _ _ _) (Nat.le_trans (Nat.le_of_eq (hP _ _ _).1) hlen3) ?_
    intro h3 gs3 dr3 tk3 q3 ivals3 nq3 G3 F3 N3 hA3
    dsimp only
    (repeat (first | walk1 | (dsimp only; walk1)))
    dsimp only
    refine C_execs_cons (C_Assign_Name (C_Call_type0 (T := "bytearray") ?_))
    refine nameX_B (by assumption) X' (by k_asm) (by k_is) boot_ba (by decide) ?_ rfl rfl
    refine ⟨rfl, ?_⟩
    refine C_newBA (b := #[]) typeCall_ba0 newCall_ba0 (fun _ => args_ba_init0 _) (fun ha h => init0 ha h) ?_
    refine newBA_after (P := fun a s' => wpAny _ _ (storeName _ _ (.ref a)) _ _ s') (by assumption) (by assumption) fun st h4 tk4 F4 N4 hl4 => ?_
    dsimp only
    (repeat (first | walk1 | (dsimp only; walk1)))
    dsimp only
    rename News _ _ _ _ => NW
    rename Fr _ _ _ _ => FW
    refine C_mono (law_mid (Q := Q') (st := st) (q := q3) (one := ((ns.take 10).sum.fmod 2 == 1)) (ns := ns) rfl rfl K' X' T' C' G3 FW
      (News.put NW (.head _) (News.put NW (.tail _ (.head _)) (News.put NW (.tail _ (.tail _ (.head _))) (News.tl (News.tl (News.tl (News.tl (News.tl (News.tl NW)))))))))
      ((if_neg (by decide)).trans ((if_neg (by decide)).trans ((if_neg (by decide)).trans (if_pos rfl)))) ((if_neg (by decide)).trans (if_pos rfl)) (if_pos rfl) ((if_neg (by decide)).trans ((if_neg (by decide)).trans (if_pos rfl)))
      ((if_neg (by decide)).trans ((if_neg (by decide)).trans ((if_neg (by decide)).trans ((if_neg (by decide)).trans rfl)))) L' hI hc1 ⟨_, by assumption⟩ hA3 (hP _ _ _) ?_) (fun _ _ x => x) fun _ _ x => x
    intro h7 gs7 dr7 tk7 m7 ps7 F7 N7 G7
    refine hQ _ _ (goodWG_true KT (fun _ => rfl) F7 ⟨GrownAt.of N7 (.head _), trivial⟩ G7 rfl (law_post _))
end Mine
theorem PySem.Challenge.cw_in0260_01_holds : PySem.Challenge.rw_in0260_01.Holds := by
  exact Mine.lawx
