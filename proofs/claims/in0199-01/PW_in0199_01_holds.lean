import PyProof.Rows.All
import Wide.All
import OpenK.AllK
import Wide.FinOn
import PySem.Challenge.RW_in0199_01
open PySem PySem.W PyProof.Rows PySem.Spec PySem.Calls
open PySem.Sem (wp)
set_option Elab.async false
set_option maxRecDepth 100000
set_option compiler.extract_closed false

namespace Mine
/-! A judgement for what reads the stack: as wpAny, over the contexts on whose stack nothing holds a bytearray. -/
def heldIds : List String := ["bytearray.__contains__", "bytearray.__mod__", "bytearray.__rmod__", "_struct.pack_into.held", "bytearray.find.held"] ++ Builtin.Bytes.decodersThatHold
def noHold : Code → Bool
  | .builtin id _ => !heldIds.contains id
  | _ => true
def Still (l : List (Code × Pos)) : Prop := ∀ x ∈ l, noHold x.1 = true

def wpR {α : Type} (M : Model) (A : Around) (t : Sem α) (Q : α → Shared → Prop) (E : Value → Shared → Prop) (s : Shared) : Prop :=
  ∀ Γ p, Γ.In A → noHold Γ.code = true → Still Γ.below → wp M Γ t (fun a _ s' => Q a s') (fun e _ s' => E e s') p s
def codeR (M : Model) (A : Around) (c : Code) (R : Result → Shared → Prop) (s : Shared) : Prop :=
  ∀ Γ p, Γ.code = c → Γ.Below A → Still Γ.below → wpCode M Γ R p s

section
variable {α β : Type} {M : Model} {A : Around} {E : Value → Shared → Prop} {s : Shared}
theorem wpR_of {t : Sem α} {Q : α → Shared → Prop} (h : wpAny M A t Q E s) : wpR M A t Q E s := fun Γ p hΓ _ _ => h Γ p hΓ
theorem codeR_of {c : Code} {R : Result → Shared → Prop} (h : codeAny M A c R s) : codeR M A c R s := fun Γ p hc hΓ _ => h Γ p hc hΓ
theorem wpR_mono {t : Sem α} {Q Q' : α → Shared → Prop} {E' : Value → Shared → Prop} (h : wpR M A t Q E s) (hQ : ∀ a s, Q a s → Q' a s) (hE : ∀ e s, E e s → E' e s) : wpR M A t Q' E' s :=
  fun Γ p hΓ h1 h2 => Sem.wp_mono M Γ t (fun a _ s => hQ a s) (fun e _ s => hE e s) p s (h Γ p hΓ h1 h2)
theorem wpR_bind {m : Sem α} {f : α → Sem β} {Q : β → Shared → Prop} (h : wpR M A m (fun a s' => wpR M A (f a) Q E s') E s) : wpR M A (m >>= f) Q E s := fun Γ p hΓ h1 h2 => by
  rw [Sem.wp_bind']
  exact Sem.wp_mono M Γ m (fun a p' s' h' => h' Γ p' hΓ h1 h2) (fun _ _ _ h' => h') p s (h Γ p hΓ h1 h2)
theorem wpR_pure {a : α} {Q : α → Shared → Prop} (h : Q a s) : wpR M A (pure a) Q E s := wpR_of (wpAny_pure h)
theorem wpR_holding {vs : List Value} {m : Sem α} {Q : α → Shared → Prop} (h : wpR M A m Q E s) : wpR M A (holding vs m) Q E s :=
  fun Γ p hΓ h1 h2 => by rw [Sem.wp_holding]; exact h Γ p hΓ h1 h2
theorem wpR_onRaise {m : Sem α} {k : Value → Sem Unit} {Q : α → Shared → Prop}
    (h : wpR M A m Q (fun e s' => wpR M A (k e) (fun _ s'' => E e s'') E s') s) : wpR M A (m.onRaise k) Q E s := fun Γ p hΓ h1 h2 => by
  rw [Sem.wp_onRaise]
  exact Sem.wp_mono M Γ m (fun _ _ _ h' => h') (fun e p' s' h' => h' Γ p' hΓ h1 h2) p s (h Γ p hΓ h1 h2)
theorem wpR_run {c : Code} {h : Option Value} {Q : Flow → Shared → Prop}
    (hc : codeR M (A.mark h) c (fun r s' => match r with | .ok f => Q f s' | .error e => E e s') s) (hnb : h ≠ some byPass := by intro x; cases x) :
    wpR M A (run c h) Q E s :=
  fun Γ p hΓ h1 h2 => by
    rw [Sem.wp_run]
    exact hc _ p rfl (hΓ.enter c h p hnb) fun x hx => by
      rcases List.mem_cons.mp hx with rfl | hx
      · exact h1
      · exact h2 x hx
theorem wpR_runValue {c : Code} {Q : Value → Shared → Prop}
    (hc : codeR M A c (fun r s' => match r with | .ok (.ret v) => Q v s' | .ok _ => False | .error e => E e s') s) :
    wpR M A (runValue c) Q E s := fun Γ p hΓ h1 h2 => by
  rw [Sem.wp_runValue]
  exact hc _ p rfl (hΓ.enter c none p (by intro x; cases x)) fun x hx => by
    rcases List.mem_cons.mp hx with rfl | hx
    · exact h1
    · exact h2 x hx
theorem wpR_call {f : Value} {pos : List Value} {kw : List (Str × Value)} {Q : Value → Shared → Prop}
    (hc : codeR M A (.call f ⟨pos, kw⟩) (fun r s' => match r with | .ok (.ret v) => Q v s' | .ok _ => False | .error e => E e s') s) :
    wpR M A (call f pos kw) Q E s := wpR_runValue hc
theorem codeR_mono {c : Code} {R R' : Result → Shared → Prop} (h : codeR M A c R s) (hR : ∀ r s, R r s → R' r s) : codeR M A c R' s :=
  fun Γ p hc hΓ h1 => wpCode_mono hR (h Γ p hc hΓ h1)
theorem codeR_of_tree {c : Code} {R : Result → Shared → Prop} (hn : noHold c = true)
    (h : wpR M (A.under c) (M.den c) (fun fin s' => match fin with | .done f => R (.ok f) s' | .again c' => c'.quiet = true ∧ codeR M A c' R s')
      (fun e s' => R (.error e) s') s) : codeR M A c R s := fun Γ p hc hΓ h1 => by
  rw [wpCode_iff_wp, hc]
  refine Sem.wp_mono M Γ _ (fun fin p' s' h' => ?_) (fun _ _ _ h' => h') p s (h Γ p (hc ▸ hΓ.in) (hc ▸ hn) h1)
  cases fin with
  | done f => exact h'
  | again c' => exact ⟨h'.1, h'.2 (Γ.goto c') p' rfl (hΓ.goto c') h1⟩

theorem wpR_stack {Q : List (Code × Pos) → Shared → Prop} (h : ∀ st, Still st → Q st s) : wpR M A stack Q E s := fun Γ p _ h1 h2 => by
  show Q ((Γ.code, p) :: Γ.below) s
  exact h _ fun x hx => by
    rcases List.mem_cons.mp hx with rfl | hx
    · exact h1
    · exact h2 x hx
end

section
variable {prog : Program} {w : World} {A : Around} {R : Result → Shared → Prop} {s : Shared}
theorem codeR_builtin {id : String} {args : Args} {b : Builtin} (hn : heldIds.contains id = false) (hb : entryFor table id = some b)
    (h : wpR (model prog w) (A.under (.builtin id args)) (b args)
      (fun fin s' => match fin with | .done f => R (.ok f) s' | .again c' => c'.quiet = true ∧ codeR (model prog w) A c' R s') (fun e s' => R (.error e) s') s) :
    codeR (model prog w) A (.builtin id args) R s := by
  refine codeR_of_tree (by show (!heldIds.contains id) = true; rw [hn]; rfl) ?_
  show wpR _ _ (match entryFor table id with | some b => b args | none => unsupported ((withoutEnding? id "#data").getD id)) _ _ s
  rw [hb]; exact h
theorem codeR_call_builtin {id : String} {args : Args} {b : Builtin} (hn : heldIds.contains id = false) (hq : (Code.builtin id args).quiet = true) (hb : entryFor table id = some b)
    (h : wpAny (model prog w) A.in1 (checkBuiltinCall id args) (fun _ s₁ => wpR (model prog w) (A.under (.builtin id args)) (b args)
      (fun fin s' => match fin with | .done f => R (.ok f) s' | .again c' => c'.quiet = true ∧ codeR (model prog w) A c' R s') (fun e s' => R (.error e) s') s₁)
      (fun e s' => R (.error e) s') s) : codeR (model prog w) A (.call (.builtin id) args) R s := by
  refine codeR_of_tree rfl ?_
  show wpR _ A.in1 (do checkBuiltinCall id args; again (.builtin id args)) _ _ s
  exact wpR_bind (wpR_of (wpAny_mono h (fun _ s₁ h₁ => wpR_pure (And.intro hq (codeR_builtin hn hb h₁))) fun _ _ h' => h'))
theorem codeR_func {body : List Stmt} {env : Env}
    (h : wpR (model prog w) (A.deeper env) (execs body env) (fun f s' => R (.ok (.ret (match f with | .ret v => v | _ => .none))) s')
      (fun e s' => wpR (model prog w) (A.deeper env) (leaving env e) (fun _ s'' => R (.error e) s'') (fun e' s'' => R (.error e') s'') s') s) :
    codeR (model prog w) A (.func body env) R s := by
  refine codeR_of_tree rfl ?_
  show wpR _ (A.deeper env) (do point; match ← (execs body env).onRaise (leaving env) with | .ret v => ret v | _ => ret .none) _ _ s
  refine wpR_bind (wpR_of (wpAny_point (wpR_bind (wpR_onRaise (wpR_mono h (fun f s' h' => ?_) fun _ _ h' => h')))))
  cases f <;> exact wpR_pure h'
theorem codeR_call_function {a : Addr} {args : Args} {o : Obj} {fd : FuncData} {body : List Stmt} (hroom : A.depth < recursionLimit)
    (ho : s.heap.get? a = some o)
    (hd' : o.data = .func fd) (hco : fd.scope.isCoroutine = false) (hgen : fd.scope.isGenerator = false) (hbody : fd.body = .stmts body) (hcd : s.heap.CodeRec fd.code fd.qualname)
    (h : wpAny (model prog w) A.in1 (bindArgs fd args) (fun binds s₁ =>
      wpAny (model prog w) A.in1 (newFunctionEnv fd.scope fd.globals fd.closure binds (fd.qualname ++ ".<locals>.") (some a) fd.code none fd.builtins)
        (fun env s₂ => s₂.heap.NoLimit ∧ codeR (model prog w) A (.func body env) R s₂) (fun e s' => R (.error e) s') s₁) (fun e s' => R (.error e) s') s) :
    codeR (model prog w) A (.call (.ref a) args) R s := by
  refine codeR_of_tree rfl ?_
  show wpR _ A.in1 (callAny (.ref a) args) _ _ s
  simp only [callAny]
  refine wpR_of ?_
  refine wpAny_bind (wpAny_load ho ?_)
  obtain ⟨c, oc, vs, tq, hc, hoc, hdc, hq⟩ := hcd
  simp only [hd', callFunction, hco, hgen, hbody, hc]
  rw [hc] at h
  refine wpAny_bind (m := field (.ref c) 1) (wpAny_field hoc hdc hq (wpAny_bind (wpAny_pure ?_)))
  exact wpAny_bind (wpAny_mono h (fun binds s₁ h₁ => wpAny_bind (wpAny_mono h₁ (fun env s₂ h₂ => wpAny_bind (wpAny_enterFrame h₂.1 hroom
    (wpAny_pure (And.intro rfl h₂.2)))) fun _ _ h' => h')) fun _ _ h' => h')
end

section
variable {prog : Program} {w : World} {A₀ A : Around} {s : Shared} {base h₀ : Heap} {outer : List Env} {L : Addr} {m mg mb : Str → Option Value} {env : Env} {news : List (Addr × Obj)} {K : Frag} {p : Program} {loose : List Str} {mean : ExcName → Option Value}
  {R : Result → Shared → Prop} {name qual : Str} {params : Arguments} {body : List Stmt} {scope : Scope} {dV kV doc pm cdv ct oc : Value} {an od : Option Addr} {osl : Array (Option Value)} {f : Addr} {args : Args} {binds : List (Str × Value)}
/-- a def of the written part is entered (as the library's code_def, at the restricted judgement) -/
theorem codeR_def (B : Below A₀ base outer h₀) (F : Fr h₀ L s.heap m) (X₀ : K.In h₀) (N : News h₀ L s.heap news) (T : Top p loose mean mg mb h₀) (hA : A.frames = some (env :: outer)) (hf : env.frame = some L) (hke : env.scope.kind = .function)
    (ho : K.lookup f = some ⟨oc, od, .func (fnOf name qual params body scope dV kV doc pm an cdv ct), osl⟩) (hcd : codeIn K cdv qual = true) (hroom : A.depth < recursionLimit)
    (hbind : BindsTo s (fnOf name qual params body scope dV kV doc pm an cdv ct) args binds) (hloc : ∀ y ∈ binds, scope.names.lookup y.1 = some .local)
    (h : ∀ g L' h₁, Fr h₀ L g m → Fr g L' h₁ (fun y => binds.reverse.lookup y) → News g L' h₁ news → Below A base (env :: outer) g → K.In g → Top p loose mean mg mb g →
      wpR (model prog w) (A.deeper (envOf qual scope L' f cdv)) (execs body (envOf qual scope L' f cdv))
        (fun fl s' => LeaveK h₀ L m g R (match fl with | .ret v => v | _ => .none) s')
        (fun e s' => wpR (model prog w) (A.deeper (envOf qual scope L' f cdv)) (leaving (envOf qual scope L' f cdv) e) (fun _ s'' => R (.error e) s'') (fun e' s'' => R (.error e') s'') s')
        { s with heap := h₁, toks := s.toks + binds.length })
    (hco : scope.isCoroutine = false) (hgen : scope.isGenerator = false) (hk : scope.kind = .function)
    (hcell : ∀ x ∈ scope.names, x.2 ≠ .cell) : codeR (model prog w) A (.call (.ref f) args) R s := by
  obtain ⟨FG, BG, st, lv⟩ := groundX (R := R) B F N hA hf hke
  refine codeR_call_function (fd := fnOf name qual params body scope dV kV doc pm an cdv ct) (body := body) hroom ((X₀.keeps F.keep) _ _ ho) rfl hco hgen rfl (codeRec_of (X₀.keeps F.keep) hcd) (hbind _ _ _ _ ?_)
  refine wpAny_newFunctionEnv hcell hloc (fun h₁ hns hsb => ⟨(T.nolimit.keeps F.keep).fresh _ hsb, codeR_func ?_⟩) hk
  have hk₁ : ∀ b o, s.heap.get? b = some o → h₁.get? b = some o := fun b o e => hsb.extBut b o (Nat.ne_of_lt (Heap.lt_size e)) (Heap.get?_push_of_some _ e)
  exact wpR_mono (h _ s.heap.objs.size h₁ FG ⟨hns, fun b o e => hk₁ b o (of_hideAll _ e), Nat.le_of_eq (hideAll_size _ _)⟩
    (fun p hp => ⟨hk₁ _ _ (N p hp).1, Nat.ne_of_lt (Heap.lt_size (N p hp).1), hideAll_none _ (List.mem_map_of_mem hp)⟩) BG (X₀.keeps st) (T.keeps st)) (fun fl s' hl => lv _ _ hl) fun _ _ y => y
end
end Mine

namespace Mine
abbrev caller0 : PySem.Ctx := ⟨.builtin "claim.caller" {}, none, none, [], none⟩
theorem caller_still : noHold caller0.code = true := by decide +kernel

/-- what the law's walk has to show: as WalkO, at the restricted judgement -/
abbrev WalkR (q : Program) (loose : List Str) (XP : (Str → Option Value) → Heap → Prop) (YP : World → Heap → Prop) (r : RowW) (d : DefRec) (kwd : List (Str × Expr)) : Prop :=
  ∀ (w : World) (s₀ s₁ : Shared) (mg mb : Str → Option Value), Ground q loose r.records XP w s₀ mg mb s₁.heap → YP w s₁.heap → ∀ (a : Addr) (o : Obj) (pm cd doc dV kV : Value), s₁.heap.get? a = some o →
    o.data = .func { docDef d.name d.params d.body d.scope pm cd doc with defaults := dV, kwdefaults := kV } → s₁.heap.CodeRec cd d.name → Dflts mg s₁.heap d.params kwd dV kV → mg d.name = some (.ref a) → s₁.gens = #[] →
    ∀ (args : List WData) (vals : List Value) (as : List Addr), r.claim.pre args = true → WData.layableAll args = true → ReadsAllW r.records (classAt s₀.heap) s₁.heap vals args as → WellAll w.params s₁.heap vals args → (∀ a ∈ as, (a == sysModules) = false) →
      wpR (model r.prog w) callerA (call (.ref a) vals) (fun v s' => GoodWG r.claim (classAt s₀.heap) (ExcName.means s₀.heap) args s₁ (.ok (.ret v)) s')
        (fun e s' => GoodWG r.claim (classAt s₀.heap) (ExcName.means s₀.heap) args s₁ (.error e) s') s₁

theorem thread_endsR {prog : Program} {w : World} {t : Sem Fin} {s : Shared} {R : Result → Shared → Prop} (hreg : s.asleep)
    (h : wpR (model prog w) callerA t (fun fin s' => ∃ f, fin = .done f ∧ (R (.ok f) s' ∧ leftWithCleanup s'.gens = false)) (fun e s' => R (.error e) s' ∧ leftWithCleanup s'.gens = false) s) :
    ∃ n r s' s'', runN (denote table) prog w n s ⟨t, .builtin "claim.caller" {}, default, []⟩ = .halted (outcomeOf r) s' ∧
      schedN (denote table) prog w n (.single s ⟨t, .builtin "claim.caller" {}, default, []⟩) = .halted (outcomeOf r) s' ∧ s'.forget = s''.forget ∧ R r s'' := by
  have h0 := h caller0 default caller_in caller_still (fun _ hx => nomatch hx)
  obtain ⟨n, r, s₁, s₂, hs, hn, hfo, hR⟩ := wp_halts_full (M := model prog w) (R := R) (t := t) (c := .builtin "claim.caller" {}) hreg
    (Sem.wp_mono _ _ _ (fun fin p1 s3 (h1 : ∃ f, fin = Fin.done f ∧ (R (.ok f) s3 ∧ leftWithCleanup s3.gens = false)) => by obtain ⟨f, rfl, hf⟩ := h1; exact hf) (fun _ _ _ h1 => h1) _ _ h0)
  exact ⟨n, r, s₂, s₁, hn, hs, hfo, hR⟩

theorem callFromR {c : ClaimW} {tree : List Value → Sem Fin} {w : World} {s : Shared} {free : Addr → Prop} {gens : Prop} {kept : Heap → Prop} (hz : s.asleep) (hgens : s.gens = #[])
    (hspec : ∀ args, c.pre args = true → WData.layableAll args = true →
      ∀ ord : List DictEntry → List DictEntry, (∀ l, (ord l).Perm l) →
      ∃ vs s₁, layAllW c.records (classAt s.heap) w.params ord args s = some (vs, s₁) ∧
        wpR (model c.prog w) callerA (tree vs) (fun fin s' => ∃ f, fin = .done f ∧ (c.Ends s args vs s₁ (.ok f) s' ∧ s'.os = s.os ∧ AllBare s'.gens ∧ kept s'.heap))
          (fun e s' => c.Ends s args vs s₁ (.error e) s' ∧ s'.os = s.os ∧ AllBare s'.gens ∧ kept s'.heap) s₁) :
    c.CallFrom (fun vs => ⟨tree vs, .builtin "claim.caller" {}, default, []⟩) w free gens kept s := by
  intro args hpre hlay ord hord
  obtain ⟨vs, s₁, hlaid, hcode⟩ := hspec args hpre hlay ord hord
  have hal := layAllW_rest _ _ _ hlaid
  obtain ⟨k, r, s', s'', hrun, hsched, hfo, hcase, hos, hkp⟩ := thread_endsR (prog := c.prog) (w := w) (t := tree vs) (s := s₁)
    (R := fun r s' => c.Ends s args vs s₁ r s' ∧ s'.os = s.os ∧ kept s'.heap) (Shared.asleep_of_life hal.2.2.2 hz)
    (wpR_mono hcode (fun _ _ ⟨f, e, h1, h2, h3, h4⟩ => ⟨f, e, ⟨h1, h2, h4⟩, leftWithCleanup_false_of_bare h3⟩) fun _ _ ⟨h1, h2, h3, h4⟩ => ⟨⟨h1, h2, h4⟩, leftWithCleanup_false_of_bare h3⟩)
  obtain ⟨eh, _, _, eo, _⟩ := Shared.forget_eq hfo
  have hcase := hcase.congr eh
  rw [← eh] at hkp
  rw [← eo] at hos
  have hlife : s'.heap.life = s.heap.life := (runN_life _ _ _ hrun).trans hal.2.2.2
  refine ⟨vs, s₁, hlaid, k, _, s', hsched, ?_, (fun _ i x hx => by rw [hgens] at hx; simp at hx), hkp, by rw [hlife], Shared.rest_eq hos⟩
  rcases hcase with ⟨v, rfl, d1, d2, d3, d4, d5⟩ | ⟨e, ob, cls, rfl, d1, d2, d3, d4, d5⟩
  · exact .inl ⟨v, rfl, d1, d2, d3, fun b o y _ => d4 b o y, d5⟩
  · exact .inr ⟨e, ob, cls, rfl, d1, d2, d3, d4, fun b o y _ => d5 b o y⟩

namespace PySem.W
/-- the head of an open law, its walk at the restricted judgement -/
theorem holds_open {r : OpenRow} {q : Program} {loose : List Str} {Xt : Shared → Bool} {XP : (Str → Option Value) → Heap → Prop} {α : Type} {Yf : Shared → α} {Ya : World → α} {YP : World → Heap → Prop} {d : DefRec} {kwd : List (Str × Expr)} {N : Nat}
    (left : LeftO r.prog q loose Xt Yf Ya N) (hY : ∀ w s, Yf s = Ya w → YP w s.heap) (hYk : ∀ w h h', YP w h → (∀ b o, h.get? b = some o → h'.get? b = some o) → YP w h')
    (hX : ∀ s, Xt s = true → XP (s.heap.nsMap mainGlobals) s.heap) (hXk : ∀ mg h h', XP mg h → (∀ b o, h.get? b = some o → h'.get? b = some o) → XP mg h')
    (hdef : defOf q r.name = some (d, kwd)) (hp : r.prog.theDef r.name = some (d.params, d.body, d.scope)) (hk : kwWritten? d.params.kwonlyargs d.params.kw_defaults = some kwd) (hRf : ∀ s, Xt s = true → RecFacts r.records s.heap) (hwr : (!r.writes || r.records.isEmpty) = true)
    (k1 : r.wellSaid = true) (ok : (chainsOk q && opensWell r.prog && (frees r.toRowW && r.within.isEmpty)) = true) (hb : r.prog.bare) (hw : r.toRowW.promised)
    (call : WalkR q loose XP YP r.toRowW d kwd) : r.Holds := by
  refine ⟨k1, hw, ?_⟩
  obtain ⟨ok, k5⟩ := Bool.and_eq_true_iff.mp ok
  obtain ⟨hch, o1⟩ := Bool.and_eq_true_iff.mp ok
  obtain ⟨k5, k6⟩ := Bool.and_eq_true_iff.mp k5
  obtain ⟨hsame, hu, ha, hap, hm⟩ := frees_parts k5
  refine ⟨⟨hb, o1, by show r.makers.map _ = []; rw [hm]; rfl⟩, hw.witness, fun w => ⟨(left.behind hX hch w).1, fun s' hs' => ?_⟩⟩
  obtain ⟨s₀, hf, hg0, s, hT, hz, hgens, hg, G00, y⟩ := (left.behind (XP := fun mg h => XP mg h ∧ RecFacts r.records h) (fun s hs => ⟨hX s hs, hRf s hs⟩) hch w).2 s' hs'
  have G0 : Ground q loose [] XP w s (s.heap.nsMap mainGlobals) (s.heap.nsMap builtinsNs) s.heap := ⟨G00.T, G00.B, G00.D, G00.TE, G00.TD, G00.W, G00.X.1, G00.cls, G00.has, G00.apart, G00.once, G00.K⟩
  have RF := G00.X.2
  have hT' := hT
  refine ⟨s₀, hf, hg0, s, hT, fun n hn => ?_, RF.1, RF.2.1, ?_⟩
  · obtain rfl : n = r.name := by split at hn <;> simp_all
    exact pinned_of_view hg G0 hdef hp hk
  have hgens : s.gens = #[] := Array.eq_empty_of_size_eq_zero (beq_iff_eq.mp hgens)
  have G : Ground q loose r.records XP w s _ _ s.heap := RF.ground G0
  refine callFromR (c := r.toRowW.claim) (tree := fun vs => do match ← nsGet mainNs r.name with
      | some f => do ret (← PySem.call f vs)
      | none => unsupported "claim.caller:no-such-global") hz hgens fun args hpre hlay ord hord => ?_
  obtain ⟨⟨vs, s₁⟩, hlaid⟩ := Option.isSome_iff_exists.mp (layAllW_isSome (P := w.params) (ord := ord) G.has args r.args s (pre_splitW hpre).1)
  have keeps := layAllW_keeps _ _ _ hlaid
  have hal := layAllW_rest _ _ _ hlaid
  obtain ⟨as, hrd, hin, hold⟩ := reads_layAllW hord _ _ _ hlaid hlay s₁.heap (fun _ _ e => e)
  have L : Laid r.records w s s₁ args vs as := ⟨⟨ord, hord, hlaid⟩, hrd, hin, hold, keeps, hal.1.trans hgens, hal.2.2.1⟩
  have G₁ := G.keeps hXk keeps
  have hi := ident_freeW hu ha hap
  have hwi : r.toRowW.claim.within = [] := List.isEmpty_iff.mp k6
  obtain ⟨a, o, pm, cd, doc, dV, kV, h1, h2, h3, h4, h5⟩ := G₁.fn hdef
  have hn := defOf_name hdef
  have h := call w s s₁ _ _ G₁ (hYk _ _ _ (hY w s y) keeps) a o pm cd doc dV kV h2 h3 h4 h5 (hn ▸ h1) L.gens args vs as hpre hlay L.reads L.well (L.low G.low)
  refine ⟨vs, s₁, hlaid, wpR_bind (wpR_of (wpAny_nsGet G₁.T.g ?_))⟩
  rw [h1]
  exact wpR_bind (wpR_mono h (fun v s' g => wpR_pure ⟨_, rfl, have z := g.laid (c := r.toRowW.claim) hsame hwi hi L; ⟨z.1, z.2.1, z.2.2, fun q => ⟨namesKept_of hT' hg r.keeps keeps g.2.1.old, noTable hwr q⟩⟩⟩)
    fun e s' g => have z := g.laid (c := r.toRowW.claim) hsame hwi hi L; ⟨z.1, z.2.1, z.2.2, fun q => ⟨namesKept_of hT' hg r.keeps keeps g.2.1.old, noTable hwr q⟩⟩)
end PySem.W
end Mine

namespace Mine
open PySem PySem.W
/-- the statement at a path through the text's classes -/
def stmtAt : List Nat → List PySem.Stmt → Option PySem.Stmt
  | [], _ => none
  | [i], b => b[i]?
  | i :: r, b => match b[i]? with
    | some (.ClassDef _ _ _ body _ _ _ _ _ _ _) => stmtAt r body
    | _ => none
/-- what a def's statement says: its parameters, its body, its names -/
def defnAt (p : List Nat) : Option (PySem.Arguments × List PySem.Stmt × PySem.Scope) := match stmtAt p PySem.Challenge.rw_in0199_01.row.prog.main.body with
  | some (.FunctionDef _ ps b _ _ _ sc _ _ _) => some (ps, b, sc)
  | _ => none
set_option maxHeartbeats 20000000 in
/-- the objects that the top leaves (without the text class's methods) -/
noncomputable def K : Params → Frag := fun P =>
  (nat_lit 2, { cls := PySem.Value.none, data := PySem.Data.dict #[{ hash := PySem.PyData.keyHash P (PySem.Str.ofString "type.__subclasses__.OSError.0"), key := PySem.Value.str (PySem.Str.ofString "type.__subclasses__.OSError.0") 258, val := PySem.Value.int 66 0 }, { hash := PySem.PyData.keyHash P (PySem.Str.ofString "type.__subclasses__.OSError.n"), key := PySem.Value.str (PySem.Str.ofString "type.__subclasses__.OSError.n") 259, val := PySem.Value.int 1 0 }] 2 }) ::
  (nat_lit 3, { cls := PySem.Value.type "dict", data := PySem.Data.dict #[{ hash := PySem.PyData.keyHash P (PySem.Str.ofString "__name__"), key := PySem.Value.str (PySem.Str.ofString "__name__") 165, val := PySem.Value.str (PySem.Str.ofString "law_in0199_01") 901 }, { hash := PySem.PyData.keyHash P (PySem.Str.ofString "__doc__"), key := PySem.Value.str (PySem.Str.ofString "__doc__") 166, val := PySem.Value.none }, { hash := PySem.PyData.keyHash P (PySem.Str.ofString "__package__"), key := PySem.Value.str (PySem.Str.ofString "__package__") 167, val := PySem.Value.none }, { hash := PySem.PyData.keyHash P (PySem.Str.ofString "__loader__"), key := PySem.Value.str (PySem.Str.ofString "__loader__") 168, val := PySem.Value.builtin "__main__.__loader__#opaque" }, { hash := PySem.PyData.keyHash P (PySem.Str.ofString "__spec__"), key := PySem.Value.str (PySem.Str.ofString "__spec__") 169, val := PySem.Value.none }, { hash := PySem.PyData.keyHash P (PySem.Str.ofString "__annotations__"), key := PySem.Value.str (PySem.Str.ofString "__annotations__") 170, val := PySem.Value.ref 6 }, { hash := PySem.PyData.keyHash P (PySem.Str.ofString "__builtins__"), key := PySem.Value.str (PySem.Str.ofString "__builtins__") 171, val := PySem.Value.ref 4 }, { hash := PySem.PyData.keyHash P (PySem.Str.ofString "__file__"), key := PySem.Value.str (PySem.Str.ofString "__file__") 173, val := PySem.Value.str (PySem.Str.ofString "/claim/cut.py") 172 }, { hash := PySem.PyData.keyHash P (PySem.Str.ofString "__cached__"), key := PySem.Value.str (PySem.Str.ofString "__cached__") 174, val := PySem.Value.none }, { hash := PySem.PyData.keyHash P (PySem.Str.ofString "_wall"), key := PySem.Value.str (PySem.Str.ofString "_wall") 193, val := PySem.Value.ref 21 }, { hash := PySem.PyData.keyHash P (PySem.Str.ofString "read_uint1"), key := PySem.Value.str (PySem.Str.ofString "read_uint1") 203, val := PySem.Value.ref 28 }, { hash := PySem.PyData.keyHash P (PySem.Str.ofString "read_bytes1"), key := PySem.Value.str (PySem.Str.ofString "read_bytes1") 212, val := PySem.Value.ref 35 }, { hash := PySem.PyData.keyHash P (PySem.Str.ofString "decode_long"), key := PySem.Value.str (PySem.Str.ofString "decode_long") 221, val := PySem.Value.ref 42 }, { hash := PySem.PyData.keyHash P (PySem.Str.ofString "_whence"), key := PySem.Value.str (PySem.Str.ofString "_whence") 231, val := PySem.Value.ref 49 }, { hash := PySem.PyData.keyHash P (PySem.Str.ofString "_index"), key := PySem.Value.str (PySem.Str.ofString "_index") 239, val := PySem.Value.ref 56 }, { hash := PySem.PyData.keyHash P (PySem.Str.ofString "UnsupportedOperation"), key := PySem.Value.str (PySem.Str.ofString "UnsupportedOperation") 261, val := PySem.Value.ref 66 }, { hash := PySem.PyData.keyHash P (PySem.Str.ofString "IOBase"), key := PySem.Value.str (PySem.Str.ofString "IOBase") 293, val := PySem.Value.ref 86 }, { hash := PySem.PyData.keyHash P (PySem.Str.ofString "BufferedIOBase"), key := PySem.Value.str (PySem.Str.ofString "BufferedIOBase") 311, val := PySem.Value.ref 101 }, { hash := PySem.PyData.keyHash P (PySem.Str.ofString "TextIOBase"), key := PySem.Value.str (PySem.Str.ofString "TextIOBase") 329, val := PySem.Value.ref 113 }, { hash := PySem.PyData.keyHash P (PySem.Str.ofString "BytesIO"), key := PySem.Value.str (PySem.Str.ofString "BytesIO") 591, val := PySem.Value.ref 343 }, { hash := PySem.PyData.keyHash P (PySem.Str.ofString "StringIO"), key := PySem.Value.str (PySem.Str.ofString "StringIO") 878, val := PySem.Value.ref 590 }, { hash := PySem.PyData.keyHash P (PySem.Str.ofString "read_long1"), key := PySem.Value.str (PySem.Str.ofString "read_long1") 889, val := PySem.Value.ref 599 }, { hash := PySem.PyData.keyHash P (PySem.Str.ofString "encode_long"), key := PySem.Value.str (PySem.Str.ofString "encode_long") 900, val := PySem.Value.ref 606 }, { hash := PySem.PyData.keyHash P (PySem.Str.ofString "_law_octets"), key := PySem.Value.str (PySem.Str.ofString "_law_octets") 914, val := PySem.Value.ref 613 }, { hash := PySem.PyData.keyHash P (PySem.Str.ofString "_law_items"), key := PySem.Value.str (PySem.Str.ofString "_law_items") 923, val := PySem.Value.ref 620 }, { hash := PySem.PyData.keyHash P (PySem.Str.ofString "_law_number"), key := PySem.Value.str (PySem.Str.ofString "_law_number") 932, val := PySem.Value.ref 627 }, { hash := PySem.PyData.keyHash P (PySem.Str.ofString "_law_least"), key := PySem.Value.str (PySem.Str.ofString "_law_least") 941, val := PySem.Value.ref 634 }, { hash := PySem.PyData.keyHash P (PySem.Str.ofString "_law_long"), key := PySem.Value.str (PySem.Str.ofString "_law_long") 949, val := PySem.Value.ref 641 }, { hash := PySem.PyData.keyHash P (PySem.Str.ofString "_law_plain"), key := PySem.Value.str (PySem.Str.ofString "_law_plain") 957, val := PySem.Value.ref 648 }, { hash := PySem.PyData.keyHash P (PySem.Str.ofString "law"), key := PySem.Value.str (PySem.Str.ofString "law") 980, val := PySem.Value.ref 655 }] 30 }) ::
  (nat_lit 15, { cls := PySem.Value.type "tuple", data := PySem.Data.seq #[] }) ::
  (nat_lit 17, { cls := PySem.Value.type "tuple", data := PySem.Data.seq #[PySem.Value.str (PySem.Str.ofString "k") 190] }) ::
  (nat_lit 18, { cls := PySem.Value.type "tuple", data := PySem.Data.seq #[] }) ::
  (nat_lit 20, { cls := PySem.Value.type "code", data := PySem.Data.fields #[PySem.Value.str (PySem.Str.ofString "_wall") 187, PySem.Value.str (PySem.Str.ofString "_wall") 188, PySem.Value.str (PySem.Str.ofString "/claim/cut.py") 189, PySem.Value.int 1 0, PySem.Value.int 1 0, PySem.Value.int 0 0, PySem.Value.int 0 0, PySem.Value.int 3 0, PySem.Value.ref 15, PySem.Value.bool Bool.true, PySem.Value.int 181 0, PySem.Value.ref 16, PySem.Value.none, PySem.Value.ref 17, PySem.Value.ref 18, PySem.Value.ref 19, PySem.Value.int 191 0, PySem.Value.int 1 0, PySem.Value.str (PySem.Str.ofString "/claim/cut.py") 192] }) ::
  (nat_lit 21, ⟨PySem.Value.type "function", Option.none, .func (by refine' (?f : ∀ (ps : PySem.Arguments) (b : List PySem.Stmt) (sc : PySem.Scope), Mine.defnAt [0] = some (ps, b, sc) → PySem.FuncData) _ _ _ ?pf; (case pf => rfl); (case f => exact fun ps b sc _ => ⟨PySem.Str.ofString "_wall", PySem.Str.ofString "_wall", ps, .stmts b, sc, (3), ([]), (PySem.Value.none), (PySem.Value.none), (PySem.Value.none), (PySem.Value.str (PySem.Str.ofString "__main__") 164), (Option.none), (PySem.Value.ref 20), (PySem.Value.none), (0)⟩)), #[]⟩) ::
  (nat_lit 22, { cls := PySem.Value.type "tuple", data := PySem.Data.seq #[] }) ::
  (nat_lit 24, { cls := PySem.Value.type "tuple", data := PySem.Data.seq #[PySem.Value.str (PySem.Str.ofString "f") 199, PySem.Value.str (PySem.Str.ofString "data") 200] }) ::
  (nat_lit 25, { cls := PySem.Value.type "tuple", data := PySem.Data.seq #[] }) ::
  (nat_lit 27, { cls := PySem.Value.type "code", data := PySem.Data.fields #[PySem.Value.str (PySem.Str.ofString "read_uint1") 196, PySem.Value.str (PySem.Str.ofString "read_uint1") 197, PySem.Value.str (PySem.Str.ofString "/claim/cut.py") 198, PySem.Value.int 5 0, PySem.Value.int 1 0, PySem.Value.int 0 0, PySem.Value.int 0 0, PySem.Value.int 3 0, PySem.Value.ref 22, PySem.Value.bool Bool.true, PySem.Value.int 181 0, PySem.Value.ref 23, PySem.Value.none, PySem.Value.ref 24, PySem.Value.ref 25, PySem.Value.ref 26, PySem.Value.int 201 0, PySem.Value.int 5 0, PySem.Value.str (PySem.Str.ofString "/claim/cut.py") 202] }) ::
  (nat_lit 28, ⟨PySem.Value.type "function", Option.none, .func (by refine' (?f : ∀ (ps : PySem.Arguments) (b : List PySem.Stmt) (sc : PySem.Scope), Mine.defnAt [2] = some (ps, b, sc) → PySem.FuncData) _ _ _ ?pf; (case pf => rfl); (case f => exact fun ps b sc _ => ⟨PySem.Str.ofString "read_uint1", PySem.Str.ofString "read_uint1", ps, .stmts b, sc, (3), ([]), (PySem.Value.none), (PySem.Value.none), (PySem.Value.none), (PySem.Value.str (PySem.Str.ofString "cpy313.pickletools") 194), (Option.none), (PySem.Value.ref 27), (PySem.Value.none), (0)⟩)), #[]⟩) ::
  (nat_lit 29, { cls := PySem.Value.type "tuple", data := PySem.Data.seq #[] }) ::
  (nat_lit 31, { cls := PySem.Value.type "tuple", data := PySem.Data.seq #[PySem.Value.str (PySem.Str.ofString "f") 207, PySem.Value.str (PySem.Str.ofString "n") 208, PySem.Value.str (PySem.Str.ofString "data") 209] }) ::
  (nat_lit 32, { cls := PySem.Value.type "tuple", data := PySem.Data.seq #[] }) ::
  (nat_lit 34, { cls := PySem.Value.type "code", data := PySem.Data.fields #[PySem.Value.str (PySem.Str.ofString "read_bytes1") 204, PySem.Value.str (PySem.Str.ofString "read_bytes1") 205, PySem.Value.str (PySem.Str.ofString "/claim/cut.py") 206, PySem.Value.int 10 0, PySem.Value.int 1 0, PySem.Value.int 0 0, PySem.Value.int 0 0, PySem.Value.int 3 0, PySem.Value.ref 29, PySem.Value.bool Bool.true, PySem.Value.int 181 0, PySem.Value.ref 30, PySem.Value.none, PySem.Value.ref 31, PySem.Value.ref 32, PySem.Value.ref 33, PySem.Value.int 210 0, PySem.Value.int 10 0, PySem.Value.str (PySem.Str.ofString "/claim/cut.py") 211] }) ::
  (nat_lit 35, ⟨PySem.Value.type "function", Option.none, .func (by refine' (?f : ∀ (ps : PySem.Arguments) (b : List PySem.Stmt) (sc : PySem.Scope), Mine.defnAt [3] = some (ps, b, sc) → PySem.FuncData) _ _ _ ?pf; (case pf => rfl); (case f => exact fun ps b sc _ => ⟨PySem.Str.ofString "read_bytes1", PySem.Str.ofString "read_bytes1", ps, .stmts b, sc, (3), ([]), (PySem.Value.none), (PySem.Value.none), (PySem.Value.none), (PySem.Value.str (PySem.Str.ofString "cpy313.pickletools") 194), (Option.none), (PySem.Value.ref 34), (PySem.Value.none), (0)⟩)), #[]⟩) ::
  (nat_lit 36, { cls := PySem.Value.type "tuple", data := PySem.Data.seq #[] }) ::
  (nat_lit 38, { cls := PySem.Value.type "tuple", data := PySem.Data.seq #[PySem.Value.str (PySem.Str.ofString "data") 218] }) ::
  (nat_lit 39, { cls := PySem.Value.type "tuple", data := PySem.Data.seq #[] }) ::
  (nat_lit 41, { cls := PySem.Value.type "code", data := PySem.Data.fields #[PySem.Value.str (PySem.Str.ofString "decode_long") 215, PySem.Value.str (PySem.Str.ofString "decode_long") 216, PySem.Value.str (PySem.Str.ofString "/claim/cut.py") 217, PySem.Value.int 18 0, PySem.Value.int 1 0, PySem.Value.int 0 0, PySem.Value.int 0 0, PySem.Value.int 3 0, PySem.Value.ref 36, PySem.Value.bool Bool.true, PySem.Value.int 181 0, PySem.Value.ref 37, PySem.Value.none, PySem.Value.ref 38, PySem.Value.ref 39, PySem.Value.ref 40, PySem.Value.int 219 0, PySem.Value.int 18 0, PySem.Value.str (PySem.Str.ofString "/claim/cut.py") 220] }) ::
  (nat_lit 42, ⟨PySem.Value.type "function", Option.none, .func (by refine' (?f : ∀ (ps : PySem.Arguments) (b : List PySem.Stmt) (sc : PySem.Scope), Mine.defnAt [5] = some (ps, b, sc) → PySem.FuncData) _ _ _ ?pf; (case pf => rfl); (case f => exact fun ps b sc _ => ⟨PySem.Str.ofString "decode_long", PySem.Str.ofString "decode_long", ps, .stmts b, sc, (3), ([]), (PySem.Value.none), (PySem.Value.none), (PySem.Value.none), (PySem.Value.str (PySem.Str.ofString "pickle") 213), (Option.none), (PySem.Value.ref 41), (PySem.Value.none), (0)⟩)), #[]⟩) ::
  (nat_lit 43, { cls := PySem.Value.type "tuple", data := PySem.Data.seq #[] }) ::
  (nat_lit 45, { cls := PySem.Value.type "tuple", data := PySem.Data.seq #[PySem.Value.str (PySem.Str.ofString "n") 227, PySem.Value.str (PySem.Str.ofString "what") 228] }) ::
  (nat_lit 46, { cls := PySem.Value.type "tuple", data := PySem.Data.seq #[] }) ::
  (nat_lit 48, { cls := PySem.Value.type "code", data := PySem.Data.fields #[PySem.Value.str (PySem.Str.ofString "_whence") 224, PySem.Value.str (PySem.Str.ofString "_whence") 225, PySem.Value.str (PySem.Str.ofString "/claim/cut.py") 226, PySem.Value.int 21 0, PySem.Value.int 2 0, PySem.Value.int 0 0, PySem.Value.int 0 0, PySem.Value.int 3 0, PySem.Value.ref 43, PySem.Value.bool Bool.true, PySem.Value.int 181 0, PySem.Value.ref 44, PySem.Value.none, PySem.Value.ref 45, PySem.Value.ref 46, PySem.Value.ref 47, PySem.Value.int 229 0, PySem.Value.int 21 0, PySem.Value.str (PySem.Str.ofString "/claim/cut.py") 230] }) ::
  (nat_lit 49, ⟨PySem.Value.type "function", Option.none, .func (by refine' (?f : ∀ (ps : PySem.Arguments) (b : List PySem.Stmt) (sc : PySem.Scope), Mine.defnAt [7] = some (ps, b, sc) → PySem.FuncData) _ _ _ ?pf; (case pf => rfl); (case f => exact fun ps b sc _ => ⟨PySem.Str.ofString "_whence", PySem.Str.ofString "_whence", ps, .stmts b, sc, (3), ([]), (PySem.Value.none), (PySem.Value.none), (PySem.Value.none), (PySem.Value.str (PySem.Str.ofString "io") 222), (Option.none), (PySem.Value.ref 48), (PySem.Value.none), (0)⟩)), #[]⟩) ::
  (nat_lit 50, { cls := PySem.Value.type "tuple", data := PySem.Data.seq #[] }) ::
  (nat_lit 52, { cls := PySem.Value.type "tuple", data := PySem.Data.seq #[PySem.Value.str (PySem.Str.ofString "n") 235, PySem.Value.str (PySem.Str.ofString "what") 236] }) ::
  (nat_lit 53, { cls := PySem.Value.type "tuple", data := PySem.Data.seq #[] }) ::
  (nat_lit 55, { cls := PySem.Value.type "code", data := PySem.Data.fields #[PySem.Value.str (PySem.Str.ofString "_index") 232, PySem.Value.str (PySem.Str.ofString "_index") 233, PySem.Value.str (PySem.Str.ofString "/claim/cut.py") 234, PySem.Value.int 26 0, PySem.Value.int 2 0, PySem.Value.int 0 0, PySem.Value.int 0 0, PySem.Value.int 3 0, PySem.Value.ref 50, PySem.Value.bool Bool.true, PySem.Value.int 181 0, PySem.Value.ref 51, PySem.Value.none, PySem.Value.ref 52, PySem.Value.ref 53, PySem.Value.ref 54, PySem.Value.int 237 0, PySem.Value.int 26 0, PySem.Value.str (PySem.Str.ofString "/claim/cut.py") 238] }) ::
  (nat_lit 56, ⟨PySem.Value.type "function", Option.none, .func (by refine' (?f : ∀ (ps : PySem.Arguments) (b : List PySem.Stmt) (sc : PySem.Scope), Mine.defnAt [8] = some (ps, b, sc) → PySem.FuncData) _ _ _ ?pf; (case pf => rfl); (case f => exact fun ps b sc _ => ⟨PySem.Str.ofString "_index", PySem.Str.ofString "_index", ps, .stmts b, sc, (3), ([]), (PySem.Value.none), (PySem.Value.none), (PySem.Value.none), (PySem.Value.str (PySem.Str.ofString "io") 222), (Option.none), (PySem.Value.ref 55), (PySem.Value.none), (0)⟩)), #[]⟩) ::
  (nat_lit 57, { cls := PySem.Value.type "tuple", data := PySem.Data.seq #[PySem.Value.type "OSError", PySem.Value.type "ValueError"] }) ::
  (nat_lit 64, { cls := PySem.Value.type "tuple", data := PySem.Data.seq #[] }) ::
  (nat_lit 65, { cls := PySem.Value.type "dict", data := PySem.Data.dict #[{ hash := PySem.PyData.keyHash P (PySem.Str.ofString "__module__"), key := PySem.Value.str (PySem.Str.ofString "__module__") 247, val := PySem.Value.str (PySem.Str.ofString "io") 252 }, { hash := PySem.PyData.keyHash P (PySem.Str.ofString "__firstlineno__"), key := PySem.Value.str (PySem.Str.ofString "__firstlineno__") 251, val := PySem.Value.int 33 250 }, { hash := PySem.PyData.keyHash P (PySem.Str.ofString "__static_attributes__"), key := PySem.Value.str (PySem.Str.ofString "__static_attributes__") 254, val := PySem.Value.ref 64 }, { hash := PySem.PyData.keyHash P (PySem.Str.ofString "__weakref__"), key := PySem.Value.str (PySem.Str.ofString "__weakref__") 256, val := PySem.Value.ref 67 }, { hash := PySem.PyData.keyHash P (PySem.Str.ofString "__doc__"), key := PySem.Value.str (PySem.Str.ofString "__doc__") 257, val := PySem.Value.none }] 3 }) ::
  (nat_lit 66, { cls := PySem.Value.type "type", data := PySem.Data.cls { name := PySem.Str.ofString "UnsupportedOperation", bases := [PySem.Value.type "OSError", PySem.Value.type "ValueError"], mro := [PySem.Value.ref 66, PySem.Value.type "OSError", PySem.Value.type "ValueError", PySem.Value.type "Exception", PySem.Value.type "BaseException", PySem.Value.type "object"], ns := 65, qualname := PySem.Str.ofString "UnsupportedOperation" }, slots := #[Option.some (PySem.Value.ref 57), Option.none, Option.some (PySem.Value.str (PySem.Str.ofString "UnsupportedOperation") 240), Option.some (PySem.Value.str (PySem.Str.ofString "UnsupportedOperation") 248), Option.some (PySem.Value.builtin "OSError.__new__"), Option.some (PySem.Value.bool Bool.true)] }) ::
  (nat_lit 67, { cls := PySem.Value.type "getset_descriptor", data := PySem.Data.fields #[PySem.Value.str (PySem.Str.ofString "__weakref__") 255, PySem.Value.ref 66, PySem.Value.builtin "ExceptionGroup.__weakref__", PySem.Value.none] }) ::
  (nat_lit 77, { cls := PySem.Value.type "tuple", data := PySem.Data.seq #[] }) ::
  (nat_lit 79, { cls := PySem.Value.type "tuple", data := PySem.Data.seq #[PySem.Value.str (PySem.Str.ofString "cls") 279, PySem.Value.str (PySem.Str.ofString "args") 280, PySem.Value.str (PySem.Str.ofString "kwargs") 281] }) ::
  (nat_lit 80, { cls := PySem.Value.type "tuple", data := PySem.Data.seq #[] }) ::
  (nat_lit 82, { cls := PySem.Value.type "code", data := PySem.Data.fields #[PySem.Value.str (PySem.Str.ofString "__new__") 276, PySem.Value.str (PySem.Str.ofString "IOBase.__new__") 277, PySem.Value.str (PySem.Str.ofString "/claim/cut.py") 278, PySem.Value.int 38 0, PySem.Value.int 1 0, PySem.Value.int 1 0, PySem.Value.int 0 0, PySem.Value.int 15 0, PySem.Value.ref 77, PySem.Value.bool Bool.true, PySem.Value.int 181 0, PySem.Value.ref 78, PySem.Value.none, PySem.Value.ref 79, PySem.Value.ref 80, PySem.Value.ref 81, PySem.Value.int 282 0, PySem.Value.int 38 0, PySem.Value.str (PySem.Str.ofString "/claim/cut.py") 283] }) ::
  (nat_lit 83, ⟨PySem.Value.type "function", Option.none, .func (by refine' (?f : ∀ (ps : PySem.Arguments) (b : List PySem.Stmt) (sc : PySem.Scope), Mine.defnAt [10, 1] = some (ps, b, sc) → PySem.FuncData) _ _ _ ?pf; (case pf => rfl); (case f => exact fun ps b sc _ => ⟨PySem.Str.ofString "__new__", PySem.Str.ofString "IOBase.__new__", ps, .stmts b, sc, (3), ([]), (PySem.Value.none), (PySem.Value.none), (PySem.Value.none), (PySem.Value.str (PySem.Str.ofString "io") 222), (Option.none), (PySem.Value.ref 82), (PySem.Value.none), (0)⟩)), #[]⟩) ::
  (nat_lit 84, { cls := PySem.Value.type "tuple", data := PySem.Data.seq #[] }) ::
  (nat_lit 85, { cls := PySem.Value.type "dict", data := PySem.Data.dict #[{ hash := PySem.PyData.keyHash P (PySem.Str.ofString "__module__"), key := PySem.Value.str (PySem.Str.ofString "__module__") 269, val := PySem.Value.str (PySem.Str.ofString "io") 274 }, { hash := PySem.PyData.keyHash P (PySem.Str.ofString "__firstlineno__"), key := PySem.Value.str (PySem.Str.ofString "__firstlineno__") 273, val := PySem.Value.int 35 272 }, { hash := PySem.PyData.keyHash P (PySem.Str.ofString "__new__"), key := PySem.Value.str (PySem.Str.ofString "__new__") 284, val := PySem.Value.ref 87 }, { hash := PySem.PyData.keyHash P (PySem.Str.ofString "__static_attributes__"), key := PySem.Value.str (PySem.Str.ofString "__static_attributes__") 285, val := PySem.Value.ref 84 }, { hash := PySem.PyData.keyHash P (PySem.Str.ofString "__dict__"), key := PySem.Value.str (PySem.Str.ofString "__dict__") 288, val := PySem.Value.ref 88 }, { hash := PySem.PyData.keyHash P (PySem.Str.ofString "__weakref__"), key := PySem.Value.str (PySem.Str.ofString "__weakref__") 290, val := PySem.Value.ref 89 }, { hash := PySem.PyData.keyHash P (PySem.Str.ofString "__doc__"), key := PySem.Value.str (PySem.Str.ofString "__doc__") 291, val := PySem.Value.none }] 4 }) ::
  (nat_lit 86, { cls := PySem.Value.type "type", data := PySem.Data.cls { name := PySem.Str.ofString "IOBase", bases := [PySem.Value.type "object"], mro := [PySem.Value.ref 86, PySem.Value.type "object"], ns := 85, qualname := PySem.Str.ofString "IOBase", subclasses := [PySem.Value.ref 101, PySem.Value.ref 113] }, slots := #[Option.none, Option.none, Option.some (PySem.Value.str (PySem.Str.ofString "IOBase") 262), Option.some (PySem.Value.str (PySem.Str.ofString "IOBase") 270), Option.some PySem.Value.none, Option.some (PySem.Value.bool Bool.true)] }) ::
  (nat_lit 87, { cls := PySem.Value.type "staticmethod", data := PySem.Data.fields #[PySem.Value.ref 83] }) ::
  (nat_lit 88, { cls := PySem.Value.type "getset_descriptor", data := PySem.Data.fields #[PySem.Value.str (PySem.Str.ofString "__dict__") 287, PySem.Value.ref 86, PySem.Value.builtin "function.__dict__", PySem.Value.builtin "function.__dict__#set"] }) ::
  (nat_lit 89, { cls := PySem.Value.type "getset_descriptor", data := PySem.Data.fields #[PySem.Value.str (PySem.Str.ofString "__weakref__") 289, PySem.Value.ref 86, PySem.Value.builtin "ExceptionGroup.__weakref__", PySem.Value.none] }) ::
  (nat_lit 92, { cls := PySem.Value.type "tuple", data := PySem.Data.seq #[PySem.Value.ref 86] }) ::
  (nat_lit 99, { cls := PySem.Value.type "tuple", data := PySem.Data.seq #[] }) ::
  (nat_lit 100, { cls := PySem.Value.type "dict", data := PySem.Data.dict #[{ hash := PySem.PyData.keyHash P (PySem.Str.ofString "__module__"), key := PySem.Value.str (PySem.Str.ofString "__module__") 301, val := PySem.Value.str (PySem.Str.ofString "io") 306 }, { hash := PySem.PyData.keyHash P (PySem.Str.ofString "__firstlineno__"), key := PySem.Value.str (PySem.Str.ofString "__firstlineno__") 305, val := PySem.Value.int 42 304 }, { hash := PySem.PyData.keyHash P (PySem.Str.ofString "__static_attributes__"), key := PySem.Value.str (PySem.Str.ofString "__static_attributes__") 308, val := PySem.Value.ref 99 }, { hash := PySem.PyData.keyHash P (PySem.Str.ofString "__doc__"), key := PySem.Value.str (PySem.Str.ofString "__doc__") 309, val := PySem.Value.none }] 2 }) ::
  (nat_lit 101, { cls := PySem.Value.type "type", data := PySem.Data.cls { name := PySem.Str.ofString "BufferedIOBase", bases := [PySem.Value.ref 86], mro := [PySem.Value.ref 101, PySem.Value.ref 86, PySem.Value.type "object"], ns := 100, qualname := PySem.Str.ofString "BufferedIOBase", subclasses := [PySem.Value.ref 343] }, slots := #[Option.some (PySem.Value.ref 92), Option.none, Option.some (PySem.Value.str (PySem.Str.ofString "BufferedIOBase") 294), Option.some (PySem.Value.str (PySem.Str.ofString "BufferedIOBase") 302), Option.some PySem.Value.none, Option.some (PySem.Value.bool Bool.true)] }) ::
  (nat_lit 104, { cls := PySem.Value.type "tuple", data := PySem.Data.seq #[PySem.Value.ref 86] }) ::
  (nat_lit 111, { cls := PySem.Value.type "tuple", data := PySem.Data.seq #[] }) ::
  (nat_lit 112, { cls := PySem.Value.type "dict", data := PySem.Data.dict #[{ hash := PySem.PyData.keyHash P (PySem.Str.ofString "__module__"), key := PySem.Value.str (PySem.Str.ofString "__module__") 319, val := PySem.Value.str (PySem.Str.ofString "io") 324 }, { hash := PySem.PyData.keyHash P (PySem.Str.ofString "__firstlineno__"), key := PySem.Value.str (PySem.Str.ofString "__firstlineno__") 323, val := PySem.Value.int 44 322 }, { hash := PySem.PyData.keyHash P (PySem.Str.ofString "__static_attributes__"), key := PySem.Value.str (PySem.Str.ofString "__static_attributes__") 326, val := PySem.Value.ref 111 }, { hash := PySem.PyData.keyHash P (PySem.Str.ofString "__doc__"), key := PySem.Value.str (PySem.Str.ofString "__doc__") 327, val := PySem.Value.none }] 2 }) ::
  (nat_lit 113, { cls := PySem.Value.type "type", data := PySem.Data.cls { name := PySem.Str.ofString "TextIOBase", bases := [PySem.Value.ref 86], mro := [PySem.Value.ref 113, PySem.Value.ref 86, PySem.Value.type "object"], ns := 112, qualname := PySem.Str.ofString "TextIOBase", subclasses := [PySem.Value.ref 590] }, slots := #[Option.some (PySem.Value.ref 104), Option.none, Option.some (PySem.Value.str (PySem.Str.ofString "TextIOBase") 312), Option.some (PySem.Value.str (PySem.Str.ofString "TextIOBase") 320), Option.some PySem.Value.none, Option.some (PySem.Value.bool Bool.true)] }) ::
  (nat_lit 116, { cls := PySem.Value.type "tuple", data := PySem.Data.seq #[PySem.Value.ref 101] }) ::
  (nat_lit 123, { cls := PySem.Value.type "tuple", data := PySem.Data.seq #[PySem.Value.none] }) ::
  (nat_lit 124, { cls := PySem.Value.type "tuple", data := PySem.Data.seq #[] }) ::
  (nat_lit 126, { cls := PySem.Value.type "tuple", data := PySem.Data.seq #[PySem.Value.str (PySem.Str.ofString "self") 347, PySem.Value.str (PySem.Str.ofString "initial_bytes") 348] }) ::
  (nat_lit 127, { cls := PySem.Value.type "tuple", data := PySem.Data.seq #[] }) ::
  (nat_lit 129, { cls := PySem.Value.type "code", data := PySem.Data.fields #[PySem.Value.str (PySem.Str.ofString "__init__") 344, PySem.Value.str (PySem.Str.ofString "BytesIO.__init__") 345, PySem.Value.str (PySem.Str.ofString "/claim/cut.py") 346, PySem.Value.int 49 0, PySem.Value.int 2 0, PySem.Value.int 0 0, PySem.Value.int 0 0, PySem.Value.int 3 0, PySem.Value.ref 124, PySem.Value.bool Bool.true, PySem.Value.int 181 0, PySem.Value.ref 125, PySem.Value.none, PySem.Value.ref 126, PySem.Value.ref 127, PySem.Value.ref 128, PySem.Value.int 349 0, PySem.Value.int 49 0, PySem.Value.str (PySem.Str.ofString "/claim/cut.py") 350] }) ::
  (nat_lit 130, ⟨PySem.Value.type "function", Option.none, .func (by refine' (?f : ∀ (ps : PySem.Arguments) (b : List PySem.Stmt) (sc : PySem.Scope), Mine.defnAt [13, 1] = some (ps, b, sc) → PySem.FuncData) _ _ _ ?pf; (case pf => rfl); (case f => exact fun ps b sc _ => ⟨PySem.Str.ofString "__init__", PySem.Str.ofString "BytesIO.__init__", ps, .stmts b, sc, (3), ([]), (PySem.Value.ref 123), (PySem.Value.none), (PySem.Value.none), (PySem.Value.str (PySem.Str.ofString "io") 222), (Option.none), (PySem.Value.ref 129), (PySem.Value.none), (0)⟩)), #[]⟩) ::
  (nat_lit 131, { cls := PySem.Value.type "tuple", data := PySem.Data.seq #[] }) ::
  (nat_lit 133, { cls := PySem.Value.type "tuple", data := PySem.Data.seq #[PySem.Value.str (PySem.Str.ofString "self") 355] }) ::
  (nat_lit 134, { cls := PySem.Value.type "tuple", data := PySem.Data.seq #[] }) ::
  (nat_lit 136, { cls := PySem.Value.type "code", data := PySem.Data.fields #[PySem.Value.str (PySem.Str.ofString "__check") 352, PySem.Value.str (PySem.Str.ofString "BytesIO.__check") 353, PySem.Value.str (PySem.Str.ofString "/claim/cut.py") 354, PySem.Value.int 55 0, PySem.Value.int 1 0, PySem.Value.int 0 0, PySem.Value.int 0 0, PySem.Value.int 3 0, PySem.Value.ref 131, PySem.Value.bool Bool.true, PySem.Value.int 181 0, PySem.Value.ref 132, PySem.Value.none, PySem.Value.ref 133, PySem.Value.ref 134, PySem.Value.ref 135, PySem.Value.int 356 0, PySem.Value.int 55 0, PySem.Value.str (PySem.Str.ofString "/claim/cut.py") 357] }) ::
  (nat_lit 137, ⟨PySem.Value.type "function", Option.none, .func (by refine' (?f : ∀ (ps : PySem.Arguments) (b : List PySem.Stmt) (sc : PySem.Scope), Mine.defnAt [13, 2] = some (ps, b, sc) → PySem.FuncData) _ _ _ ?pf; (case pf => rfl); (case f => exact fun ps b sc _ => ⟨PySem.Str.ofString "__check", PySem.Str.ofString "BytesIO.__check", ps, .stmts b, sc, (3), ([]), (PySem.Value.none), (PySem.Value.none), (PySem.Value.none), (PySem.Value.str (PySem.Str.ofString "io") 222), (Option.none), (PySem.Value.ref 136), (PySem.Value.none), (0)⟩)), #[]⟩) ::
  (nat_lit 138, { cls := PySem.Value.type "tuple", data := PySem.Data.seq #[] }) ::
  (nat_lit 140, { cls := PySem.Value.type "tuple", data := PySem.Data.seq #[PySem.Value.str (PySem.Str.ofString "self") 362, PySem.Value.str (PySem.Str.ofString "limit") 363, PySem.Value.str (PySem.Str.ofString "start") 364, PySem.Value.str (PySem.Str.ofString "stop") 365, PySem.Value.str (PySem.Str.ofString "i") 366] }) ::
  (nat_lit 141, { cls := PySem.Value.type "tuple", data := PySem.Data.seq #[] }) ::
  (nat_lit 143, { cls := PySem.Value.type "code", data := PySem.Data.fields #[PySem.Value.str (PySem.Str.ofString "__line") 359, PySem.Value.str (PySem.Str.ofString "BytesIO.__line") 360, PySem.Value.str (PySem.Str.ofString "/claim/cut.py") 361, PySem.Value.int 59 0, PySem.Value.int 2 0, PySem.Value.int 0 0, PySem.Value.int 0 0, PySem.Value.int 3 0, PySem.Value.ref 138, PySem.Value.bool Bool.true, PySem.Value.int 181 0, PySem.Value.ref 139, PySem.Value.none, PySem.Value.ref 140, PySem.Value.ref 141, PySem.Value.ref 142, PySem.Value.int 367 0, PySem.Value.int 59 0, PySem.Value.str (PySem.Str.ofString "/claim/cut.py") 368] }) ::
  (nat_lit 144, ⟨PySem.Value.type "function", Option.none, .func (by refine' (?f : ∀ (ps : PySem.Arguments) (b : List PySem.Stmt) (sc : PySem.Scope), Mine.defnAt [13, 3] = some (ps, b, sc) → PySem.FuncData) _ _ _ ?pf; (case pf => rfl); (case f => exact fun ps b sc _ => ⟨PySem.Str.ofString "__line", PySem.Str.ofString "BytesIO.__line", ps, .stmts b, sc, (3), ([]), (PySem.Value.none), (PySem.Value.none), (PySem.Value.none), (PySem.Value.str (PySem.Str.ofString "io") 222), (Option.none), (PySem.Value.ref 143), (PySem.Value.none), (0)⟩)), #[]⟩) ::
  (nat_lit 145, { cls := PySem.Value.type "tuple", data := PySem.Data.seq #[] }) ::
  (nat_lit 147, { cls := PySem.Value.type "tuple", data := PySem.Data.seq #[PySem.Value.str (PySem.Str.ofString "self") 373] }) ::
  (nat_lit 148, { cls := PySem.Value.type "tuple", data := PySem.Data.seq #[] }) ::
  (nat_lit 150, { cls := PySem.Value.type "code", data := PySem.Data.fields #[PySem.Value.str (PySem.Str.ofString "closed") 370, PySem.Value.str (PySem.Str.ofString "BytesIO.closed") 371, PySem.Value.str (PySem.Str.ofString "/claim/cut.py") 372, PySem.Value.int 72 0, PySem.Value.int 1 0, PySem.Value.int 0 0, PySem.Value.int 0 0, PySem.Value.int 3 0, PySem.Value.ref 145, PySem.Value.bool Bool.true, PySem.Value.int 181 0, PySem.Value.ref 146, PySem.Value.none, PySem.Value.ref 147, PySem.Value.ref 148, PySem.Value.ref 149, PySem.Value.int 374 0, PySem.Value.int 72 0, PySem.Value.str (PySem.Str.ofString "/claim/cut.py") 375] }) ::
  (nat_lit 151, ⟨PySem.Value.type "function", Option.none, .func (by refine' (?f : ∀ (ps : PySem.Arguments) (b : List PySem.Stmt) (sc : PySem.Scope), Mine.defnAt [13, 4] = some (ps, b, sc) → PySem.FuncData) _ _ _ ?pf; (case pf => rfl); (case f => exact fun ps b sc _ => ⟨PySem.Str.ofString "closed", PySem.Str.ofString "BytesIO.closed", ps, .stmts b, sc, (3), ([]), (PySem.Value.none), (PySem.Value.none), (PySem.Value.none), (PySem.Value.str (PySem.Str.ofString "io") 222), (Option.none), (PySem.Value.ref 150), (PySem.Value.none), (0)⟩)), #[]⟩) ::
  (nat_lit 152, { cls := PySem.Value.type "property", data := PySem.Data.fields #[PySem.Value.ref 151, PySem.Value.none, PySem.Value.none, PySem.Value.none, PySem.Value.str (PySem.Str.ofString "closed") 377, PySem.Value.bool Bool.false] }) ::
  (nat_lit 153, { cls := PySem.Value.type "tuple", data := PySem.Data.seq #[] }) ::
  (nat_lit 155, { cls := PySem.Value.type "tuple", data := PySem.Data.seq #[PySem.Value.str (PySem.Str.ofString "self") 381] }) ::
  (nat_lit 156, { cls := PySem.Value.type "tuple", data := PySem.Data.seq #[] }) ::
  (nat_lit 158, { cls := PySem.Value.type "code", data := PySem.Data.fields #[PySem.Value.str (PySem.Str.ofString "close") 378, PySem.Value.str (PySem.Str.ofString "BytesIO.close") 379, PySem.Value.str (PySem.Str.ofString "/claim/cut.py") 380, PySem.Value.int 76 0, PySem.Value.int 1 0, PySem.Value.int 0 0, PySem.Value.int 0 0, PySem.Value.int 3 0, PySem.Value.ref 153, PySem.Value.bool Bool.true, PySem.Value.int 181 0, PySem.Value.ref 154, PySem.Value.none, PySem.Value.ref 155, PySem.Value.ref 156, PySem.Value.ref 157, PySem.Value.int 382 0, PySem.Value.int 76 0, PySem.Value.str (PySem.Str.ofString "/claim/cut.py") 383] }) ::
  (nat_lit 159, ⟨PySem.Value.type "function", Option.none, .func (by refine' (?f : ∀ (ps : PySem.Arguments) (b : List PySem.Stmt) (sc : PySem.Scope), Mine.defnAt [13, 5] = some (ps, b, sc) → PySem.FuncData) _ _ _ ?pf; (case pf => rfl); (case f => exact fun ps b sc _ => ⟨PySem.Str.ofString "close", PySem.Str.ofString "BytesIO.close", ps, .stmts b, sc, (3), ([]), (PySem.Value.none), (PySem.Value.none), (PySem.Value.none), (PySem.Value.str (PySem.Str.ofString "io") 222), (Option.none), (PySem.Value.ref 158), (PySem.Value.none), (0)⟩)), #[]⟩) ::
  (nat_lit 160, { cls := PySem.Value.type "tuple", data := PySem.Data.seq #[] }) ::
  (nat_lit 162, { cls := PySem.Value.type "tuple", data := PySem.Data.seq #[PySem.Value.str (PySem.Str.ofString "self") 388] }) ::
  (nat_lit 163, { cls := PySem.Value.type "tuple", data := PySem.Data.seq #[] }) ::
  (nat_lit 165, { cls := PySem.Value.type "code", data := PySem.Data.fields #[PySem.Value.str (PySem.Str.ofString "__enter__") 385, PySem.Value.str (PySem.Str.ofString "BytesIO.__enter__") 386, PySem.Value.str (PySem.Str.ofString "/claim/cut.py") 387, PySem.Value.int 79 0, PySem.Value.int 1 0, PySem.Value.int 0 0, PySem.Value.int 0 0, PySem.Value.int 3 0, PySem.Value.ref 160, PySem.Value.bool Bool.true, PySem.Value.int 181 0, PySem.Value.ref 161, PySem.Value.none, PySem.Value.ref 162, PySem.Value.ref 163, PySem.Value.ref 164, PySem.Value.int 389 0, PySem.Value.int 79 0, PySem.Value.str (PySem.Str.ofString "/claim/cut.py") 390] }) ::
  (nat_lit 166, ⟨PySem.Value.type "function", Option.none, .func (by refine' (?f : ∀ (ps : PySem.Arguments) (b : List PySem.Stmt) (sc : PySem.Scope), Mine.defnAt [13, 6] = some (ps, b, sc) → PySem.FuncData) _ _ _ ?pf; (case pf => rfl); (case f => exact fun ps b sc _ => ⟨PySem.Str.ofString "__enter__", PySem.Str.ofString "BytesIO.__enter__", ps, .stmts b, sc, (3), ([]), (PySem.Value.none), (PySem.Value.none), (PySem.Value.none), (PySem.Value.str (PySem.Str.ofString "io") 222), (Option.none), (PySem.Value.ref 165), (PySem.Value.none), (0)⟩)), #[]⟩) ::
  (nat_lit 167, { cls := PySem.Value.type "tuple", data := PySem.Data.seq #[] }) ::
  (nat_lit 169, { cls := PySem.Value.type "tuple", data := PySem.Data.seq #[PySem.Value.str (PySem.Str.ofString "self") 395, PySem.Value.str (PySem.Str.ofString "args") 396] }) ::
  (nat_lit 170, { cls := PySem.Value.type "tuple", data := PySem.Data.seq #[] }) ::
  (nat_lit 172, { cls := PySem.Value.type "code", data := PySem.Data.fields #[PySem.Value.str (PySem.Str.ofString "__exit__") 392, PySem.Value.str (PySem.Str.ofString "BytesIO.__exit__") 393, PySem.Value.str (PySem.Str.ofString "/claim/cut.py") 394, PySem.Value.int 83 0, PySem.Value.int 1 0, PySem.Value.int 0 0, PySem.Value.int 0 0, PySem.Value.int 7 0, PySem.Value.ref 167, PySem.Value.bool Bool.true, PySem.Value.int 181 0, PySem.Value.ref 168, PySem.Value.none, PySem.Value.ref 169, PySem.Value.ref 170, PySem.Value.ref 171, PySem.Value.int 397 0, PySem.Value.int 83 0, PySem.Value.str (PySem.Str.ofString "/claim/cut.py") 398] }) ::
  (nat_lit 173, ⟨PySem.Value.type "function", Option.none, .func (by refine' (?f : ∀ (ps : PySem.Arguments) (b : List PySem.Stmt) (sc : PySem.Scope), Mine.defnAt [13, 7] = some (ps, b, sc) → PySem.FuncData) _ _ _ ?pf; (case pf => rfl); (case f => exact fun ps b sc _ => ⟨PySem.Str.ofString "__exit__", PySem.Str.ofString "BytesIO.__exit__", ps, .stmts b, sc, (3), ([]), (PySem.Value.none), (PySem.Value.none), (PySem.Value.none), (PySem.Value.str (PySem.Str.ofString "io") 222), (Option.none), (PySem.Value.ref 172), (PySem.Value.none), (0)⟩)), #[]⟩) ::
  (nat_lit 174, { cls := PySem.Value.type "tuple", data := PySem.Data.seq #[] }) ::
  (nat_lit 176, { cls := PySem.Value.type "tuple", data := PySem.Data.seq #[PySem.Value.str (PySem.Str.ofString "self") 403] }) ::
  (nat_lit 177, { cls := PySem.Value.type "tuple", data := PySem.Data.seq #[] }) ::
  (nat_lit 179, { cls := PySem.Value.type "code", data := PySem.Data.fields #[PySem.Value.str (PySem.Str.ofString "readable") 400, PySem.Value.str (PySem.Str.ofString "BytesIO.readable") 401, PySem.Value.str (PySem.Str.ofString "/claim/cut.py") 402, PySem.Value.int 86 0, PySem.Value.int 1 0, PySem.Value.int 0 0, PySem.Value.int 0 0, PySem.Value.int 3 0, PySem.Value.ref 174, PySem.Value.bool Bool.true, PySem.Value.int 181 0, PySem.Value.ref 175, PySem.Value.none, PySem.Value.ref 176, PySem.Value.ref 177, PySem.Value.ref 178, PySem.Value.int 404 0, PySem.Value.int 86 0, PySem.Value.str (PySem.Str.ofString "/claim/cut.py") 405] }) ::
  (nat_lit 180, ⟨PySem.Value.type "function", Option.none, .func (by refine' (?f : ∀ (ps : PySem.Arguments) (b : List PySem.Stmt) (sc : PySem.Scope), Mine.defnAt [13, 8] = some (ps, b, sc) → PySem.FuncData) _ _ _ ?pf; (case pf => rfl); (case f => exact fun ps b sc _ => ⟨PySem.Str.ofString "readable", PySem.Str.ofString "BytesIO.readable", ps, .stmts b, sc, (3), ([]), (PySem.Value.none), (PySem.Value.none), (PySem.Value.none), (PySem.Value.str (PySem.Str.ofString "io") 222), (Option.none), (PySem.Value.ref 179), (PySem.Value.none), (0)⟩)), #[]⟩) ::
  (nat_lit 181, { cls := PySem.Value.type "tuple", data := PySem.Data.seq #[] }) ::
  (nat_lit 183, { cls := PySem.Value.type "tuple", data := PySem.Data.seq #[PySem.Value.str (PySem.Str.ofString "self") 410] }) ::
  (nat_lit 184, { cls := PySem.Value.type "tuple", data := PySem.Data.seq #[] }) ::
  (nat_lit 186, { cls := PySem.Value.type "code", data := PySem.Data.fields #[PySem.Value.str (PySem.Str.ofString "writable") 407, PySem.Value.str (PySem.Str.ofString "BytesIO.writable") 408, PySem.Value.str (PySem.Str.ofString "/claim/cut.py") 409, PySem.Value.int 90 0, PySem.Value.int 1 0, PySem.Value.int 0 0, PySem.Value.int 0 0, PySem.Value.int 3 0, PySem.Value.ref 181, PySem.Value.bool Bool.true, PySem.Value.int 181 0, PySem.Value.ref 182, PySem.Value.none, PySem.Value.ref 183, PySem.Value.ref 184, PySem.Value.ref 185, PySem.Value.int 411 0, PySem.Value.int 90 0, PySem.Value.str (PySem.Str.ofString "/claim/cut.py") 412] }) ::
  (nat_lit 187, ⟨PySem.Value.type "function", Option.none, .func (by refine' (?f : ∀ (ps : PySem.Arguments) (b : List PySem.Stmt) (sc : PySem.Scope), Mine.defnAt [13, 9] = some (ps, b, sc) → PySem.FuncData) _ _ _ ?pf; (case pf => rfl); (case f => exact fun ps b sc _ => ⟨PySem.Str.ofString "writable", PySem.Str.ofString "BytesIO.writable", ps, .stmts b, sc, (3), ([]), (PySem.Value.none), (PySem.Value.none), (PySem.Value.none), (PySem.Value.str (PySem.Str.ofString "io") 222), (Option.none), (PySem.Value.ref 186), (PySem.Value.none), (0)⟩)), #[]⟩) ::
  (nat_lit 188, { cls := PySem.Value.type "tuple", data := PySem.Data.seq #[] }) ::
  (nat_lit 190, { cls := PySem.Value.type "tuple", data := PySem.Data.seq #[PySem.Value.str (PySem.Str.ofString "self") 417] }) ::
  (nat_lit 191, { cls := PySem.Value.type "tuple", data := PySem.Data.seq #[] }) ::
  (nat_lit 193, { cls := PySem.Value.type "code", data := PySem.Data.fields #[PySem.Value.str (PySem.Str.ofString "seekable") 414, PySem.Value.str (PySem.Str.ofString "BytesIO.seekable") 415, PySem.Value.str (PySem.Str.ofString "/claim/cut.py") 416, PySem.Value.int 94 0, PySem.Value.int 1 0, PySem.Value.int 0 0, PySem.Value.int 0 0, PySem.Value.int 3 0, PySem.Value.ref 188, PySem.Value.bool Bool.true, PySem.Value.int 181 0, PySem.Value.ref 189, PySem.Value.none, PySem.Value.ref 190, PySem.Value.ref 191, PySem.Value.ref 192, PySem.Value.int 418 0, PySem.Value.int 94 0, PySem.Value.str (PySem.Str.ofString "/claim/cut.py") 419] }) ::
  (nat_lit 194, ⟨PySem.Value.type "function", Option.none, .func (by refine' (?f : ∀ (ps : PySem.Arguments) (b : List PySem.Stmt) (sc : PySem.Scope), Mine.defnAt [13, 10] = some (ps, b, sc) → PySem.FuncData) _ _ _ ?pf; (case pf => rfl); (case f => exact fun ps b sc _ => ⟨PySem.Str.ofString "seekable", PySem.Str.ofString "BytesIO.seekable", ps, .stmts b, sc, (3), ([]), (PySem.Value.none), (PySem.Value.none), (PySem.Value.none), (PySem.Value.str (PySem.Str.ofString "io") 222), (Option.none), (PySem.Value.ref 193), (PySem.Value.none), (0)⟩)), #[]⟩) ::
  (nat_lit 195, { cls := PySem.Value.type "tuple", data := PySem.Data.seq #[] }) ::
  (nat_lit 197, { cls := PySem.Value.type "tuple", data := PySem.Data.seq #[PySem.Value.str (PySem.Str.ofString "self") 424] }) ::
  (nat_lit 198, { cls := PySem.Value.type "tuple", data := PySem.Data.seq #[] }) ::
  (nat_lit 200, { cls := PySem.Value.type "code", data := PySem.Data.fields #[PySem.Value.str (PySem.Str.ofString "isatty") 421, PySem.Value.str (PySem.Str.ofString "BytesIO.isatty") 422, PySem.Value.str (PySem.Str.ofString "/claim/cut.py") 423, PySem.Value.int 98 0, PySem.Value.int 1 0, PySem.Value.int 0 0, PySem.Value.int 0 0, PySem.Value.int 3 0, PySem.Value.ref 195, PySem.Value.bool Bool.true, PySem.Value.int 181 0, PySem.Value.ref 196, PySem.Value.none, PySem.Value.ref 197, PySem.Value.ref 198, PySem.Value.ref 199, PySem.Value.int 425 0, PySem.Value.int 98 0, PySem.Value.str (PySem.Str.ofString "/claim/cut.py") 426] }) ::
  (nat_lit 201, ⟨PySem.Value.type "function", Option.none, .func (by refine' (?f : ∀ (ps : PySem.Arguments) (b : List PySem.Stmt) (sc : PySem.Scope), Mine.defnAt [13, 11] = some (ps, b, sc) → PySem.FuncData) _ _ _ ?pf; (case pf => rfl); (case f => exact fun ps b sc _ => ⟨PySem.Str.ofString "isatty", PySem.Str.ofString "BytesIO.isatty", ps, .stmts b, sc, (3), ([]), (PySem.Value.none), (PySem.Value.none), (PySem.Value.none), (PySem.Value.str (PySem.Str.ofString "io") 222), (Option.none), (PySem.Value.ref 200), (PySem.Value.none), (0)⟩)), #[]⟩) ::
  (nat_lit 202, { cls := PySem.Value.type "tuple", data := PySem.Data.seq #[] }) ::
  (nat_lit 204, { cls := PySem.Value.type "tuple", data := PySem.Data.seq #[PySem.Value.str (PySem.Str.ofString "self") 431] }) ::
  (nat_lit 205, { cls := PySem.Value.type "tuple", data := PySem.Data.seq #[] }) ::
  (nat_lit 207, { cls := PySem.Value.type "code", data := PySem.Data.fields #[PySem.Value.str (PySem.Str.ofString "flush") 428, PySem.Value.str (PySem.Str.ofString "BytesIO.flush") 429, PySem.Value.str (PySem.Str.ofString "/claim/cut.py") 430, PySem.Value.int 102 0, PySem.Value.int 1 0, PySem.Value.int 0 0, PySem.Value.int 0 0, PySem.Value.int 3 0, PySem.Value.ref 202, PySem.Value.bool Bool.true, PySem.Value.int 181 0, PySem.Value.ref 203, PySem.Value.none, PySem.Value.ref 204, PySem.Value.ref 205, PySem.Value.ref 206, PySem.Value.int 432 0, PySem.Value.int 102 0, PySem.Value.str (PySem.Str.ofString "/claim/cut.py") 433] }) ::
  (nat_lit 208, ⟨PySem.Value.type "function", Option.none, .func (by refine' (?f : ∀ (ps : PySem.Arguments) (b : List PySem.Stmt) (sc : PySem.Scope), Mine.defnAt [13, 12] = some (ps, b, sc) → PySem.FuncData) _ _ _ ?pf; (case pf => rfl); (case f => exact fun ps b sc _ => ⟨PySem.Str.ofString "flush", PySem.Str.ofString "BytesIO.flush", ps, .stmts b, sc, (3), ([]), (PySem.Value.none), (PySem.Value.none), (PySem.Value.none), (PySem.Value.str (PySem.Str.ofString "io") 222), (Option.none), (PySem.Value.ref 207), (PySem.Value.none), (0)⟩)), #[]⟩) ::
  (nat_lit 209, { cls := PySem.Value.type "tuple", data := PySem.Data.seq #[] }) ::
  (nat_lit 211, { cls := PySem.Value.type "tuple", data := PySem.Data.seq #[PySem.Value.str (PySem.Str.ofString "self") 438] }) ::
  (nat_lit 212, { cls := PySem.Value.type "tuple", data := PySem.Data.seq #[] }) ::
  (nat_lit 214, { cls := PySem.Value.type "code", data := PySem.Data.fields #[PySem.Value.str (PySem.Str.ofString "fileno") 435, PySem.Value.str (PySem.Str.ofString "BytesIO.fileno") 436, PySem.Value.str (PySem.Str.ofString "/claim/cut.py") 437, PySem.Value.int 105 0, PySem.Value.int 1 0, PySem.Value.int 0 0, PySem.Value.int 0 0, PySem.Value.int 3 0, PySem.Value.ref 209, PySem.Value.bool Bool.true, PySem.Value.int 181 0, PySem.Value.ref 210, PySem.Value.none, PySem.Value.ref 211, PySem.Value.ref 212, PySem.Value.ref 213, PySem.Value.int 439 0, PySem.Value.int 105 0, PySem.Value.str (PySem.Str.ofString "/claim/cut.py") 440] }) ::
  (nat_lit 215, ⟨PySem.Value.type "function", Option.none, .func (by refine' (?f : ∀ (ps : PySem.Arguments) (b : List PySem.Stmt) (sc : PySem.Scope), Mine.defnAt [13, 13] = some (ps, b, sc) → PySem.FuncData) _ _ _ ?pf; (case pf => rfl); (case f => exact fun ps b sc _ => ⟨PySem.Str.ofString "fileno", PySem.Str.ofString "BytesIO.fileno", ps, .stmts b, sc, (3), ([]), (PySem.Value.none), (PySem.Value.none), (PySem.Value.none), (PySem.Value.str (PySem.Str.ofString "io") 222), (Option.none), (PySem.Value.ref 214), (PySem.Value.none), (0)⟩)), #[]⟩) ::
  (nat_lit 216, { cls := PySem.Value.type "tuple", data := PySem.Data.seq #[] }) ::
  (nat_lit 218, { cls := PySem.Value.type "tuple", data := PySem.Data.seq #[PySem.Value.str (PySem.Str.ofString "self") 445] }) ::
  (nat_lit 219, { cls := PySem.Value.type "tuple", data := PySem.Data.seq #[] }) ::
  (nat_lit 221, { cls := PySem.Value.type "code", data := PySem.Data.fields #[PySem.Value.str (PySem.Str.ofString "detach") 442, PySem.Value.str (PySem.Str.ofString "BytesIO.detach") 443, PySem.Value.str (PySem.Str.ofString "/claim/cut.py") 444, PySem.Value.int 108 0, PySem.Value.int 1 0, PySem.Value.int 0 0, PySem.Value.int 0 0, PySem.Value.int 3 0, PySem.Value.ref 216, PySem.Value.bool Bool.true, PySem.Value.int 181 0, PySem.Value.ref 217, PySem.Value.none, PySem.Value.ref 218, PySem.Value.ref 219, PySem.Value.ref 220, PySem.Value.int 446 0, PySem.Value.int 108 0, PySem.Value.str (PySem.Str.ofString "/claim/cut.py") 447] }) ::
  (nat_lit 222, ⟨PySem.Value.type "function", Option.none, .func (by refine' (?f : ∀ (ps : PySem.Arguments) (b : List PySem.Stmt) (sc : PySem.Scope), Mine.defnAt [13, 14] = some (ps, b, sc) → PySem.FuncData) _ _ _ ?pf; (case pf => rfl); (case f => exact fun ps b sc _ => ⟨PySem.Str.ofString "detach", PySem.Str.ofString "BytesIO.detach", ps, .stmts b, sc, (3), ([]), (PySem.Value.none), (PySem.Value.none), (PySem.Value.none), (PySem.Value.str (PySem.Str.ofString "io") 222), (Option.none), (PySem.Value.ref 221), (PySem.Value.none), (0)⟩)), #[]⟩) ::
  (nat_lit 223, { cls := PySem.Value.type "tuple", data := PySem.Data.seq #[] }) ::
  (nat_lit 225, { cls := PySem.Value.type "tuple", data := PySem.Data.seq #[PySem.Value.str (PySem.Str.ofString "self") 452] }) ::
  (nat_lit 226, { cls := PySem.Value.type "tuple", data := PySem.Data.seq #[] }) ::
  (nat_lit 228, { cls := PySem.Value.type "code", data := PySem.Data.fields #[PySem.Value.str (PySem.Str.ofString "getvalue") 449, PySem.Value.str (PySem.Str.ofString "BytesIO.getvalue") 450, PySem.Value.str (PySem.Str.ofString "/claim/cut.py") 451, PySem.Value.int 111 0, PySem.Value.int 1 0, PySem.Value.int 0 0, PySem.Value.int 0 0, PySem.Value.int 3 0, PySem.Value.ref 223, PySem.Value.bool Bool.true, PySem.Value.int 181 0, PySem.Value.ref 224, PySem.Value.none, PySem.Value.ref 225, PySem.Value.ref 226, PySem.Value.ref 227, PySem.Value.int 453 0, PySem.Value.int 111 0, PySem.Value.str (PySem.Str.ofString "/claim/cut.py") 454] }) ::
  (nat_lit 229, ⟨PySem.Value.type "function", Option.none, .func (by refine' (?f : ∀ (ps : PySem.Arguments) (b : List PySem.Stmt) (sc : PySem.Scope), Mine.defnAt [13, 15] = some (ps, b, sc) → PySem.FuncData) _ _ _ ?pf; (case pf => rfl); (case f => exact fun ps b sc _ => ⟨PySem.Str.ofString "getvalue", PySem.Str.ofString "BytesIO.getvalue", ps, .stmts b, sc, (3), ([]), (PySem.Value.none), (PySem.Value.none), (PySem.Value.none), (PySem.Value.str (PySem.Str.ofString "io") 222), (Option.none), (PySem.Value.ref 228), (PySem.Value.none), (0)⟩)), #[]⟩) ::
  (nat_lit 230, { cls := PySem.Value.type "tuple", data := PySem.Data.seq #[] }) ::
  (nat_lit 232, { cls := PySem.Value.type "tuple", data := PySem.Data.seq #[PySem.Value.str (PySem.Str.ofString "self") 459] }) ::
  (nat_lit 233, { cls := PySem.Value.type "tuple", data := PySem.Data.seq #[] }) ::
  (nat_lit 235, { cls := PySem.Value.type "code", data := PySem.Data.fields #[PySem.Value.str (PySem.Str.ofString "getbuffer") 456, PySem.Value.str (PySem.Str.ofString "BytesIO.getbuffer") 457, PySem.Value.str (PySem.Str.ofString "/claim/cut.py") 458, PySem.Value.int 114 0, PySem.Value.int 1 0, PySem.Value.int 0 0, PySem.Value.int 0 0, PySem.Value.int 3 0, PySem.Value.ref 230, PySem.Value.bool Bool.true, PySem.Value.int 181 0, PySem.Value.ref 231, PySem.Value.none, PySem.Value.ref 232, PySem.Value.ref 233, PySem.Value.ref 234, PySem.Value.int 460 0, PySem.Value.int 114 0, PySem.Value.str (PySem.Str.ofString "/claim/cut.py") 461] }) ::
  (nat_lit 236, ⟨PySem.Value.type "function", Option.none, .func (by refine' (?f : ∀ (ps : PySem.Arguments) (b : List PySem.Stmt) (sc : PySem.Scope), Mine.defnAt [13, 16] = some (ps, b, sc) → PySem.FuncData) _ _ _ ?pf; (case pf => rfl); (case f => exact fun ps b sc _ => ⟨PySem.Str.ofString "getbuffer", PySem.Str.ofString "BytesIO.getbuffer", ps, .stmts b, sc, (3), ([]), (PySem.Value.none), (PySem.Value.none), (PySem.Value.none), (PySem.Value.str (PySem.Str.ofString "io") 222), (Option.none), (PySem.Value.ref 235), (PySem.Value.none), (0)⟩)), #[]⟩) ::
  (nat_lit 237, { cls := PySem.Value.type "tuple", data := PySem.Data.seq #[] }) ::
  (nat_lit 239, { cls := PySem.Value.type "tuple", data := PySem.Data.seq #[PySem.Value.str (PySem.Str.ofString "self") 466] }) ::
  (nat_lit 240, { cls := PySem.Value.type "tuple", data := PySem.Data.seq #[] }) ::
  (nat_lit 242, { cls := PySem.Value.type "code", data := PySem.Data.fields #[PySem.Value.str (PySem.Str.ofString "tell") 463, PySem.Value.str (PySem.Str.ofString "BytesIO.tell") 464, PySem.Value.str (PySem.Str.ofString "/claim/cut.py") 465, PySem.Value.int 117 0, PySem.Value.int 1 0, PySem.Value.int 0 0, PySem.Value.int 0 0, PySem.Value.int 3 0, PySem.Value.ref 237, PySem.Value.bool Bool.true, PySem.Value.int 181 0, PySem.Value.ref 238, PySem.Value.none, PySem.Value.ref 239, PySem.Value.ref 240, PySem.Value.ref 241, PySem.Value.int 467 0, PySem.Value.int 117 0, PySem.Value.str (PySem.Str.ofString "/claim/cut.py") 468] }) ::
  (nat_lit 243, ⟨PySem.Value.type "function", Option.none, .func (by refine' (?f : ∀ (ps : PySem.Arguments) (b : List PySem.Stmt) (sc : PySem.Scope), Mine.defnAt [13, 17] = some (ps, b, sc) → PySem.FuncData) _ _ _ ?pf; (case pf => rfl); (case f => exact fun ps b sc _ => ⟨PySem.Str.ofString "tell", PySem.Str.ofString "BytesIO.tell", ps, .stmts b, sc, (3), ([]), (PySem.Value.none), (PySem.Value.none), (PySem.Value.none), (PySem.Value.str (PySem.Str.ofString "io") 222), (Option.none), (PySem.Value.ref 242), (PySem.Value.none), (0)⟩)), #[]⟩) ::
  (nat_lit 244, { cls := PySem.Value.type "tuple", data := PySem.Data.seq #[PySem.Value.int 0 470] }) ::
  (nat_lit 245, { cls := PySem.Value.type "tuple", data := PySem.Data.seq #[] }) ::
  (nat_lit 247, { cls := PySem.Value.type "tuple", data := PySem.Data.seq #[PySem.Value.str (PySem.Str.ofString "self") 474, PySem.Value.str (PySem.Str.ofString "pos") 475, PySem.Value.str (PySem.Str.ofString "whence") 476] }) ::
  (nat_lit 248, { cls := PySem.Value.type "tuple", data := PySem.Data.seq #[] }) ::
  (nat_lit 250, { cls := PySem.Value.type "code", data := PySem.Data.fields #[PySem.Value.str (PySem.Str.ofString "seek") 471, PySem.Value.str (PySem.Str.ofString "BytesIO.seek") 472, PySem.Value.str (PySem.Str.ofString "/claim/cut.py") 473, PySem.Value.int 121 0, PySem.Value.int 3 0, PySem.Value.int 3 0, PySem.Value.int 0 0, PySem.Value.int 3 0, PySem.Value.ref 245, PySem.Value.bool Bool.true, PySem.Value.int 181 0, PySem.Value.ref 246, PySem.Value.none, PySem.Value.ref 247, PySem.Value.ref 248, PySem.Value.ref 249, PySem.Value.int 477 0, PySem.Value.int 121 0, PySem.Value.str (PySem.Str.ofString "/claim/cut.py") 478] }) ::
  (nat_lit 251, ⟨PySem.Value.type "function", Option.none, .func (by refine' (?f : ∀ (ps : PySem.Arguments) (b : List PySem.Stmt) (sc : PySem.Scope), Mine.defnAt [13, 18] = some (ps, b, sc) → PySem.FuncData) _ _ _ ?pf; (case pf => rfl); (case f => exact fun ps b sc _ => ⟨PySem.Str.ofString "seek", PySem.Str.ofString "BytesIO.seek", ps, .stmts b, sc, (3), ([]), (PySem.Value.ref 244), (PySem.Value.none), (PySem.Value.none), (PySem.Value.str (PySem.Str.ofString "io") 222), (Option.none), (PySem.Value.ref 250), (PySem.Value.none), (0)⟩)), #[]⟩) ::
  (nat_lit 252, { cls := PySem.Value.type "tuple", data := PySem.Data.seq #[PySem.Value.none] }) ::
  (nat_lit 253, { cls := PySem.Value.type "tuple", data := PySem.Data.seq #[] }) ::
  (nat_lit 255, { cls := PySem.Value.type "tuple", data := PySem.Data.seq #[PySem.Value.str (PySem.Str.ofString "self") 483, PySem.Value.str (PySem.Str.ofString "size") 484] }) ::
  (nat_lit 256, { cls := PySem.Value.type "tuple", data := PySem.Data.seq #[] }) ::
  (nat_lit 258, { cls := PySem.Value.type "code", data := PySem.Data.fields #[PySem.Value.str (PySem.Str.ofString "truncate") 480, PySem.Value.str (PySem.Str.ofString "BytesIO.truncate") 481, PySem.Value.str (PySem.Str.ofString "/claim/cut.py") 482, PySem.Value.int 138 0, PySem.Value.int 2 0, PySem.Value.int 2 0, PySem.Value.int 0 0, PySem.Value.int 3 0, PySem.Value.ref 253, PySem.Value.bool Bool.true, PySem.Value.int 181 0, PySem.Value.ref 254, PySem.Value.none, PySem.Value.ref 255, PySem.Value.ref 256, PySem.Value.ref 257, PySem.Value.int 485 0, PySem.Value.int 138 0, PySem.Value.str (PySem.Str.ofString "/claim/cut.py") 486] }) ::
  (nat_lit 259, ⟨PySem.Value.type "function", Option.none, .func (by refine' (?f : ∀ (ps : PySem.Arguments) (b : List PySem.Stmt) (sc : PySem.Scope), Mine.defnAt [13, 19] = some (ps, b, sc) → PySem.FuncData) _ _ _ ?pf; (case pf => rfl); (case f => exact fun ps b sc _ => ⟨PySem.Str.ofString "truncate", PySem.Str.ofString "BytesIO.truncate", ps, .stmts b, sc, (3), ([]), (PySem.Value.ref 252), (PySem.Value.none), (PySem.Value.none), (PySem.Value.str (PySem.Str.ofString "io") 222), (Option.none), (PySem.Value.ref 258), (PySem.Value.none), (0)⟩)), #[]⟩) ::
  (nat_lit 260, { cls := PySem.Value.type "tuple", data := PySem.Data.seq #[PySem.Value.int (-1) 489] }) ::
  (nat_lit 261, { cls := PySem.Value.type "tuple", data := PySem.Data.seq #[] }) ::
  (nat_lit 263, { cls := PySem.Value.type "tuple", data := PySem.Data.seq #[PySem.Value.str (PySem.Str.ofString "self") 493, PySem.Value.str (PySem.Str.ofString "size") 494, PySem.Value.str (PySem.Str.ofString "start") 495, PySem.Value.str (PySem.Str.ofString "stop") 496] }) ::
  (nat_lit 264, { cls := PySem.Value.type "tuple", data := PySem.Data.seq #[] }) ::
  (nat_lit 266, { cls := PySem.Value.type "code", data := PySem.Data.fields #[PySem.Value.str (PySem.Str.ofString "read") 490, PySem.Value.str (PySem.Str.ofString "BytesIO.read") 491, PySem.Value.str (PySem.Str.ofString "/claim/cut.py") 492, PySem.Value.int 141 0, PySem.Value.int 2 0, PySem.Value.int 2 0, PySem.Value.int 0 0, PySem.Value.int 3 0, PySem.Value.ref 261, PySem.Value.bool Bool.true, PySem.Value.int 181 0, PySem.Value.ref 262, PySem.Value.none, PySem.Value.ref 263, PySem.Value.ref 264, PySem.Value.ref 265, PySem.Value.int 497 0, PySem.Value.int 141 0, PySem.Value.str (PySem.Str.ofString "/claim/cut.py") 498] }) ::
  (nat_lit 267, ⟨PySem.Value.type "function", Option.none, .func (by refine' (?f : ∀ (ps : PySem.Arguments) (b : List PySem.Stmt) (sc : PySem.Scope), Mine.defnAt [13, 20] = some (ps, b, sc) → PySem.FuncData) _ _ _ ?pf; (case pf => rfl); (case f => exact fun ps b sc _ => ⟨PySem.Str.ofString "read", PySem.Str.ofString "BytesIO.read", ps, .stmts b, sc, (3), ([]), (PySem.Value.ref 260), (PySem.Value.none), (PySem.Value.none), (PySem.Value.str (PySem.Str.ofString "io") 222), (Option.none), (PySem.Value.ref 266), (PySem.Value.none), (0)⟩)), #[]⟩) ::
  (nat_lit 268, { cls := PySem.Value.type "tuple", data := PySem.Data.seq #[PySem.Value.int (-1) 501] }) ::
  (nat_lit 269, { cls := PySem.Value.type "tuple", data := PySem.Data.seq #[] }) ::
  (nat_lit 271, { cls := PySem.Value.type "tuple", data := PySem.Data.seq #[PySem.Value.str (PySem.Str.ofString "self") 505, PySem.Value.str (PySem.Str.ofString "size") 506] }) ::
  (nat_lit 272, { cls := PySem.Value.type "tuple", data := PySem.Data.seq #[] }) ::
  (nat_lit 274, { cls := PySem.Value.type "code", data := PySem.Data.fields #[PySem.Value.str (PySem.Str.ofString "read1") 502, PySem.Value.str (PySem.Str.ofString "BytesIO.read1") 503, PySem.Value.str (PySem.Str.ofString "/claim/cut.py") 504, PySem.Value.int 155 0, PySem.Value.int 2 0, PySem.Value.int 2 0, PySem.Value.int 0 0, PySem.Value.int 3 0, PySem.Value.ref 269, PySem.Value.bool Bool.true, PySem.Value.int 181 0, PySem.Value.ref 270, PySem.Value.none, PySem.Value.ref 271, PySem.Value.ref 272, PySem.Value.ref 273, PySem.Value.int 507 0, PySem.Value.int 155 0, PySem.Value.str (PySem.Str.ofString "/claim/cut.py") 508] }) ::
  (nat_lit 275, ⟨PySem.Value.type "function", Option.none, .func (by refine' (?f : ∀ (ps : PySem.Arguments) (b : List PySem.Stmt) (sc : PySem.Scope), Mine.defnAt [13, 21] = some (ps, b, sc) → PySem.FuncData) _ _ _ ?pf; (case pf => rfl); (case f => exact fun ps b sc _ => ⟨PySem.Str.ofString "read1", PySem.Str.ofString "BytesIO.read1", ps, .stmts b, sc, (3), ([]), (PySem.Value.ref 268), (PySem.Value.none), (PySem.Value.none), (PySem.Value.str (PySem.Str.ofString "io") 222), (Option.none), (PySem.Value.ref 274), (PySem.Value.none), (0)⟩)), #[]⟩) ::
  (nat_lit 276, { cls := PySem.Value.type "tuple", data := PySem.Data.seq #[] }) ::
  (nat_lit 278, { cls := PySem.Value.type "tuple", data := PySem.Data.seq #[PySem.Value.str (PySem.Str.ofString "self") 513, PySem.Value.str (PySem.Str.ofString "buffer") 514, PySem.Value.str (PySem.Str.ofString "start") 515, PySem.Value.str (PySem.Str.ofString "n") 516] }) ::
  (nat_lit 279, { cls := PySem.Value.type "tuple", data := PySem.Data.seq #[] }) ::
  (nat_lit 281, { cls := PySem.Value.type "code", data := PySem.Data.fields #[PySem.Value.str (PySem.Str.ofString "readinto") 510, PySem.Value.str (PySem.Str.ofString "BytesIO.readinto") 511, PySem.Value.str (PySem.Str.ofString "/claim/cut.py") 512, PySem.Value.int 158 0, PySem.Value.int 2 0, PySem.Value.int 2 0, PySem.Value.int 0 0, PySem.Value.int 3 0, PySem.Value.ref 276, PySem.Value.bool Bool.true, PySem.Value.int 181 0, PySem.Value.ref 277, PySem.Value.none, PySem.Value.ref 278, PySem.Value.ref 279, PySem.Value.ref 280, PySem.Value.int 517 0, PySem.Value.int 158 0, PySem.Value.str (PySem.Str.ofString "/claim/cut.py") 518] }) ::
  (nat_lit 282, ⟨PySem.Value.type "function", Option.none, .func (by refine' (?f : ∀ (ps : PySem.Arguments) (b : List PySem.Stmt) (sc : PySem.Scope), Mine.defnAt [13, 22] = some (ps, b, sc) → PySem.FuncData) _ _ _ ?pf; (case pf => rfl); (case f => exact fun ps b sc _ => ⟨PySem.Str.ofString "readinto", PySem.Str.ofString "BytesIO.readinto", ps, .stmts b, sc, (3), ([]), (PySem.Value.none), (PySem.Value.none), (PySem.Value.none), (PySem.Value.str (PySem.Str.ofString "io") 222), (Option.none), (PySem.Value.ref 281), (PySem.Value.none), (0)⟩)), #[]⟩) ::
  (nat_lit 283, { cls := PySem.Value.type "tuple", data := PySem.Data.seq #[] }) ::
  (nat_lit 285, { cls := PySem.Value.type "tuple", data := PySem.Data.seq #[PySem.Value.str (PySem.Str.ofString "self") 523, PySem.Value.str (PySem.Str.ofString "buffer") 524] }) ::
  (nat_lit 286, { cls := PySem.Value.type "tuple", data := PySem.Data.seq #[] }) ::
  (nat_lit 288, { cls := PySem.Value.type "code", data := PySem.Data.fields #[PySem.Value.str (PySem.Str.ofString "readinto1") 520, PySem.Value.str (PySem.Str.ofString "BytesIO.readinto1") 521, PySem.Value.str (PySem.Str.ofString "/claim/cut.py") 522, PySem.Value.int 172 0, PySem.Value.int 2 0, PySem.Value.int 2 0, PySem.Value.int 0 0, PySem.Value.int 3 0, PySem.Value.ref 283, PySem.Value.bool Bool.true, PySem.Value.int 181 0, PySem.Value.ref 284, PySem.Value.none, PySem.Value.ref 285, PySem.Value.ref 286, PySem.Value.ref 287, PySem.Value.int 525 0, PySem.Value.int 172 0, PySem.Value.str (PySem.Str.ofString "/claim/cut.py") 526] }) ::
  (nat_lit 289, ⟨PySem.Value.type "function", Option.none, .func (by refine' (?f : ∀ (ps : PySem.Arguments) (b : List PySem.Stmt) (sc : PySem.Scope), Mine.defnAt [13, 23] = some (ps, b, sc) → PySem.FuncData) _ _ _ ?pf; (case pf => rfl); (case f => exact fun ps b sc _ => ⟨PySem.Str.ofString "readinto1", PySem.Str.ofString "BytesIO.readinto1", ps, .stmts b, sc, (3), ([]), (PySem.Value.none), (PySem.Value.none), (PySem.Value.none), (PySem.Value.str (PySem.Str.ofString "io") 222), (Option.none), (PySem.Value.ref 288), (PySem.Value.none), (0)⟩)), #[]⟩) ::
  (nat_lit 290, { cls := PySem.Value.type "tuple", data := PySem.Data.seq #[PySem.Value.int (-1) 529] }) ::
  (nat_lit 291, { cls := PySem.Value.type "tuple", data := PySem.Data.seq #[] }) ::
  (nat_lit 293, { cls := PySem.Value.type "tuple", data := PySem.Data.seq #[PySem.Value.str (PySem.Str.ofString "self") 533, PySem.Value.str (PySem.Str.ofString "size") 534] }) ::
  (nat_lit 294, { cls := PySem.Value.type "tuple", data := PySem.Data.seq #[] }) ::
  (nat_lit 296, { cls := PySem.Value.type "code", data := PySem.Data.fields #[PySem.Value.str (PySem.Str.ofString "readline") 530, PySem.Value.str (PySem.Str.ofString "BytesIO.readline") 531, PySem.Value.str (PySem.Str.ofString "/claim/cut.py") 532, PySem.Value.int 175 0, PySem.Value.int 2 0, PySem.Value.int 2 0, PySem.Value.int 0 0, PySem.Value.int 3 0, PySem.Value.ref 291, PySem.Value.bool Bool.true, PySem.Value.int 181 0, PySem.Value.ref 292, PySem.Value.none, PySem.Value.ref 293, PySem.Value.ref 294, PySem.Value.ref 295, PySem.Value.int 535 0, PySem.Value.int 175 0, PySem.Value.str (PySem.Str.ofString "/claim/cut.py") 536] }) ::
  (nat_lit 297, ⟨PySem.Value.type "function", Option.none, .func (by refine' (?f : ∀ (ps : PySem.Arguments) (b : List PySem.Stmt) (sc : PySem.Scope), Mine.defnAt [13, 24] = some (ps, b, sc) → PySem.FuncData) _ _ _ ?pf; (case pf => rfl); (case f => exact fun ps b sc _ => ⟨PySem.Str.ofString "readline", PySem.Str.ofString "BytesIO.readline", ps, .stmts b, sc, (3), ([]), (PySem.Value.ref 290), (PySem.Value.none), (PySem.Value.none), (PySem.Value.str (PySem.Str.ofString "io") 222), (Option.none), (PySem.Value.ref 296), (PySem.Value.none), (0)⟩)), #[]⟩) ::
  (nat_lit 298, { cls := PySem.Value.type "tuple", data := PySem.Data.seq #[PySem.Value.none] }) ::
  (nat_lit 299, { cls := PySem.Value.type "tuple", data := PySem.Data.seq #[] }) ::
  (nat_lit 301, { cls := PySem.Value.type "tuple", data := PySem.Data.seq #[PySem.Value.str (PySem.Str.ofString "self") 541, PySem.Value.str (PySem.Str.ofString "size") 542] }) ::
  (nat_lit 302, { cls := PySem.Value.type "tuple", data := PySem.Data.seq #[] }) ::
  (nat_lit 304, { cls := PySem.Value.type "code", data := PySem.Data.fields #[PySem.Value.str (PySem.Str.ofString "readlines") 538, PySem.Value.str (PySem.Str.ofString "BytesIO.readlines") 539, PySem.Value.str (PySem.Str.ofString "/claim/cut.py") 540, PySem.Value.int 182 0, PySem.Value.int 2 0, PySem.Value.int 2 0, PySem.Value.int 0 0, PySem.Value.int 3 0, PySem.Value.ref 299, PySem.Value.bool Bool.true, PySem.Value.int 181 0, PySem.Value.ref 300, PySem.Value.none, PySem.Value.ref 301, PySem.Value.ref 302, PySem.Value.ref 303, PySem.Value.int 543 0, PySem.Value.int 182 0, PySem.Value.str (PySem.Str.ofString "/claim/cut.py") 544] }) ::
  (nat_lit 305, ⟨PySem.Value.type "function", Option.none, .func (by refine' (?f : ∀ (ps : PySem.Arguments) (b : List PySem.Stmt) (sc : PySem.Scope), Mine.defnAt [13, 25] = some (ps, b, sc) → PySem.FuncData) _ _ _ ?pf; (case pf => rfl); (case f => exact fun ps b sc _ => ⟨PySem.Str.ofString "readlines", PySem.Str.ofString "BytesIO.readlines", ps, .stmts b, sc, (3), ([]), (PySem.Value.ref 298), (PySem.Value.none), (PySem.Value.none), (PySem.Value.str (PySem.Str.ofString "io") 222), (Option.none), (PySem.Value.ref 304), (PySem.Value.none), (0)⟩)), #[]⟩) ::
  (nat_lit 306, { cls := PySem.Value.type "tuple", data := PySem.Data.seq #[] }) ::
  (nat_lit 308, { cls := PySem.Value.type "tuple", data := PySem.Data.seq #[PySem.Value.str (PySem.Str.ofString "self") 549] }) ::
  (nat_lit 309, { cls := PySem.Value.type "tuple", data := PySem.Data.seq #[] }) ::
  (nat_lit 311, { cls := PySem.Value.type "code", data := PySem.Data.fields #[PySem.Value.str (PySem.Str.ofString "__iter__") 546, PySem.Value.str (PySem.Str.ofString "BytesIO.__iter__") 547, PySem.Value.str (PySem.Str.ofString "/claim/cut.py") 548, PySem.Value.int 185 0, PySem.Value.int 1 0, PySem.Value.int 0 0, PySem.Value.int 0 0, PySem.Value.int 3 0, PySem.Value.ref 306, PySem.Value.bool Bool.true, PySem.Value.int 181 0, PySem.Value.ref 307, PySem.Value.none, PySem.Value.ref 308, PySem.Value.ref 309, PySem.Value.ref 310, PySem.Value.int 550 0, PySem.Value.int 185 0, PySem.Value.str (PySem.Str.ofString "/claim/cut.py") 551] }) ::
  (nat_lit 312, ⟨PySem.Value.type "function", Option.none, .func (by refine' (?f : ∀ (ps : PySem.Arguments) (b : List PySem.Stmt) (sc : PySem.Scope), Mine.defnAt [13, 26] = some (ps, b, sc) → PySem.FuncData) _ _ _ ?pf; (case pf => rfl); (case f => exact fun ps b sc _ => ⟨PySem.Str.ofString "__iter__", PySem.Str.ofString "BytesIO.__iter__", ps, .stmts b, sc, (3), ([]), (PySem.Value.none), (PySem.Value.none), (PySem.Value.none), (PySem.Value.str (PySem.Str.ofString "io") 222), (Option.none), (PySem.Value.ref 311), (PySem.Value.none), (0)⟩)), #[]⟩) ::
  (nat_lit 313, { cls := PySem.Value.type "tuple", data := PySem.Data.seq #[] }) ::
  (nat_lit 315, { cls := PySem.Value.type "tuple", data := PySem.Data.seq #[PySem.Value.str (PySem.Str.ofString "self") 556, PySem.Value.str (PySem.Str.ofString "line") 557] }) ::
  (nat_lit 316, { cls := PySem.Value.type "tuple", data := PySem.Data.seq #[] }) ::
  (nat_lit 318, { cls := PySem.Value.type "code", data := PySem.Data.fields #[PySem.Value.str (PySem.Str.ofString "__next__") 553, PySem.Value.str (PySem.Str.ofString "BytesIO.__next__") 554, PySem.Value.str (PySem.Str.ofString "/claim/cut.py") 555, PySem.Value.int 188 0, PySem.Value.int 1 0, PySem.Value.int 0 0, PySem.Value.int 0 0, PySem.Value.int 3 0, PySem.Value.ref 313, PySem.Value.bool Bool.true, PySem.Value.int 181 0, PySem.Value.ref 314, PySem.Value.none, PySem.Value.ref 315, PySem.Value.ref 316, PySem.Value.ref 317, PySem.Value.int 558 0, PySem.Value.int 188 0, PySem.Value.str (PySem.Str.ofString "/claim/cut.py") 559] }) ::
  (nat_lit 319, ⟨PySem.Value.type "function", Option.none, .func (by refine' (?f : ∀ (ps : PySem.Arguments) (b : List PySem.Stmt) (sc : PySem.Scope), Mine.defnAt [13, 27] = some (ps, b, sc) → PySem.FuncData) _ _ _ ?pf; (case pf => rfl); (case f => exact fun ps b sc _ => ⟨PySem.Str.ofString "__next__", PySem.Str.ofString "BytesIO.__next__", ps, .stmts b, sc, (3), ([]), (PySem.Value.none), (PySem.Value.none), (PySem.Value.none), (PySem.Value.str (PySem.Str.ofString "io") 222), (Option.none), (PySem.Value.ref 318), (PySem.Value.none), (0)⟩)), #[]⟩) ::
  (nat_lit 320, { cls := PySem.Value.type "tuple", data := PySem.Data.seq #[] }) ::
  (nat_lit 322, { cls := PySem.Value.type "tuple", data := PySem.Data.seq #[PySem.Value.str (PySem.Str.ofString "self") 564, PySem.Value.str (PySem.Str.ofString "b") 565, PySem.Value.str (PySem.Str.ofString "n") 566, PySem.Value.str (PySem.Str.ofString "start") 567] }) ::
  (nat_lit 323, { cls := PySem.Value.type "tuple", data := PySem.Data.seq #[] }) ::
  (nat_lit 325, { cls := PySem.Value.type "code", data := PySem.Data.fields #[PySem.Value.str (PySem.Str.ofString "write") 561, PySem.Value.str (PySem.Str.ofString "BytesIO.write") 562, PySem.Value.str (PySem.Str.ofString "/claim/cut.py") 563, PySem.Value.int 195 0, PySem.Value.int 2 0, PySem.Value.int 2 0, PySem.Value.int 0 0, PySem.Value.int 3 0, PySem.Value.ref 320, PySem.Value.bool Bool.true, PySem.Value.int 181 0, PySem.Value.ref 321, PySem.Value.none, PySem.Value.ref 322, PySem.Value.ref 323, PySem.Value.ref 324, PySem.Value.int 568 0, PySem.Value.int 195 0, PySem.Value.str (PySem.Str.ofString "/claim/cut.py") 569] }) ::
  (nat_lit 326, ⟨PySem.Value.type "function", Option.none, .func (by refine' (?f : ∀ (ps : PySem.Arguments) (b : List PySem.Stmt) (sc : PySem.Scope), Mine.defnAt [13, 28] = some (ps, b, sc) → PySem.FuncData) _ _ _ ?pf; (case pf => rfl); (case f => exact fun ps b sc _ => ⟨PySem.Str.ofString "write", PySem.Str.ofString "BytesIO.write", ps, .stmts b, sc, (3), ([]), (PySem.Value.none), (PySem.Value.none), (PySem.Value.none), (PySem.Value.str (PySem.Str.ofString "io") 222), (Option.none), (PySem.Value.ref 325), (PySem.Value.none), (0)⟩)), #[]⟩) ::
  (nat_lit 327, { cls := PySem.Value.type "tuple", data := PySem.Data.seq #[] }) ::
  (nat_lit 329, { cls := PySem.Value.type "tuple", data := PySem.Data.seq #[PySem.Value.str (PySem.Str.ofString "self") 574, PySem.Value.str (PySem.Str.ofString "lines") 575] }) ::
  (nat_lit 330, { cls := PySem.Value.type "tuple", data := PySem.Data.seq #[] }) ::
  (nat_lit 332, { cls := PySem.Value.type "code", data := PySem.Data.fields #[PySem.Value.str (PySem.Str.ofString "writelines") 571, PySem.Value.str (PySem.Str.ofString "BytesIO.writelines") 572, PySem.Value.str (PySem.Str.ofString "/claim/cut.py") 573, PySem.Value.int 211 0, PySem.Value.int 2 0, PySem.Value.int 2 0, PySem.Value.int 0 0, PySem.Value.int 3 0, PySem.Value.ref 327, PySem.Value.bool Bool.true, PySem.Value.int 181 0, PySem.Value.ref 328, PySem.Value.none, PySem.Value.ref 329, PySem.Value.ref 330, PySem.Value.ref 331, PySem.Value.int 576 0, PySem.Value.int 211 0, PySem.Value.str (PySem.Str.ofString "/claim/cut.py") 577] }) ::
  (nat_lit 333, ⟨PySem.Value.type "function", Option.none, .func (by refine' (?f : ∀ (ps : PySem.Arguments) (b : List PySem.Stmt) (sc : PySem.Scope), Mine.defnAt [13, 29] = some (ps, b, sc) → PySem.FuncData) _ _ _ ?pf; (case pf => rfl); (case f => exact fun ps b sc _ => ⟨PySem.Str.ofString "writelines", PySem.Str.ofString "BytesIO.writelines", ps, .stmts b, sc, (3), ([]), (PySem.Value.none), (PySem.Value.none), (PySem.Value.none), (PySem.Value.str (PySem.Str.ofString "io") 222), (Option.none), (PySem.Value.ref 332), (PySem.Value.none), (0)⟩)), #[]⟩) ::
  (nat_lit 334, { cls := PySem.Value.type "tuple", data := PySem.Data.seq #[] }) ::
  (nat_lit 336, { cls := PySem.Value.type "tuple", data := PySem.Data.seq #[PySem.Value.str (PySem.Str.ofString "self") 582] }) ::
  (nat_lit 337, { cls := PySem.Value.type "tuple", data := PySem.Data.seq #[] }) ::
  (nat_lit 339, { cls := PySem.Value.type "code", data := PySem.Data.fields #[PySem.Value.str (PySem.Str.ofString "__repr__") 579, PySem.Value.str (PySem.Str.ofString "BytesIO.__repr__") 580, PySem.Value.str (PySem.Str.ofString "/claim/cut.py") 581, PySem.Value.int 214 0, PySem.Value.int 1 0, PySem.Value.int 0 0, PySem.Value.int 0 0, PySem.Value.int 3 0, PySem.Value.ref 334, PySem.Value.bool Bool.true, PySem.Value.int 181 0, PySem.Value.ref 335, PySem.Value.none, PySem.Value.ref 336, PySem.Value.ref 337, PySem.Value.ref 338, PySem.Value.int 583 0, PySem.Value.int 214 0, PySem.Value.str (PySem.Str.ofString "/claim/cut.py") 584] }) ::
  (nat_lit 340, ⟨PySem.Value.type "function", Option.none, .func (by refine' (?f : ∀ (ps : PySem.Arguments) (b : List PySem.Stmt) (sc : PySem.Scope), Mine.defnAt [13, 30] = some (ps, b, sc) → PySem.FuncData) _ _ _ ?pf; (case pf => rfl); (case f => exact fun ps b sc _ => ⟨PySem.Str.ofString "__repr__", PySem.Str.ofString "BytesIO.__repr__", ps, .stmts b, sc, (3), ([]), (PySem.Value.none), (PySem.Value.none), (PySem.Value.none), (PySem.Value.str (PySem.Str.ofString "io") 222), (Option.none), (PySem.Value.ref 339), (PySem.Value.none), (0)⟩)), #[]⟩) ::
  (nat_lit 341, { cls := PySem.Value.type "tuple", data := PySem.Data.seq #[PySem.Value.str (PySem.Str.ofString "__buf") 586, PySem.Value.str (PySem.Str.ofString "__pos") 587] }) ::
  (nat_lit 342, { cls := PySem.Value.type "dict", data := PySem.Data.dict #[{ hash := PySem.PyData.keyHash P (PySem.Str.ofString "__module__"), key := PySem.Value.str (PySem.Str.ofString "__module__") 337, val := PySem.Value.str (PySem.Str.ofString "_io") 342 }, { hash := PySem.PyData.keyHash P (PySem.Str.ofString "__firstlineno__"), key := PySem.Value.str (PySem.Str.ofString "__firstlineno__") 341, val := PySem.Value.int 46 340 }, { hash := PySem.PyData.keyHash P (PySem.Str.ofString "__init__"), key := PySem.Value.str (PySem.Str.ofString "__init__") 351, val := PySem.Value.ref 130 }, { hash := PySem.PyData.keyHash P (PySem.Str.ofString "_BytesIO__check"), key := PySem.Value.str (PySem.Str.ofString "_BytesIO__check") 358, val := PySem.Value.ref 137 }, { hash := PySem.PyData.keyHash P (PySem.Str.ofString "_BytesIO__line"), key := PySem.Value.str (PySem.Str.ofString "_BytesIO__line") 369, val := PySem.Value.ref 144 }, { hash := PySem.PyData.keyHash P (PySem.Str.ofString "closed"), key := PySem.Value.str (PySem.Str.ofString "closed") 377, val := PySem.Value.ref 152 }, { hash := PySem.PyData.keyHash P (PySem.Str.ofString "close"), key := PySem.Value.str (PySem.Str.ofString "close") 384, val := PySem.Value.ref 159 }, { hash := PySem.PyData.keyHash P (PySem.Str.ofString "__enter__"), key := PySem.Value.str (PySem.Str.ofString "__enter__") 391, val := PySem.Value.ref 166 }, { hash := PySem.PyData.keyHash P (PySem.Str.ofString "__exit__"), key := PySem.Value.str (PySem.Str.ofString "__exit__") 399, val := PySem.Value.ref 173 }, { hash := PySem.PyData.keyHash P (PySem.Str.ofString "readable"), key := PySem.Value.str (PySem.Str.ofString "readable") 406, val := PySem.Value.ref 180 }, { hash := PySem.PyData.keyHash P (PySem.Str.ofString "writable"), key := PySem.Value.str (PySem.Str.ofString "writable") 413, val := PySem.Value.ref 187 }, { hash := PySem.PyData.keyHash P (PySem.Str.ofString "seekable"), key := PySem.Value.str (PySem.Str.ofString "seekable") 420, val := PySem.Value.ref 194 }, { hash := PySem.PyData.keyHash P (PySem.Str.ofString "isatty"), key := PySem.Value.str (PySem.Str.ofString "isatty") 427, val := PySem.Value.ref 201 }, { hash := PySem.PyData.keyHash P (PySem.Str.ofString "flush"), key := PySem.Value.str (PySem.Str.ofString "flush") 434, val := PySem.Value.ref 208 }, { hash := PySem.PyData.keyHash P (PySem.Str.ofString "fileno"), key := PySem.Value.str (PySem.Str.ofString "fileno") 441, val := PySem.Value.ref 215 }, { hash := PySem.PyData.keyHash P (PySem.Str.ofString "detach"), key := PySem.Value.str (PySem.Str.ofString "detach") 448, val := PySem.Value.ref 222 }, { hash := PySem.PyData.keyHash P (PySem.Str.ofString "getvalue"), key := PySem.Value.str (PySem.Str.ofString "getvalue") 455, val := PySem.Value.ref 229 }, { hash := PySem.PyData.keyHash P (PySem.Str.ofString "getbuffer"), key := PySem.Value.str (PySem.Str.ofString "getbuffer") 462, val := PySem.Value.ref 236 }, { hash := PySem.PyData.keyHash P (PySem.Str.ofString "tell"), key := PySem.Value.str (PySem.Str.ofString "tell") 469, val := PySem.Value.ref 243 }, { hash := PySem.PyData.keyHash P (PySem.Str.ofString "seek"), key := PySem.Value.str (PySem.Str.ofString "seek") 479, val := PySem.Value.ref 251 }, { hash := PySem.PyData.keyHash P (PySem.Str.ofString "truncate"), key := PySem.Value.str (PySem.Str.ofString "truncate") 487, val := PySem.Value.ref 259 }, { hash := PySem.PyData.keyHash P (PySem.Str.ofString "read"), key := PySem.Value.str (PySem.Str.ofString "read") 499, val := PySem.Value.ref 267 }, { hash := PySem.PyData.keyHash P (PySem.Str.ofString "read1"), key := PySem.Value.str (PySem.Str.ofString "read1") 509, val := PySem.Value.ref 275 }, { hash := PySem.PyData.keyHash P (PySem.Str.ofString "readinto"), key := PySem.Value.str (PySem.Str.ofString "readinto") 519, val := PySem.Value.ref 282 }, { hash := PySem.PyData.keyHash P (PySem.Str.ofString "readinto1"), key := PySem.Value.str (PySem.Str.ofString "readinto1") 527, val := PySem.Value.ref 289 }, { hash := PySem.PyData.keyHash P (PySem.Str.ofString "readline"), key := PySem.Value.str (PySem.Str.ofString "readline") 537, val := PySem.Value.ref 297 }, { hash := PySem.PyData.keyHash P (PySem.Str.ofString "readlines"), key := PySem.Value.str (PySem.Str.ofString "readlines") 545, val := PySem.Value.ref 305 }, { hash := PySem.PyData.keyHash P (PySem.Str.ofString "__iter__"), key := PySem.Value.str (PySem.Str.ofString "__iter__") 552, val := PySem.Value.ref 312 }, { hash := PySem.PyData.keyHash P (PySem.Str.ofString "__next__"), key := PySem.Value.str (PySem.Str.ofString "__next__") 560, val := PySem.Value.ref 319 }, { hash := PySem.PyData.keyHash P (PySem.Str.ofString "write"), key := PySem.Value.str (PySem.Str.ofString "write") 570, val := PySem.Value.ref 326 }, { hash := PySem.PyData.keyHash P (PySem.Str.ofString "writelines"), key := PySem.Value.str (PySem.Str.ofString "writelines") 578, val := PySem.Value.ref 333 }, { hash := PySem.PyData.keyHash P (PySem.Str.ofString "__repr__"), key := PySem.Value.str (PySem.Str.ofString "__repr__") 585, val := PySem.Value.ref 340 }, { hash := PySem.PyData.keyHash P (PySem.Str.ofString "__static_attributes__"), key := PySem.Value.str (PySem.Str.ofString "__static_attributes__") 588, val := PySem.Value.ref 341 }, { hash := PySem.PyData.keyHash P (PySem.Str.ofString "__doc__"), key := PySem.Value.str (PySem.Str.ofString "__doc__") 589, val := PySem.Value.none }] 2 }) ::
  (nat_lit 343, { cls := PySem.Value.type "type", data := PySem.Data.cls { name := PySem.Str.ofString "BytesIO", bases := [PySem.Value.ref 101], mro := [PySem.Value.ref 343, PySem.Value.ref 101, PySem.Value.ref 86, PySem.Value.type "object"], ns := 342, qualname := PySem.Str.ofString "BytesIO" }, slots := #[Option.some (PySem.Value.ref 116), Option.none, Option.some (PySem.Value.str (PySem.Str.ofString "BytesIO") 330), Option.some (PySem.Value.str (PySem.Str.ofString "BytesIO") 338), Option.some PySem.Value.none, Option.some (PySem.Value.bool Bool.true)] }) ::
  (nat_lit 346, { cls := PySem.Value.type "tuple", data := PySem.Data.seq #[PySem.Value.ref 113] }) ::
  (nat_lit 588, { cls := PySem.Value.type "tuple", data := PySem.Data.seq #[PySem.Value.str (PySem.Str.ofString "__buf") 872, PySem.Value.str (PySem.Str.ofString "__newline") 873, PySem.Value.str (PySem.Str.ofString "__pos") 874] }) ::
  (nat_lit 589, { cls := PySem.Value.type "dict", data := PySem.Data.dict #[{ hash := PySem.PyData.keyHash P (PySem.Str.ofString "__module__"), key := PySem.Value.str (PySem.Str.ofString "__module__") 599, val := PySem.Value.str (PySem.Str.ofString "_io") 604 }, { hash := PySem.PyData.keyHash P (PySem.Str.ofString "__firstlineno__"), key := PySem.Value.str (PySem.Str.ofString "__firstlineno__") 603, val := PySem.Value.int 216 602 }, { hash := PySem.PyData.keyHash P (PySem.Str.ofString "__init__"), key := PySem.Value.str (PySem.Str.ofString "__init__") 616, val := PySem.Value.ref 360 }, { hash := PySem.PyData.keyHash P (PySem.Str.ofString "_StringIO__translated"), key := PySem.Value.str (PySem.Str.ofString "_StringIO__translated") 625, val := PySem.Value.ref 367 }, { hash := PySem.PyData.keyHash P (PySem.Str.ofString "_StringIO__check"), key := PySem.Value.str (PySem.Str.ofString "_StringIO__check") 632, val := PySem.Value.ref 374 }, { hash := PySem.PyData.keyHash P (PySem.Str.ofString "_StringIO__check_dot"), key := PySem.Value.str (PySem.Str.ofString "_StringIO__check_dot") 639, val := PySem.Value.ref 381 }, { hash := PySem.PyData.keyHash P (PySem.Str.ofString "_StringIO__line"), key := PySem.Value.str (PySem.Str.ofString "_StringIO__line") 654, val := PySem.Value.ref 388 }, { hash := PySem.PyData.keyHash P (PySem.Str.ofString "closed"), key := PySem.Value.str (PySem.Str.ofString "closed") 662, val := PySem.Value.ref 396 }, { hash := PySem.PyData.keyHash P (PySem.Str.ofString "line_buffering"), key := PySem.Value.str (PySem.Str.ofString "line_buffering") 670, val := PySem.Value.ref 404 }, { hash := PySem.PyData.keyHash P (PySem.Str.ofString "newlines"), key := PySem.Value.str (PySem.Str.ofString "newlines") 678, val := PySem.Value.ref 412 }, { hash := PySem.PyData.keyHash P (PySem.Str.ofString "encoding"), key := PySem.Value.str (PySem.Str.ofString "encoding") 686, val := PySem.Value.ref 420 }, { hash := PySem.PyData.keyHash P (PySem.Str.ofString "errors"), key := PySem.Value.str (PySem.Str.ofString "errors") 694, val := PySem.Value.ref 428 }, { hash := PySem.PyData.keyHash P (PySem.Str.ofString "close"), key := PySem.Value.str (PySem.Str.ofString "close") 701, val := PySem.Value.ref 435 }, { hash := PySem.PyData.keyHash P (PySem.Str.ofString "__enter__"), key := PySem.Value.str (PySem.Str.ofString "__enter__") 708, val := PySem.Value.ref 442 }, { hash := PySem.PyData.keyHash P (PySem.Str.ofString "__exit__"), key := PySem.Value.str (PySem.Str.ofString "__exit__") 716, val := PySem.Value.ref 449 }, { hash := PySem.PyData.keyHash P (PySem.Str.ofString "readable"), key := PySem.Value.str (PySem.Str.ofString "readable") 723, val := PySem.Value.ref 456 }, { hash := PySem.PyData.keyHash P (PySem.Str.ofString "writable"), key := PySem.Value.str (PySem.Str.ofString "writable") 730, val := PySem.Value.ref 463 }, { hash := PySem.PyData.keyHash P (PySem.Str.ofString "seekable"), key := PySem.Value.str (PySem.Str.ofString "seekable") 737, val := PySem.Value.ref 470 }, { hash := PySem.PyData.keyHash P (PySem.Str.ofString "isatty"), key := PySem.Value.str (PySem.Str.ofString "isatty") 744, val := PySem.Value.ref 477 }, { hash := PySem.PyData.keyHash P (PySem.Str.ofString "flush"), key := PySem.Value.str (PySem.Str.ofString "flush") 751, val := PySem.Value.ref 484 }, { hash := PySem.PyData.keyHash P (PySem.Str.ofString "fileno"), key := PySem.Value.str (PySem.Str.ofString "fileno") 758, val := PySem.Value.ref 491 }, { hash := PySem.PyData.keyHash P (PySem.Str.ofString "detach"), key := PySem.Value.str (PySem.Str.ofString "detach") 765, val := PySem.Value.ref 498 }, { hash := PySem.PyData.keyHash P (PySem.Str.ofString "getvalue"), key := PySem.Value.str (PySem.Str.ofString "getvalue") 772, val := PySem.Value.ref 505 }, { hash := PySem.PyData.keyHash P (PySem.Str.ofString "tell"), key := PySem.Value.str (PySem.Str.ofString "tell") 779, val := PySem.Value.ref 512 }, { hash := PySem.PyData.keyHash P (PySem.Str.ofString "seek"), key := PySem.Value.str (PySem.Str.ofString "seek") 789, val := PySem.Value.ref 520 }, { hash := PySem.PyData.keyHash P (PySem.Str.ofString "truncate"), key := PySem.Value.str (PySem.Str.ofString "truncate") 797, val := PySem.Value.ref 528 }, { hash := PySem.PyData.keyHash P (PySem.Str.ofString "read"), key := PySem.Value.str (PySem.Str.ofString "read") 809, val := PySem.Value.ref 536 }, { hash := PySem.PyData.keyHash P (PySem.Str.ofString "readline"), key := PySem.Value.str (PySem.Str.ofString "readline") 819, val := PySem.Value.ref 544 }, { hash := PySem.PyData.keyHash P (PySem.Str.ofString "readlines"), key := PySem.Value.str (PySem.Str.ofString "readlines") 829, val := PySem.Value.ref 552 }, { hash := PySem.PyData.keyHash P (PySem.Str.ofString "__iter__"), key := PySem.Value.str (PySem.Str.ofString "__iter__") 836, val := PySem.Value.ref 559 }, { hash := PySem.PyData.keyHash P (PySem.Str.ofString "__next__"), key := PySem.Value.str (PySem.Str.ofString "__next__") 844, val := PySem.Value.ref 566 }, { hash := PySem.PyData.keyHash P (PySem.Str.ofString "write"), key := PySem.Value.str (PySem.Str.ofString "write") 856, val := PySem.Value.ref 573 }, { hash := PySem.PyData.keyHash P (PySem.Str.ofString "writelines"), key := PySem.Value.str (PySem.Str.ofString "writelines") 864, val := PySem.Value.ref 580 }, { hash := PySem.PyData.keyHash P (PySem.Str.ofString "__repr__"), key := PySem.Value.str (PySem.Str.ofString "__repr__") 871, val := PySem.Value.ref 587 }, { hash := PySem.PyData.keyHash P (PySem.Str.ofString "__static_attributes__"), key := PySem.Value.str (PySem.Str.ofString "__static_attributes__") 875, val := PySem.Value.ref 588 }, { hash := PySem.PyData.keyHash P (PySem.Str.ofString "__doc__"), key := PySem.Value.str (PySem.Str.ofString "__doc__") 876, val := PySem.Value.none }] 2 }) ::
  (nat_lit 590, { cls := PySem.Value.type "type", data := PySem.Data.cls { name := PySem.Str.ofString "StringIO", bases := [PySem.Value.ref 113], mro := [PySem.Value.ref 590, PySem.Value.ref 113, PySem.Value.ref 86, PySem.Value.type "object"], ns := 589, qualname := PySem.Str.ofString "StringIO" }, slots := #[Option.some (PySem.Value.ref 346), Option.none, Option.some (PySem.Value.str (PySem.Str.ofString "StringIO") 592), Option.some (PySem.Value.str (PySem.Str.ofString "StringIO") 600), Option.some PySem.Value.none, Option.some (PySem.Value.bool Bool.true)] }) ::
  (nat_lit 593, { cls := PySem.Value.type "tuple", data := PySem.Data.seq #[] }) ::
  (nat_lit 595, { cls := PySem.Value.type "tuple", data := PySem.Data.seq #[PySem.Value.str (PySem.Str.ofString "f") 884, PySem.Value.str (PySem.Str.ofString "n") 885, PySem.Value.str (PySem.Str.ofString "data") 886] }) ::
  (nat_lit 596, { cls := PySem.Value.type "tuple", data := PySem.Data.seq #[] }) ::
  (nat_lit 598, { cls := PySem.Value.type "code", data := PySem.Data.fields #[PySem.Value.str (PySem.Str.ofString "read_long1") 881, PySem.Value.str (PySem.Str.ofString "read_long1") 882, PySem.Value.str (PySem.Str.ofString "/claim/cut.py") 883, PySem.Value.int 422 0, PySem.Value.int 1 0, PySem.Value.int 0 0, PySem.Value.int 0 0, PySem.Value.int 3 0, PySem.Value.ref 593, PySem.Value.bool Bool.true, PySem.Value.int 181 0, PySem.Value.ref 594, PySem.Value.none, PySem.Value.ref 595, PySem.Value.ref 596, PySem.Value.ref 597, PySem.Value.int 887 0, PySem.Value.int 422 0, PySem.Value.str (PySem.Str.ofString "/claim/cut.py") 888] }) ::
  (nat_lit 599, ⟨PySem.Value.type "function", Option.none, .func (by refine' (?f : ∀ (ps : PySem.Arguments) (b : List PySem.Stmt) (sc : PySem.Scope), Mine.defnAt [16] = some (ps, b, sc) → PySem.FuncData) _ _ _ ?pf; (case pf => rfl); (case f => exact fun ps b sc _ => ⟨PySem.Str.ofString "read_long1", PySem.Str.ofString "read_long1", ps, .stmts b, sc, (3), ([]), (PySem.Value.none), (PySem.Value.none), (PySem.Value.none), (PySem.Value.str (PySem.Str.ofString "cpy313.pickletools") 879), (Option.none), (PySem.Value.ref 598), (PySem.Value.none), (0)⟩)), #[]⟩) ::
  (nat_lit 600, { cls := PySem.Value.type "tuple", data := PySem.Data.seq #[] }) ::
  (nat_lit 602, { cls := PySem.Value.type "tuple", data := PySem.Data.seq #[PySem.Value.str (PySem.Str.ofString "x") 895, PySem.Value.str (PySem.Str.ofString "nbytes") 896, PySem.Value.str (PySem.Str.ofString "result") 897] }) ::
  (nat_lit 603, { cls := PySem.Value.type "tuple", data := PySem.Data.seq #[] }) ::
  (nat_lit 605, { cls := PySem.Value.type "code", data := PySem.Data.fields #[PySem.Value.str (PySem.Str.ofString "encode_long") 892, PySem.Value.str (PySem.Str.ofString "encode_long") 893, PySem.Value.str (PySem.Str.ofString "/claim/cut.py") 894, PySem.Value.int 429 0, PySem.Value.int 1 0, PySem.Value.int 0 0, PySem.Value.int 0 0, PySem.Value.int 3 0, PySem.Value.ref 600, PySem.Value.bool Bool.true, PySem.Value.int 181 0, PySem.Value.ref 601, PySem.Value.none, PySem.Value.ref 602, PySem.Value.ref 603, PySem.Value.ref 604, PySem.Value.int 898 0, PySem.Value.int 429 0, PySem.Value.str (PySem.Str.ofString "/claim/cut.py") 899] }) ::
  (nat_lit 606, ⟨PySem.Value.type "function", Option.none, .func (by refine' (?f : ∀ (ps : PySem.Arguments) (b : List PySem.Stmt) (sc : PySem.Scope), Mine.defnAt [18] = some (ps, b, sc) → PySem.FuncData) _ _ _ ?pf; (case pf => rfl); (case f => exact fun ps b sc _ => ⟨PySem.Str.ofString "encode_long", PySem.Str.ofString "encode_long", ps, .stmts b, sc, (3), ([]), (PySem.Value.none), (PySem.Value.none), (PySem.Value.none), (PySem.Value.str (PySem.Str.ofString "cpy313.pickle") 890), (Option.none), (PySem.Value.ref 605), (PySem.Value.none), (0)⟩)), #[]⟩) ::
  (nat_lit 607, { cls := PySem.Value.type "tuple", data := PySem.Data.seq #[] }) ::
  (nat_lit 609, { cls := PySem.Value.type "tuple", data := PySem.Data.seq #[PySem.Value.str (PySem.Str.ofString "script") 906, PySem.Value.str (PySem.Str.ofString "row") 907, PySem.Value.str (PySem.Str.ofString "octets") 908, PySem.Value.str (PySem.Str.ofString "x") 909, PySem.Value.str (PySem.Str.ofString "rest") 910, PySem.Value.str (PySem.Str.ofString "k") 911] }) ::
  (nat_lit 610, { cls := PySem.Value.type "tuple", data := PySem.Data.seq #[] }) ::
  (nat_lit 612, { cls := PySem.Value.type "code", data := PySem.Data.fields #[PySem.Value.str (PySem.Str.ofString "_law_octets") 903, PySem.Value.str (PySem.Str.ofString "_law_octets") 904, PySem.Value.str (PySem.Str.ofString "/claim/cut.py") 905, PySem.Value.int 439 0, PySem.Value.int 1 0, PySem.Value.int 0 0, PySem.Value.int 0 0, PySem.Value.int 3 0, PySem.Value.ref 607, PySem.Value.bool Bool.true, PySem.Value.int 181 0, PySem.Value.ref 608, PySem.Value.none, PySem.Value.ref 609, PySem.Value.ref 610, PySem.Value.ref 611, PySem.Value.int 912 0, PySem.Value.int 439 0, PySem.Value.str (PySem.Str.ofString "/claim/cut.py") 913] }) ::
  (nat_lit 613, ⟨PySem.Value.type "function", Option.none, .func (by refine' (?f : ∀ (ps : PySem.Arguments) (b : List PySem.Stmt) (sc : PySem.Scope), Mine.defnAt [20] = some (ps, b, sc) → PySem.FuncData) _ _ _ ?pf; (case pf => rfl); (case f => exact fun ps b sc _ => ⟨PySem.Str.ofString "_law_octets", PySem.Str.ofString "_law_octets", ps, .stmts b, sc, (3), ([]), (PySem.Value.none), (PySem.Value.none), (PySem.Value.none), (PySem.Value.str (PySem.Str.ofString "law_in0199_01") 901), (Option.none), (PySem.Value.ref 612), (PySem.Value.none), (0)⟩)), #[]⟩) ::
  (nat_lit 614, { cls := PySem.Value.type "tuple", data := PySem.Data.seq #[] }) ::
  (nat_lit 616, { cls := PySem.Value.type "tuple", data := PySem.Data.seq #[PySem.Value.str (PySem.Str.ofString "octets") 918, PySem.Value.str (PySem.Str.ofString "items") 919, PySem.Value.str (PySem.Str.ofString "at") 920] }) ::
  (nat_lit 617, { cls := PySem.Value.type "tuple", data := PySem.Data.seq #[] }) ::
  (nat_lit 619, { cls := PySem.Value.type "code", data := PySem.Data.fields #[PySem.Value.str (PySem.Str.ofString "_law_items") 915, PySem.Value.str (PySem.Str.ofString "_law_items") 916, PySem.Value.str (PySem.Str.ofString "/claim/cut.py") 917, PySem.Value.int 452 0, PySem.Value.int 1 0, PySem.Value.int 0 0, PySem.Value.int 0 0, PySem.Value.int 3 0, PySem.Value.ref 614, PySem.Value.bool Bool.true, PySem.Value.int 181 0, PySem.Value.ref 615, PySem.Value.none, PySem.Value.ref 616, PySem.Value.ref 617, PySem.Value.ref 618, PySem.Value.int 921 0, PySem.Value.int 452 0, PySem.Value.str (PySem.Str.ofString "/claim/cut.py") 922] }) ::
  (nat_lit 620, ⟨PySem.Value.type "function", Option.none, .func (by refine' (?f : ∀ (ps : PySem.Arguments) (b : List PySem.Stmt) (sc : PySem.Scope), Mine.defnAt [21] = some (ps, b, sc) → PySem.FuncData) _ _ _ ?pf; (case pf => rfl); (case f => exact fun ps b sc _ => ⟨PySem.Str.ofString "_law_items", PySem.Str.ofString "_law_items", ps, .stmts b, sc, (3), ([]), (PySem.Value.none), (PySem.Value.none), (PySem.Value.none), (PySem.Value.str (PySem.Str.ofString "law_in0199_01") 901), (Option.none), (PySem.Value.ref 619), (PySem.Value.none), (0)⟩)), #[]⟩) ::
  (nat_lit 621, { cls := PySem.Value.type "tuple", data := PySem.Data.seq #[] }) ::
  (nat_lit 623, { cls := PySem.Value.type "tuple", data := PySem.Data.seq #[PySem.Value.str (PySem.Str.ofString "item") 927, PySem.Value.str (PySem.Str.ofString "number") 928, PySem.Value.str (PySem.Str.ofString "octet") 929] }) ::
  (nat_lit 624, { cls := PySem.Value.type "tuple", data := PySem.Data.seq #[] }) ::
  (nat_lit 626, { cls := PySem.Value.type "code", data := PySem.Data.fields #[PySem.Value.str (PySem.Str.ofString "_law_number") 924, PySem.Value.str (PySem.Str.ofString "_law_number") 925, PySem.Value.str (PySem.Str.ofString "/claim/cut.py") 926, PySem.Value.int 459 0, PySem.Value.int 1 0, PySem.Value.int 0 0, PySem.Value.int 0 0, PySem.Value.int 3 0, PySem.Value.ref 621, PySem.Value.bool Bool.true, PySem.Value.int 181 0, PySem.Value.ref 622, PySem.Value.none, PySem.Value.ref 623, PySem.Value.ref 624, PySem.Value.ref 625, PySem.Value.int 930 0, PySem.Value.int 459 0, PySem.Value.str (PySem.Str.ofString "/claim/cut.py") 931] }) ::
  (nat_lit 627, ⟨PySem.Value.type "function", Option.none, .func (by refine' (?f : ∀ (ps : PySem.Arguments) (b : List PySem.Stmt) (sc : PySem.Scope), Mine.defnAt [22] = some (ps, b, sc) → PySem.FuncData) _ _ _ ?pf; (case pf => rfl); (case f => exact fun ps b sc _ => ⟨PySem.Str.ofString "_law_number", PySem.Str.ofString "_law_number", ps, .stmts b, sc, (3), ([]), (PySem.Value.none), (PySem.Value.none), (PySem.Value.none), (PySem.Value.str (PySem.Str.ofString "law_in0199_01") 901), (Option.none), (PySem.Value.ref 626), (PySem.Value.none), (0)⟩)), #[]⟩) ::
  (nat_lit 628, { cls := PySem.Value.type "tuple", data := PySem.Data.seq #[] }) ::
  (nat_lit 630, { cls := PySem.Value.type "tuple", data := PySem.Data.seq #[PySem.Value.str (PySem.Str.ofString "item") 936, PySem.Value.str (PySem.Str.ofString "size") 937, PySem.Value.str (PySem.Str.ofString "sign") 938] }) ::
  (nat_lit 631, { cls := PySem.Value.type "tuple", data := PySem.Data.seq #[] }) ::
  (nat_lit 633, { cls := PySem.Value.type "code", data := PySem.Data.fields #[PySem.Value.str (PySem.Str.ofString "_law_least") 933, PySem.Value.str (PySem.Str.ofString "_law_least") 934, PySem.Value.str (PySem.Str.ofString "/claim/cut.py") 935, PySem.Value.int 466 0, PySem.Value.int 1 0, PySem.Value.int 0 0, PySem.Value.int 0 0, PySem.Value.int 3 0, PySem.Value.ref 628, PySem.Value.bool Bool.true, PySem.Value.int 181 0, PySem.Value.ref 629, PySem.Value.none, PySem.Value.ref 630, PySem.Value.ref 631, PySem.Value.ref 632, PySem.Value.int 939 0, PySem.Value.int 466 0, PySem.Value.str (PySem.Str.ofString "/claim/cut.py") 940] }) ::
  (nat_lit 634, ⟨PySem.Value.type "function", Option.none, .func (by refine' (?f : ∀ (ps : PySem.Arguments) (b : List PySem.Stmt) (sc : PySem.Scope), Mine.defnAt [23] = some (ps, b, sc) → PySem.FuncData) _ _ _ ?pf; (case pf => rfl); (case f => exact fun ps b sc _ => ⟨PySem.Str.ofString "_law_least", PySem.Str.ofString "_law_least", ps, .stmts b, sc, (3), ([]), (PySem.Value.none), (PySem.Value.none), (PySem.Value.none), (PySem.Value.str (PySem.Str.ofString "law_in0199_01") 901), (Option.none), (PySem.Value.ref 633), (PySem.Value.none), (0)⟩)), #[]⟩) ::
  (nat_lit 635, { cls := PySem.Value.type "tuple", data := PySem.Data.seq #[] }) ::
  (nat_lit 637, { cls := PySem.Value.type "tuple", data := PySem.Data.seq #[PySem.Value.str (PySem.Str.ofString "stream") 945, PySem.Value.str (PySem.Str.ofString "err") 946] }) ::
  (nat_lit 638, { cls := PySem.Value.type "tuple", data := PySem.Data.seq #[] }) ::
  (nat_lit 640, { cls := PySem.Value.type "code", data := PySem.Data.fields #[PySem.Value.str (PySem.Str.ofString "_law_long") 942, PySem.Value.str (PySem.Str.ofString "_law_long") 943, PySem.Value.str (PySem.Str.ofString "/claim/cut.py") 944, PySem.Value.int 476 0, PySem.Value.int 1 0, PySem.Value.int 0 0, PySem.Value.int 0 0, PySem.Value.int 3 0, PySem.Value.ref 635, PySem.Value.bool Bool.true, PySem.Value.int 181 0, PySem.Value.ref 636, PySem.Value.none, PySem.Value.ref 637, PySem.Value.ref 638, PySem.Value.ref 639, PySem.Value.int 947 0, PySem.Value.int 476 0, PySem.Value.str (PySem.Str.ofString "/claim/cut.py") 948] }) ::
  (nat_lit 641, ⟨PySem.Value.type "function", Option.none, .func (by refine' (?f : ∀ (ps : PySem.Arguments) (b : List PySem.Stmt) (sc : PySem.Scope), Mine.defnAt [24] = some (ps, b, sc) → PySem.FuncData) _ _ _ ?pf; (case pf => rfl); (case f => exact fun ps b sc _ => ⟨PySem.Str.ofString "_law_long", PySem.Str.ofString "_law_long", ps, .stmts b, sc, (3), ([]), (PySem.Value.none), (PySem.Value.none), (PySem.Value.none), (PySem.Value.str (PySem.Str.ofString "law_in0199_01") 901), (Option.none), (PySem.Value.ref 640), (PySem.Value.none), (0)⟩)), #[]⟩) ::
  (nat_lit 642, { cls := PySem.Value.type "tuple", data := PySem.Data.seq #[] }) ::
  (nat_lit 644, { cls := PySem.Value.type "tuple", data := PySem.Data.seq #[PySem.Value.str (PySem.Str.ofString "stream") 953, PySem.Value.str (PySem.Str.ofString "err") 954] }) ::
  (nat_lit 645, { cls := PySem.Value.type "tuple", data := PySem.Data.seq #[] }) ::
  (nat_lit 647, { cls := PySem.Value.type "code", data := PySem.Data.fields #[PySem.Value.str (PySem.Str.ofString "_law_plain") 950, PySem.Value.str (PySem.Str.ofString "_law_plain") 951, PySem.Value.str (PySem.Str.ofString "/claim/cut.py") 952, PySem.Value.int 481 0, PySem.Value.int 1 0, PySem.Value.int 0 0, PySem.Value.int 0 0, PySem.Value.int 3 0, PySem.Value.ref 642, PySem.Value.bool Bool.true, PySem.Value.int 181 0, PySem.Value.ref 643, PySem.Value.none, PySem.Value.ref 644, PySem.Value.ref 645, PySem.Value.ref 646, PySem.Value.int 955 0, PySem.Value.int 481 0, PySem.Value.str (PySem.Str.ofString "/claim/cut.py") 956] }) ::
  (nat_lit 648, ⟨PySem.Value.type "function", Option.none, .func (by refine' (?f : ∀ (ps : PySem.Arguments) (b : List PySem.Stmt) (sc : PySem.Scope), Mine.defnAt [25] = some (ps, b, sc) → PySem.FuncData) _ _ _ ?pf; (case pf => rfl); (case f => exact fun ps b sc _ => ⟨PySem.Str.ofString "_law_plain", PySem.Str.ofString "_law_plain", ps, .stmts b, sc, (3), ([]), (PySem.Value.none), (PySem.Value.none), (PySem.Value.none), (PySem.Value.str (PySem.Str.ofString "law_in0199_01") 901), (Option.none), (PySem.Value.ref 647), (PySem.Value.none), (0)⟩)), #[]⟩) ::
  (nat_lit 649, { cls := PySem.Value.type "tuple", data := PySem.Data.seq #[] }) ::
  (nat_lit 651, { cls := PySem.Value.type "tuple", data := PySem.Data.seq #[PySem.Value.str (PySem.Str.ofString "script") 961, PySem.Value.str (PySem.Str.ofString "octets") 962, PySem.Value.str (PySem.Str.ofString "items") 963, PySem.Value.str (PySem.Str.ofString "one") 964, PySem.Value.str (PySem.Str.ofString "other") 965, PySem.Value.str (PySem.Str.ofString "numbers") 966, PySem.Value.str (PySem.Str.ofString "written") 967, PySem.Value.str (PySem.Str.ofString "at") 968, PySem.Value.str (PySem.Str.ofString "item") 969, PySem.Value.str (PySem.Str.ofString "told") 970, PySem.Value.str (PySem.Str.ofString "plain") 971, PySem.Value.str (PySem.Str.ofString "least") 972, PySem.Value.str (PySem.Str.ofString "words") 973, PySem.Value.str (PySem.Str.ofString "left") 974, PySem.Value.str (PySem.Str.ofString "again") 975, PySem.Value.str (PySem.Str.ofString "place") 976, PySem.Value.str (PySem.Str.ofString "k") 977] }) ::
  (nat_lit 652, { cls := PySem.Value.type "tuple", data := PySem.Data.seq #[] }) ::
  (nat_lit 654, { cls := PySem.Value.type "code", data := PySem.Data.fields #[PySem.Value.str (PySem.Str.ofString "law") 958, PySem.Value.str (PySem.Str.ofString "law") 959, PySem.Value.str (PySem.Str.ofString "/claim/cut.py") 960, PySem.Value.int 486 0, PySem.Value.int 1 0, PySem.Value.int 0 0, PySem.Value.int 0 0, PySem.Value.int 3 0, PySem.Value.ref 649, PySem.Value.bool Bool.true, PySem.Value.int 181 0, PySem.Value.ref 650, PySem.Value.none, PySem.Value.ref 651, PySem.Value.ref 652, PySem.Value.ref 653, PySem.Value.int 978 0, PySem.Value.int 486 0, PySem.Value.str (PySem.Str.ofString "/claim/cut.py") 979] }) ::
  (nat_lit 655, ⟨PySem.Value.type "function", Option.none, .func (by refine' (?f : ∀ (ps : PySem.Arguments) (b : List PySem.Stmt) (sc : PySem.Scope), Mine.defnAt [26] = some (ps, b, sc) → PySem.FuncData) _ _ _ ?pf; (case pf => rfl); (case f => exact fun ps b sc _ => ⟨PySem.Str.ofString "law", PySem.Str.ofString "law", ps, .stmts b, sc, (3), ([]), (PySem.Value.none), (PySem.Value.none), (PySem.Value.none), (PySem.Value.str (PySem.Str.ofString "law_in0199_01") 901), (Option.none), (PySem.Value.ref 654), (PySem.Value.none), (0)⟩)), #[]⟩) :: []
abbrev Kas : List Addr := nat_lit 2 :: nat_lit 3 :: nat_lit 15 :: nat_lit 17 :: nat_lit 18 :: nat_lit 20 :: nat_lit 21 :: nat_lit 22 :: nat_lit 24 :: nat_lit 25 :: nat_lit 27 :: nat_lit 28 :: nat_lit 29 :: nat_lit 31 :: nat_lit 32 :: nat_lit 34 :: nat_lit 35 :: nat_lit 36 :: nat_lit 38 :: nat_lit 39 :: nat_lit 41 :: nat_lit 42 :: nat_lit 43 :: nat_lit 45 :: nat_lit 46 :: nat_lit 48 :: nat_lit 49 :: nat_lit 50 :: nat_lit 52 :: nat_lit 53 :: nat_lit 55 :: nat_lit 56 :: nat_lit 57 :: nat_lit 64 :: nat_lit 65 :: nat_lit 66 :: nat_lit 67 :: nat_lit 77 :: nat_lit 79 :: nat_lit 80 :: nat_lit 82 :: nat_lit 83 :: nat_lit 84 :: nat_lit 85 :: nat_lit 86 :: nat_lit 87 :: nat_lit 88 :: nat_lit 89 :: nat_lit 92 :: nat_lit 99 :: nat_lit 100 :: nat_lit 101 :: nat_lit 104 :: nat_lit 111 :: nat_lit 112 :: nat_lit 113 :: nat_lit 116 :: nat_lit 123 :: nat_lit 124 :: nat_lit 126 :: nat_lit 127 :: nat_lit 129 :: nat_lit 130 :: nat_lit 131 :: nat_lit 133 :: nat_lit 134 :: nat_lit 136 :: nat_lit 137 :: nat_lit 138 :: nat_lit 140 :: nat_lit 141 :: nat_lit 143 :: nat_lit 144 :: nat_lit 145 :: nat_lit 147 :: nat_lit 148 :: nat_lit 150 :: nat_lit 151 :: nat_lit 152 :: nat_lit 153 :: nat_lit 155 :: nat_lit 156 :: nat_lit 158 :: nat_lit 159 :: nat_lit 160 :: nat_lit 162 :: nat_lit 163 :: nat_lit 165 :: nat_lit 166 :: nat_lit 167 :: nat_lit 169 :: nat_lit 170 :: nat_lit 172 :: nat_lit 173 :: nat_lit 174 :: nat_lit 176 :: nat_lit 177 :: nat_lit 179 :: nat_lit 180 :: nat_lit 181 :: nat_lit 183 :: nat_lit 184 :: nat_lit 186 :: nat_lit 187 :: nat_lit 188 :: nat_lit 190 :: nat_lit 191 :: nat_lit 193 :: nat_lit 194 :: nat_lit 195 :: nat_lit 197 :: nat_lit 198 :: nat_lit 200 :: nat_lit 201 :: nat_lit 202 :: nat_lit 204 :: nat_lit 205 :: nat_lit 207 :: nat_lit 208 :: nat_lit 209 :: nat_lit 211 :: nat_lit 212 :: nat_lit 214 :: nat_lit 215 :: nat_lit 216 :: nat_lit 218 :: nat_lit 219 :: nat_lit 221 :: nat_lit 222 :: nat_lit 223 :: nat_lit 225 :: nat_lit 226 :: nat_lit 228 :: nat_lit 229 :: nat_lit 230 :: nat_lit 232 :: nat_lit 233 :: nat_lit 235 :: nat_lit 236 :: nat_lit 237 :: nat_lit 239 :: nat_lit 240 :: nat_lit 242 :: nat_lit 243 :: nat_lit 244 :: nat_lit 245 :: nat_lit 247 :: nat_lit 248 :: nat_lit 250 :: nat_lit 251 :: nat_lit 252 :: nat_lit 253 :: nat_lit 255 :: nat_lit 256 :: nat_lit 258 :: nat_lit 259 :: nat_lit 260 :: nat_lit 261 :: nat_lit 263 :: nat_lit 264 :: nat_lit 266 :: nat_lit 267 :: nat_lit 268 :: nat_lit 269 :: nat_lit 271 :: nat_lit 272 :: nat_lit 274 :: nat_lit 275 :: nat_lit 276 :: nat_lit 278 :: nat_lit 279 :: nat_lit 281 :: nat_lit 282 :: nat_lit 283 :: nat_lit 285 :: nat_lit 286 :: nat_lit 288 :: nat_lit 289 :: nat_lit 290 :: nat_lit 291 :: nat_lit 293 :: nat_lit 294 :: nat_lit 296 :: nat_lit 297 :: nat_lit 298 :: nat_lit 299 :: nat_lit 301 :: nat_lit 302 :: nat_lit 304 :: nat_lit 305 :: nat_lit 306 :: nat_lit 308 :: nat_lit 309 :: nat_lit 311 :: nat_lit 312 :: nat_lit 313 :: nat_lit 315 :: nat_lit 316 :: nat_lit 318 :: nat_lit 319 :: nat_lit 320 :: nat_lit 322 :: nat_lit 323 :: nat_lit 325 :: nat_lit 326 :: nat_lit 327 :: nat_lit 329 :: nat_lit 330 :: nat_lit 332 :: nat_lit 333 :: nat_lit 334 :: nat_lit 336 :: nat_lit 337 :: nat_lit 339 :: nat_lit 340 :: nat_lit 341 :: nat_lit 342 :: nat_lit 343 :: nat_lit 346 :: nat_lit 588 :: nat_lit 589 :: nat_lit 590 :: nat_lit 593 :: nat_lit 595 :: nat_lit 596 :: nat_lit 598 :: nat_lit 599 :: nat_lit 600 :: nat_lit 602 :: nat_lit 603 :: nat_lit 605 :: nat_lit 606 :: nat_lit 607 :: nat_lit 609 :: nat_lit 610 :: nat_lit 612 :: nat_lit 613 :: nat_lit 614 :: nat_lit 616 :: nat_lit 617 :: nat_lit 619 :: nat_lit 620 :: nat_lit 621 :: nat_lit 623 :: nat_lit 624 :: nat_lit 626 :: nat_lit 627 :: nat_lit 628 :: nat_lit 630 :: nat_lit 631 :: nat_lit 633 :: nat_lit 634 :: nat_lit 635 :: nat_lit 637 :: nat_lit 638 :: nat_lit 640 :: nat_lit 641 :: nat_lit 642 :: nat_lit 644 :: nat_lit 645 :: nat_lit 647 :: nat_lit 648 :: nat_lit 649 :: nat_lit 651 :: nat_lit 652 :: nat_lit 654 :: nat_lit 655 :: []
end Mine

namespace Mine
open PySem PySem.W
/-- the top's run, its three words left open -/
def runG (thr ok : Thread → Bool) (st : SharedT → Thread → Option (SharedT × Thread)) : Nat → SharedT → Thread → Option SharedT
  | 0, _, _ => none
  | n + 1, s, t => match thr t with
    | true => some s
    | false => match ok t with
      | false => none
      | true => match st s t with
        | some (s', t') => runG thr ok st n s' t'
        | none => none
theorem runG_of {tb : String → Option Builtin} {p : Program} {w : World} {n₀ : Nat} {ann : Option Value} : ∀ {n : Nat} {s s' : SharedT} {t : Thread}, runG through (stepOk n₀ ann) (stepT (denote tb) p w) n s t = some s' → topRun tb p w n₀ ann n s.abs t = some s'.abs
  | 0, _, _, _, h => nomatch h
  | n + 1, s, s', t, h => by
    unfold runG at h
    unfold topRun
    cases he : through t with
    | true => rw [he] at h; cases h; rfl
    | false =>
      rw [he] at h
      cases hk : stepOk n₀ ann t with
      | false => rw [hk] at h; cases h
      | true =>
        rw [hk] at h
        cases hs : stepT (denote tb) p w s t with
        | none => rw [hs] at h; cases h
        | some r =>
          obtain ⟨s₂, t₂⟩ := r
          rw [hs] at h
          rw [stepT_spec hs]
          exact runG_of h
def treeOf (l : List Obj) : BT := (l.foldl (fun (x : BT × Nat) o => (x.1.ins x.2 o, x.2 + 1)) (BT.nil, 0)).1
noncomputable def bootT (P : Params) : BT := treeOf (boot_heap P).objs.toList
noncomputable abbrev pw : Program := PySem.Challenge.rw_in0199_01.row.prog
/-- the text without its classes -/
noncomputable def vw : Program := view pw [0, 2, 3, 5, 7, 8, 9, 10, 11, 12, 13, 14, 16, 18, 20, 21, 22, 23, 24, 25, 26]
theorem left_of {p q : Program} {loose : List Str} {Xt : Shared → Bool} {α : Type} {Yf : Shared → α} {Ya : World → α} {N : Nat} {H₀ : Params → Heap} {d₀ : Drawn} {k₀ : Nat}
    (o : ∀ w : World, (fencedOpening treeTable p w N).map (fun s => (s.heap, s.gens, s.drawn, s.toks)) = some (H₀ w.params, Array.mk [], d₀, k₀)) (ns : ∀ P, (H₀ P).isNs mainGlobals = true)
    (run : ∀ (w : World) (os : OsState), ∃ s₁, topRun treeTable p w (H₀ w.params).objs.size ((H₀ w.params).nsMap mainGlobals "__annotations__") N ⟨H₀ w.params, Array.mk [], d₀, k₀, os⟩ (topStub p) = some s₁ ∧
      (staticsOk (importedModules p.main.body) (H₀ w.params) s₁.heap && namesBound p s₁.heap && gensDone s₁ && laidKept (H₀ w.params) s₁.heap) = true ∧ openSeen q loose (importedModules p.main.body) Xt true s₁ = openGood q loose ∧ Yf s₁ = Ya w) :
    LeftO p q loose Xt Yf Ya N := fun w => by
  obtain ⟨⟨h, gs, d, k, os⟩, e, e'⟩ := Option.map_eq_some_iff.mp (o w)
  simp only [Prod.mk.injEq] at e'
  obtain ⟨e1, e2, e3, e4⟩ := e'
  subst e1; subst e2; subst e3; subst e4
  obtain ⟨s₁, r1, r2, r3, r4⟩ := run w os
  have t : topFrom treeTable p w N ⟨H₀ w.params, Array.mk [], d, k, os⟩ = some s₁ := by
    unfold topFrom
    dsimp only
    rw [ns, r1, Option.bind_some, r2]
    rfl
  show Option.map _ ((fencedOpening treeTable p w N).bind (topFrom treeTable p w N)) = _
  rw [e, Option.bind_some, t, Option.map_some, r3, r4]
abbrev loose0 : List Str := ["UnsupportedOperation", "IOBase", "BufferedIOBase", "TextIOBase", "BytesIO", "StringIO"]
noncomputable abbrev r0 : RowW := PySem.Challenge.rw_in0199_01.row.toRowW
noncomputable abbrev Xt0 : Shared → Bool := fun s => xlAt vw [] s && recOk (RowW.records r0) s
theorem kas_ok (P : Params) : Kas = (K P).map (·.1) := by kernel_rfl
noncomputable abbrev H0 : Hook := kHook K Kas kas_ok
theorem boot_ns (P : Params) : (boot_heap P).isNs mainGlobals = true := by kernel_rfl
theorem bootT_ok (P : Params) : absHeap (bootT P) (boot_heap P).objs.size (boot_heap P).life = boot_heap P := by kernel_rfl
noncomputable abbrev s0 (w : World) (os : OsState) : SharedT := ⟨bootT w.params, (boot_heap w.params).objs.size, (boot_heap w.params).life, Array.mk [], boot_drawn, boot_toks, os⟩
/-- what is looked at behind the run, the word for the looks left open -/
noncomputable abbrev seen0 {β : Type} (look : Shared → β) (w : World) (s : Shared) : Bool × β × List (Option Obj) := ((staticsOk (importedModules pw.main.body) (boot_heap w.params) s.heap && namesBound pw s.heap && gensDone s && laidKept (boot_heap w.params) s.heap), look s, Kas.map s.heap.get?)
open PySem.W.Fast in
theorem kern (w : World) (os : OsState) : (runG through (tw6613529449190102663 (boot_heap w.params).objs.size ((boot_heap w.params).nsMap mainGlobals "__annotations__")) (tw10156331382660048174 (tw11892475500146522536 tw14364793385576792824) pw w) 8674 (s0 w os) (topStub pw)).map (fun s => seen0 (tw4187177175401517315 vw loose0 (importedModules pw.main.body) Xt0 true) w s.abs) = some (true, openGood vw loose0, (K w.params).map fun p => some p.2) := by kernel_rfl
open PySem.W.Fast in
theorem left_ : LeftO pw vw loose0 Xt0 (Hook.obs H0) (Hook.val H0) 8674 := by
  refine left_of (boot_open rfl (by decide) fun _ => rfl) boot_ns fun w os => ?_
  have k := kern w os
  rw [← te6613529449190102663, ← te10156331382660048174, ← te11892475500146522536, ← te14364793385576792824, ← te4187177175401517315] at k
  obtain ⟨s, hs, hv⟩ := Option.map_eq_some_iff.mp k
  have h1 := congrArg Prod.fst hv
  have h2 := congrArg (fun x => x.2.1) hv
  have h3 := congrArg (fun x => x.2.2) hv
  have r := runG_of hs
  rw [show (s0 w os).abs = ⟨boot_heap w.params, Array.mk [], boot_drawn, boot_toks, os⟩ by show Shared.mk (absHeap _ _ _) _ _ _ _ = _; rw [bootT_ok]] at r
  exact ⟨s.abs, r, h1, h2, h3⟩
end Mine

namespace Mine
open PySem PySem.W
/-- the law's own def -/
def lawAt : Option (PySem.Arguments × List PySem.Stmt × PySem.Scope × Pos) := match stmtAt [26] PySem.Challenge.rw_in0199_01.row.prog.main.body with
  | some (.FunctionDef _ ps b _ _ _ sc _ _ p) => some (ps, b, sc, p)
  | _ => none
theorem law_def : lawAt.map (fun x => ((⟨Str.ofString "law", x.1, x.2.1, x.2.2.1, x.2.2.2⟩ : DefRec), ([] : List (Str × PySem.Expr)))) = defOf vw PySem.Challenge.rw_in0199_01.row.name := by kernel_rfl
theorem law_the : lawAt.map (fun x => (x.1, x.2.1, x.2.2.1)) = PySem.Challenge.rw_in0199_01.row.prog.theDef PySem.Challenge.rw_in0199_01.row.name := by kernel_rfl
theorem law_kw : lawAt.map (fun x => kwWritten? x.1.kwonlyargs x.1.kw_defaults) = some (some []) := by kernel_rfl
set_option maxHeartbeats 4000000 in
theorem said_ : PySem.Challenge.rw_in0199_01.wellSaid = true := by
  unfold OpenLaw.wellSaid
  repeat' (with_reducible refine look_both ?_ ?_)
  all_goals (try unfold OpenRow.wellSaid)
  all_goals (repeat' (with_reducible refine look_both ?_ ?_))
  all_goals (try unfold OpenRow.partSaid)
  all_goals (repeat' (with_reducible refine look_both ?_ ?_))
  all_goals (try unfold looksOpen)
  all_goals (repeat' (with_reducible refine look_both ?_ ?_))
  all_goals (try rw [PySem.W.Fast.te8326940854005059898])
  all_goals (try rw [PySem.W.Fast.te8377067652309620493])
  all_goals (try rw [PySem.W.Fast.te17119622794617984870, PySem.W.Fast.te17868728402115742887])
  all_goals decide +kernel
/-- the head: the row holds if the law's walk is shown at the restricted judgement -/
theorem hd {ps : PySem.Arguments} {b : List PySem.Stmt} {sc : PySem.Scope} {pos : Pos} (e : lawAt = some (ps, b, sc, pos))
    (call : WalkR vw [Str.ofString "UnsupportedOperation", Str.ofString "IOBase", Str.ofString "BufferedIOBase", Str.ofString "TextIOBase", Str.ofString "BytesIO", Str.ofString "StringIO"] (XL vw []) (kHook K Kas kas_ok).says PySem.Challenge.rw_in0199_01.row.toRowW { name := Str.ofString "law", params := ps, body := b, scope := sc, pos := pos } []) : PySem.Challenge.rw_in0199_01.Holds := by
  have h1 := law_def
  have h2 := law_the
  have h3 := law_kw
  rw [e] at h1 h2 h3
  refine holds_law said_ fun said => ?_
  refine Mine.PySem.W.holds_open (q := vw) (loose := loose0) (Xt := Xt0) (XP := XL vw []) (Yf := Hook.obs H0) (Ya := Hook.val H0) (YP := Hook.says H0) (N := 8674) left_ (Hook.of H0) (Hook.keeps H0) (fun s e => xl_of s (Bool.and_eq_true_iff.mp e).1) XL.keeps h1.symm h2.symm (Option.some.inj h3) (fun s e => recFacts_of (Bool.and_eq_true_iff.mp e).2) (by rfl) said (by kernel_rfl) ⟨rfl, rfl, rfl, rfl, rfl, by kernel_rfl⟩ ?_ call
  w_witness2
end Mine

namespace Mine
open Builtin
/-- a bytearray as it lies -/
abbrev baObj (b : Array UInt8) : Obj := { cls := .type "bytearray", data := .bytearray b }

theorem ba_slot_len : Slot "bytearray" "__len__" "bytearray.__len__" :=
  .of (owner := "bytearray") (n := "__len__") (by rw [typeLookup_type, builtinLookup_eq_fast]; kernel_rfl) (by decide +kernel) (by decide +kernel) (by decide +kernel)
    (by first | exact .inl (by decide +kernel) | exact .inr (by decide +kernel)) (by rw [isSubtype_type]; kernel_rfl)
theorem ba_entry_len : entryFor table "bytearray.__len__" = some Builtin.«bytearray.__len__» := entryFor_of_tree (by kernel_rfl)
theorem ba_args_len (a : Value) : argsOk "bytearray.__len__" ⟨[a], []⟩ := by unfold argsOk; kernel_rfl
theorem ba_slot_getitem : Slot "bytearray" "__getitem__" "bytearray.__getitem__" :=
  .of (owner := "bytearray") (n := "__getitem__") (by rw [typeLookup_type, builtinLookup_eq_fast]; kernel_rfl) (by decide +kernel) (by decide +kernel) (by decide +kernel)
    (by first | exact .inl (by decide +kernel) | exact .inr (by decide +kernel)) (by rw [isSubtype_type]; kernel_rfl)
theorem ba_entry_getitem : entryFor table "bytearray.__getitem__" = some Builtin.«bytearray.__getitem__» := entryFor_of_tree (by kernel_rfl)
theorem ba_args_getitem (a b : Value) : argsOk "bytearray.__getitem__" ⟨[a, b], []⟩ := by unfold argsOk; kernel_rfl

theorem ba_typeIs {s : Shared} {l : Addr} {b : Array UInt8} (h : s.heap.get? l = some (baObj b)) : s.TypeIs (.ref l) "bytearray" := ⟨_, h, rfl⟩

theorem ba_meets_len (l : Addr) (b : Array UInt8) :
    Meets («bytearray.__len__» ⟨[.ref l], []⟩) (fun _ R s => s.heap.get? l = some (baObj b) ∧ R (.ok (.ret (.int b.size s.toks))) { s with toks := s.toks + 1 }) := by
  refine .of_wp fun prog w A R s hS => ?_
  obtain ⟨hb, h⟩ := hS
  show wpAny _ _ (Bytes.payload (.ref l) >>= fun r => _) _ _ s
  refine wpAny_bind ?_
  unfold Bytes.payload Bytes.payload?
  refine wpAny_bind (wpAny_bind (wpAny_load hb ?_))
  refine wpAny_pure (wpAny_pure ?_)
  exact wpAny_bind (wpAny_mkInt (wpAny_pure ⟨_, rfl, h⟩))

section
variable {prog : Program} {w : World} {A : Around} {E : Value → Shared → Prop} {s : Shared} {h₀ : Heap} {L l : Addr} {m : Str → Option Value} {news : List (Addr × Obj)} {b : Array UInt8} {Q : Value → Shared → Prop}
theorem ba_len (hb : s.heap.get? l = some (baObj b)) (hz : b.size < 2 ^ 62) (h : Q (.int b.size (s.toks + 1)) { s with toks := s.toks + 1 + 1 }) :
    wpAny (model prog w) A (call (.builtin "len") [.ref l]) Q E s :=
  call_len_meets (ba_typeIs hb) ba_slot_len ba_entry_len (ba_args_len _) (ba_meets_len l b) (by omega) (by omega) (fun _ hq => ⟨hb, hq⟩) h

theorem ba_meets_slice (l : Addr) (b : Array UInt8) (a : Addr) (lo hi : Int) (t u : Tok) :
    Meets («bytearray.__getitem__» ⟨[.ref l, .ref a], []⟩) (fun _ R s => s.heap.get? l = some (baObj b) ∧ s.heap.IsSliceOf a (.int lo t) (.int hi u) .none ∧ (KBy.picked b (some lo) (some hi)).size ≤ sizeLine ∧
      R (.ok (.ret (.ref s.heap.objs.size))) { s with heap := s.heap.push (baObj (KBy.picked b (some lo) (some hi))) }) := by
  refine .of_wp fun prog w A R s hS => ?_
  obtain ⟨hb, ⟨o, ho, hc, hd⟩, hsz, h⟩ := hS
  have hT : s.TypeIs (.ref a) "slice" := ⟨o, ho, hc⟩
  show wpAny _ _ (Bytes.subscript? (.ref a) >>= fun r => _) _ _ s
  refine wpAny_bind ?_
  unfold Bytes.subscript?
  refine wpAny_bind (wpAny_specialOf hT slice_no_index (wpAny_pure ?_))
  refine wpAny_bind (wpAny_typeOf hT ?_)
  show wpAny _ _ (Bytes.sliceParts (.ref a) >>= fun r => _) _ _ s
  refine wpAny_bind ?_
  unfold Bytes.sliceParts
  refine wpAny_bind (wpAny_field (x := .none) ho hd rfl ?_)
  kby_none
  refine wpAny_ite (KBy.ite_no (show ¬ ((Value.none == rawInt 0) = true) from Bool.false_ne_true) ?_)
  refine wpAny_bind (wpAny_field (x := .int lo t) ho hd rfl ?_)
  have ite_no : ∀ {c X Y : Prop} [Decidable c], ¬ c → Y → if c then X else Y := fun hc h => by rw [if_neg hc]; exact h
  kby_int
  refine wpAny_bind (wpAny_field (x := .int hi u) ho hd rfl ?_)
  kby_int
  refine wpAny_pure ?_
  show wpAny _ _ (Bytes.payload (.ref l) >>= fun r => _) _ _ s
  refine wpAny_bind ?_
  unfold Bytes.payload Bytes.payload?
  refine wpAny_bind (wpAny_bind (wpAny_load hb ?_))
  refine wpAny_pure (wpAny_pure ?_)
  have go : wpAny (model prog w) A.in1 (sliceIndices (rawPart (some lo)) (rawPart (some hi)) (rawPart none) b.size) (fun r s' => r = sliceBounds (some lo) (some hi) none b.size ∧ s' = s) (fun _ _ => False) s :=
    wpAny_of_eq (sliceIndices_raw (some lo) (some hi) none b.size (fun e => nomatch e)) ⟨rfl, rfl⟩
  refine wpAny_bind (wpAny_mono go (fun r s' hr => ?_) fun _ _ e => e.elim)
  obtain ⟨hr1, hr2⟩ := hr
  subst hr1 hr2
  refine wpAny_bind ?_
  show wpAny _ _ (Bytes.newBytearray (KBy.picked b (some lo) (some hi))) _ _ _
  unfold Bytes.newBytearray
  exact wpAny_newObj_type (wpAny_pure ⟨_, rfl, h⟩) hsz
end
end Mine

namespace Mine
open Builtin
theorem bc_mro : mroOf (.type "bytearray") = pure [.type "bytearray", .type "object"] := by rw [mroOf_type]; kernel_rfl
theorem bc_new : typeLookup (.type "bytearray") "__new__" = pure (some (.builtin "bytearray.__new__")) := by rw [typeLookup_type, builtinLookup_eq_fast]; kernel_rfl
theorem bc_slot_init : Slot "bytearray" "__init__" "bytearray.__init__" :=
  .of (owner := "bytearray") (n := "__init__") (by rw [typeLookup_type, builtinLookup_eq_fast]; kernel_rfl) (by decide +kernel) (by decide +kernel) (by decide +kernel)
    (by first | exact .inl (by decide +kernel) | exact .inr (by decide +kernel)) (by rw [isSubtype_type]; kernel_rfl)
theorem bc_called : TypeCalled "bytearray" "bytearray.__new__" "bytearray.__init__" :=
  ⟨by decide +kernel, by decide +kernel, ⟨_, _, bc_mro⟩, madeBy_type bc_mro bc_new (by decide +kernel), by decide +kernel, by rw [isSubtype_type]; kernel_rfl, bc_slot_init⟩
theorem bc_typeCall (a : Value) : checkTypeCall "bytearray" ⟨[a], []⟩ = pure () := by kernel_rfl
theorem bc_newCall (a : Value) : checkBuiltinCall "bytearray.__new__" ⟨[.type "bytearray", a], []⟩ = pure () := by kernel_rfl
theorem bc_entry_new : entryFor table "bytearray.__new__" = some Builtin.«list.__new__» := entryFor_alias (id' := "list.__new__") (by rw [fastTable_eq_tree]; kernel_rfl) (by first | rfl | decide +kernel) (by decide +kernel) (by rw [fastTable_eq_tree]; kernel_rfl)
theorem bc_plain_new : plainId "bytearray.__new__" = true := by decide +kernel
theorem bc_entry_init : entryFor table "bytearray.__init__" = some Builtin.«bytearray.__init__» := entryFor_of_tree (by kernel_rfl)
set_option maxRecDepth 1000000 in
set_option maxHeartbeats 4000000 in
theorem bc_owner : ("bytearray.__new__".splitOn ".__new__").headD "" = "bytearray" := by simp +decide [String.splitOn, String.splitOnAux]
theorem bc_sub : isSubtype (.type "bytearray") (.type "bytearray") = pure true := by rw [isSubtype_type]; kernel_rfl
section
variable {prog : Program} {w : World} {A : Around} {E : Value → Shared → Prop} {s : Shared}
theorem bc_code_new (a : Value) {Q₁ : Value → Shared → Prop}
    (h : Q₁ (.ref s.heap.objs.size) { s with heap := s.heap.push (baObj #[]) }) :
    codeAny (model prog w) A (.call (.builtin "bytearray.__new__") ⟨[.type "bytearray", a], []⟩) (wants Q₁ E) s := by
  refine codeAny_of_tree ?_
  show wpAny _ A.in1 (do checkBuiltinCall "bytearray.__new__" ⟨[.type "bytearray", a], []⟩; again (.builtin "bytearray.__new__" ⟨[.type "bytearray", a], []⟩)) _ _ s
  refine wpAny_bind (wpAny_of_eq (bc_newCall a) (wpAny_pure ⟨plainId_quiet bc_plain_new _, codeAny_builtin_stack bc_entry_new rfl fun p st => ?_⟩))
  rw [Around.under_plainId bc_plain_new _]
  have hsub := bc_sub
  have hown := bc_owner
  obtain ⟨hp, g, d, tk, os⟩ := s
  simp only [hown]
  wp_walk
  exact h

theorem still_decoder {id : String} {args : Args} (h : noHold (.builtin id args) = true) : Bytes.decodersThatHold.contains id = false := by
  have h1 : heldIds.contains id = false := by simpa [noHold] using h
  cases h2 : Bytes.decodersThatHold.contains id with
  | false => rfl
  | true =>
    have h3 : id ∈ heldIds := List.mem_append_right _ (by simpa using h2)
    have h4 : heldIds.contains id = true := by simpa using h3
    rw [h1] at h4
    exact absurd h4 Bool.false_ne_true
theorem still_exported {x : Addr} {st : List (Code × Pos)} (h : Still st) {Q : Bool → Shared → Prop} (hq : Q false s) : wpR (model prog w) A (Bytes.exported (.ref x)) Q E s := by
  unfold Bytes.exported
  refine wpR_bind (wpR_stack fun st hst => wpR_pure ?_)
  have e : ∀ c ∈ st, noHold c.1 = true := hst
  rw [List.any_eq_false.mpr]
  · exact hq
  · rintro ⟨c, p⟩ hc
    have hn := e _ hc
    dsimp only at hn ⊢
    split
    all_goals first
      | exact Bool.false_ne_true
      | (rename_i he
         simp only [Prod.mk.injEq] at he
         obtain ⟨rfl, _⟩ := he
         first
         | (rw [still_decoder hn, Bool.and_false]
            exact Bool.false_ne_true)
         | exact absurd hn (by simp [noHold, heldIds]))

theorem bc_release : typeLookup (.type "bytearray") "__release_buffer__" = pure (some (.builtin "bytearray.__release_buffer__")) := by rw [typeLookup_type, builtinLookup_eq_fast]; kernel_rfl
theorem bs_no_release : typeLookup (.type "bytes") "__release_buffer__" = pure none := by rw [typeLookup_type, builtinLookup_eq_fast]; kernel_rfl
theorem bs_no_index : typeLookup (.type "bytes") "__index__" = pure none := by rw [typeLookup_type, builtinLookup_eq_fast]; kernel_rfl
theorem bs_buffer : typeLookup (.type "bytes") "__buffer__" = pure (some (.builtin "bytes.__buffer__")) := by rw [typeLookup_type, builtinLookup_eq_fast]; kernel_rfl
theorem bs_sub : isSubtype (.type "bytes") (.type "bytes") = pure true := by rw [isSubtype_type]; kernel_rfl
theorem bc_bind (v : Value) : Bytes.bindOptional "bytearray.__init__" "bytearray" ["source", "encoding", "errors"] [v] [] = pure [some v, none, none] := by kernel_rfl
theorem bc_endsWith : ("bytearray.__release_buffer__".endsWith ("." ++ "__release_buffer__")) = true := by decide +kernel
theorem bs_endsWith : ("bytes.__buffer__".endsWith ("." ++ "__buffer__")) = true := by decide +kernel
theorem bc_dropRight : "bytearray.__release_buffer__".dropRight ("__release_buffer__".length + 1) = "bytearray" := by decide +kernel
theorem bs_dropRight : "bytes.__buffer__".dropRight ("__buffer__".length + 1) = "bytes" := by decide +kernel

theorem bc_ownRelease {x : Addr} {b : Array UInt8} {Q : Bool → Shared → Prop} (hx : s.heap.get? x = some (baObj b)) (hq : Q false s) : wpAny (model prog w) A (Bytes.ownRelease (.ref x)) Q E s := by
  have hT : s.TypeIs (.ref x) "bytearray" := ba_typeIs hx
  unfold Bytes.ownRelease Bytes.slotIsOwn
  refine wpAny_bind (wpAny_bind (wpAny_specialOf hT bc_release ?_))
  show wpAny _ _ (if (!("bytearray.__release_buffer__".endsWith ("." ++ "__release_buffer__"))) = true then _ else _) _ _ _
  rw [bc_endsWith]
  show wpAny _ _ (isInstance (.ref x) (.type ("bytearray.__release_buffer__".dropRight ("__release_buffer__".length + 1)))) _ _ _
  rw [bc_dropRight]
  exact wpAny_isInstance hT bc_sub (wpAny_pure hq)
theorem bs_ownRelease {b : Array UInt8} {t : Tok} {Q : Bool → Shared → Prop} (hq : Q false s) : wpAny (model prog w) A (Bytes.ownRelease (.bytes b t)) Q E s := by
  have hT : s.TypeIs (.bytes b t) "bytes" := typeIs_bytes _ _ _
  unfold Bytes.ownRelease Bytes.slotIsOwn
  exact wpAny_bind (wpAny_bind (wpAny_specialOf hT bs_no_release (wpAny_pure (wpAny_pure hq))))
theorem bs_slotIsOwn {b : Array UInt8} {t : Tok} {Q : Bool → Shared → Prop} (hq : Q true s) : wpAny (model prog w) A (Bytes.slotIsOwn (.bytes b t) "__buffer__") Q E s := by
  have hT : s.TypeIs (.bytes b t) "bytes" := typeIs_bytes _ _ _
  unfold Bytes.slotIsOwn
  refine wpAny_bind (wpAny_specialOf hT bs_buffer ?_)
  show wpAny _ _ (if (!("bytes.__buffer__".endsWith ("." ++ "__buffer__"))) = true then _ else _) _ _ _
  rw [bs_endsWith]
  show wpAny _ _ (isInstance _ (.type ("bytes.__buffer__".dropRight ("__buffer__".length + 1)))) _ _ _
  rw [bs_dropRight]
  exact wpAny_isInstance hT bs_sub hq
theorem bs_buffer_of {b : Array UInt8} {t : Tok} {Q : Option (Array UInt8) → Shared → Prop} (hq : Q (some b) s) : wpAny (model prog w) A (Bytes.buffer? "bytearray.__init__" (.bytes b t) true) Q E s := by
  have hT : s.TypeIs (.bytes b t) "bytes" := typeIs_bytes _ _ _
  unfold Bytes.buffer?
  refine wpAny_bind (wpAny_specialOf hT bs_buffer ?_)
  refine wpAny_bind (bs_slotIsOwn ?_)
  show wpAny _ _ (do match ← specialOf (.bytes b t) "__buffer__" with | _ => _) _ _ _
  refine wpAny_bind (wpAny_specialOf hT bs_buffer ?_)
  refine wpAny_bind (bs_ownRelease ?_)
  exact wpAny_bind (wpAny_pure (wpAny_pure hq))
theorem ba_write {x : Addr} {b : Array UInt8} {f : Array UInt8 → Array UInt8} {Q : Unit → Shared → Prop} (hx : s.heap.get? x = some (baObj b)) (hz : (f b).size ≤ sizeLine) (hq : Q () { s with heap := s.heap.update x (Obj.mapBytearray f) }) :
    wpAny (model prog w) A (Bytes.write (.ref x) f) Q E s := by
  show wpAny _ _ (updateBytearray x f) _ _ _
  unfold updateBytearray
  refine wpAny_bind (wpAny_load hx ?_)
  show wpAny _ _ (update x (Obj.mapBytearray f) >>= fun _ => lookBehind x) _ _ _
  refine wpAny_bind (wpAny_update hx ?_)
  have hS : (s.heap.update x (Obj.mapBytearray f)).get? x = some (baObj (f b)) := Heap.get?_update_self (Obj.mapBytearray f) hx rfl
  refine wpAny_lookBehind hS ?_ hq
  show (if (f b).size > sizeLine then some "bytearray:memory" else none) = none
  rw [if_neg (Nat.not_lt.mpr hz)]

theorem bc_init {x : Addr} {b : Array UInt8} {t : Tok} {R : Fin → Shared → Prop} (hx : s.heap.get? x = some (baObj #[])) (hz : b.size ≤ sizeLine)
    (h : ∀ h', h'.get? x = some (baObj b) → Heap.SameBut x s.heap h' → h'.objs.size = s.heap.objs.size → R (.done (.ret .none)) { s with heap := h' }) :
    wpR (model prog w) A (Builtin.«bytearray.__init__» ⟨[.ref x, .bytes b t], []⟩) R E s := by
  unfold Builtin.«bytearray.__init__»
  refine wpR_bind (wpR_of (bc_ownRelease hx ?_))
  show wpR _ _ (Bytes.bindOptional "bytearray.__init__" "bytearray" ["source", "encoding", "errors"] [.bytes b t] [] >>= _) _ _ _
  rw [bc_bind]
  refine wpR_bind (wpR_pure ?_)
  refine wpR_bind (wpR_of (wpAny_of_eq (a := ()) rfl ?_))
  refine wpR_bind (wpR_of (wpAny_of_eq (a := ()) rfl ?_))
  refine wpR_bind (wpR_bind (still_exported (st := []) (fun _ hx => nomatch hx) ?_))
  show wpR _ _ (Bytes.exportsOf (.ref x) >>= _) _ _ _
  refine wpR_bind ?_
  unfold Bytes.exportsOf
  refine wpR_of (wpAny_bind (wpAny_load hx (wpAny_pure ?_)))
  refine wpR_pure ?_
  show wpR _ _ (Bytes.write (.ref x) (fun _ => #[]) >>= _) _ _ _
  refine wpR_of (wpAny_bind (ba_write hx (Nat.zero_le _) ?_))
  have hx1 : (s.heap.update x (Obj.mapBytearray fun _ => #[])).get? x = some (baObj #[]) := Heap.get?_update_self (Obj.mapBytearray fun _ => #[]) hx rfl
  refine wpAny_bind (wpAny_of_eq (a := none) rfl ?_)
  refine wpAny_bind (wpAny_of_eq (a := ()) rfl ?_)
  show wpAny _ _ (specialOf (.bytes b t) "__index__" >>= _) _ _ _
  have hT : ∀ s : Shared, s.TypeIs (.bytes b t) "bytes" := fun s => typeIs_bytes _ _ _
  refine wpAny_bind (wpAny_specialOf (hT _) bs_no_index ?_)
  show wpAny _ _ (Bytes.buffer? "bytearray.__init__" (.bytes b t) true >>= _) _ _ _
  refine wpAny_bind (bs_buffer_of ?_)
  refine wpAny_bind (wpAny_rule ?_)
  refine wpAny_bind (ba_write hx1 hz ?_)
  refine wpAny_pure ?_
  have hx2 : ((s.heap.update x (Obj.mapBytearray fun _ => #[])).update x (Obj.mapBytearray fun _ => b)).get? x = some (baObj b) := Heap.get?_update_self (Obj.mapBytearray fun _ => b) hx1 rfl
  refine h _ hx2 ?_ ?_
  · exact (Heap.SameBut.update _ _ _).trans (Heap.SameBut.update _ _ _)
  · exact (Heap.SameBut.update _ _ _).1.trans (Heap.SameBut.update _ _ _).1

theorem wpR_if_false {α : Type} {M : Model} {c : Bool} {a b : Sem α} {Q : α → Shared → Prop} (hc : c = false) (h : wpR M A b Q E s) : wpR M A (if c = true then a else b) Q E s := by
  subst hc
  exact h
theorem bc_args_init (a b : Value) : argsOk "bytearray.__init__" ⟨[a, b], []⟩ := by unfold argsOk; kernel_rfl
theorem bc_call {h₀ : Heap} {L : Addr} {m : Str → Option Value} {news : List (Addr × Obj)} {b : Array UInt8} {t : Tok} {Q : Value → Shared → Prop} (F : Fr h₀ L s.heap m) (N : News h₀ L s.heap news) (hz : b.size ≤ sizeLine)
    (h : ∀ x h', Fr h₀ L h' m → News h₀ L h' ((x, baObj b) :: news) → (∀ p ∈ news, p.1 < x) → Q (.ref x) { s with heap := h' }) :
    wpR (model prog w) A (call (.type "bytearray") [.bytes b t]) Q E s := by
  refine wpR_call (codeR_of_tree rfl ?_)
  show wpR _ _ (callAny (.type "bytearray") _) _ _ _
  refine wpR_pure ⟨Code.quiet_builtin _ (by decide +kernel), codeR_builtin (by decide +kernel) PySem.F.entry_type_call ?_⟩
  rw [Around.under_plain (weight_type_call_type "bytearray" [.bytes b t] []) rfl]
  unfold Builtin.«type.__call__»
  refine wpR_if_false (by decide) ?_
  refine wpR_if_false bc_called.canCreate ?_
  refine wpR_bind (wpR_of (wpAny_of_eq (bc_typeCall _) ?_))
  refine wpR_bind (wpR_of (wpAny_of_eq bc_mro ?_))
  refine wpR_if_false rfl ?_
  refine wpR_bind (wpR_of (wpAny_of_eq bc_called.made ?_))
  refine wpR_bind (wpR_pure ?_)
  refine wpR_bind (wpR_holding (wpR_of (wpAny_call (codeAny_mono (bc_code_new (Q₁ := fun v s' => v = .ref s.heap.objs.size ∧ s' = { s with heap := s.heap.push (baObj #[]) }) (E := fun _ _ => False) _ ⟨rfl, rfl⟩) ?_))))
  intro r s' hs
  cases r with
  | error e => exact hs.elim
  | ok f =>
  cases f with
  | next => exact hs.elim
  | brk => exact hs.elim
  | cont => exact hs.elim
  | ret v =>
  obtain ⟨rfl, rfl⟩ := hs
  have hx : (s.heap.push (baObj #[])).get? s.heap.objs.size = some (baObj #[]) := Heap.get?_push_size _ rfl
  have hT : ∀ s2 : Shared, s2.heap = s.heap.push (baObj #[]) → s2.TypeIs (.ref s.heap.objs.size) "bytearray" := fun s2 e => ba_typeIs (b := #[]) (by rw [e]; exact hx)
  refine wpR_bind (wpR_of (wpAny_isInstance (hT _ rfl) bc_sub ?_))
  refine wpR_if_false rfl ?_
  refine wpR_bind (wpR_holding ?_)
  simp only [callSpecial?]
  refine wpR_bind (wpR_of (wpAny_specialOf (hT _ rfl) bc_slot_init.lookup ?_))
  simp only [bc_slot_init.bind]
  refine wpR_holding (wpR_bind (wpR_pure (wpR_bind (wpR_call (codeR_call_builtin (by decide +kernel) (plainId_quiet bc_slot_init.plain _) bc_entry_init
    (bc_slot_init.check _ _ _ _ _ _ _ _ (hT _ rfl) (bc_args_init _ _) (bc_init hx hz fun h' h1 h2 h3 => ?_)))))))
  refine wpR_pure ?_
  refine wpR_if_false rfl ?_
  refine wpR_pure ?_
  have N1 := N.push F (baObj #[])
  have F1 := F.push (baObj #[])
  have hne : ∀ p ∈ news, p.1 < s.heap.objs.size := fun p hp => Heap.lt_size (N p hp).1
  obtain ⟨oL, es, ep, hL, hr⟩ := F1.ns
  have hLx : L ≠ s.heap.objs.size := by
    obtain ⟨oL2, _, _, hL2, _⟩ := F.ns
    exact Nat.ne_of_lt (Heap.lt_size hL2)
  refine h _ h' ⟨⟨oL, es, ep, (h2.2 _ hLx).trans hL, hr⟩, fun b o e => (h2.2 _ ?_).trans (F1.keep b o e), F.above⟩ (fun p hp => ?_) hne
  · exact Nat.ne_of_lt (Heap.lt_size (F.keep b o e))
  · rcases List.mem_cons.mp hp with rfl | hp
    · exact ⟨h1, hLx.symm, (N1 _ (.head _)).2.2⟩
    · exact ⟨(h2.2 _ (Nat.ne_of_lt (hne p hp))).trans (N1 p (.tail _ hp)).1, (N1 p (.tail _ hp)).2⟩
end
end Mine

namespace Mine
open Builtin
theorem bc_buffer : typeLookup (.type "bytearray") "__buffer__" = pure (some (.builtin "bytearray.__buffer__")) := by rw [typeLookup_type, builtinLookup_eq_fast]; kernel_rfl
theorem bc_no_bytes : typeLookup (.type "bytearray") "__bytes__" = pure none := by rw [typeLookup_type, builtinLookup_eq_fast]; kernel_rfl
theorem bc_no_index : typeLookup (.type "bytearray") "__index__" = pure none := by rw [typeLookup_type, builtinLookup_eq_fast]; kernel_rfl
theorem bcb_endsWith : ("bytearray.__buffer__".endsWith ("." ++ "__buffer__")) = true := by decide +kernel
theorem bcb_dropRight : "bytearray.__buffer__".dropRight ("__buffer__".length + 1) = "bytearray" := by decide +kernel
section
variable {prog : Program} {w : World} {A : Around} {E : Value → Shared → Prop} {s : Shared} {h₀ : Heap} {L l : Addr} {m : Str → Option Value} {news : List (Addr × Obj)} {b : Array UInt8}
theorem bcb_slotIsOwn {Q : Bool → Shared → Prop} (hb : s.heap.get? l = some (baObj b)) (hq : Q true s) : wpAny (model prog w) A (Bytes.slotIsOwn (.ref l) "__buffer__") Q E s := by
  have hT : s.TypeIs (.ref l) "bytearray" := ba_typeIs hb
  unfold Bytes.slotIsOwn
  refine wpAny_bind (wpAny_specialOf hT bc_buffer ?_)
  show wpAny _ _ (if (!("bytearray.__buffer__".endsWith ("." ++ "__buffer__"))) = true then _ else _) _ _ _
  rw [bcb_endsWith]
  show wpAny _ _ (isInstance _ (.type ("bytearray.__buffer__".dropRight ("__buffer__".length + 1)))) _ _ _
  rw [bcb_dropRight]
  exact wpAny_isInstance hT bc_sub hq
theorem bcb_buffer_of {id : String} {Q : Option (Array UInt8) → Shared → Prop} (hb : s.heap.get? l = some (baObj b)) (hq : Q (some b) s) : wpAny (model prog w) A (Bytes.buffer? id (.ref l) true) Q E s := by
  have hT : s.TypeIs (.ref l) "bytearray" := ba_typeIs hb
  unfold Bytes.buffer?
  refine wpAny_bind (wpAny_specialOf hT bc_buffer ?_)
  refine wpAny_bind (bcb_slotIsOwn hb ?_)
  show wpAny _ _ (do match ← specialOf (.ref l) "__buffer__" with | _ => _) _ _ _
  refine wpAny_bind (wpAny_specialOf hT bc_buffer ?_)
  refine wpAny_bind (bc_ownRelease hb ?_)
  show wpAny _ _ (Bytes.payload (.ref l) >>= fun r => _) _ _ s
  refine wpAny_bind ?_
  unfold Bytes.payload Bytes.payload?
  refine wpAny_bind (wpAny_bind (wpAny_load hb ?_))
  exact wpAny_pure (wpAny_pure (wpAny_pure hq))
theorem bcb_new {Q : Value → Shared → Prop} (hb : s.heap.get? l = some (baObj b)) (hz : b.size ≤ sizeLine)
    (hQ : Q (.bytes b s.toks) { s with toks := s.toks + 1 }) :
    codeAny (model prog w) A (.call (.builtin "bytes.__new__") ⟨[.type "bytes", .ref l], []⟩) (wants Q E) s := by
  refine codeAny_of_tree ?_
  show wpAny _ A.in1 (do checkBuiltinCall "bytes.__new__" ⟨[.type "bytes", .ref l], []⟩; again (.builtin "bytes.__new__" ⟨[.type "bytes", .ref l], []⟩)) _ _ s
  refine wpAny_bind (wpAny_of_eq (PySem.F.bm_newCall _) (wpAny_pure ⟨plainId_quiet PySem.F.bm_plain _, codeAny_builtin PySem.F.bm_entry ?_⟩))
  rw [Around.under_plainId PySem.F.bm_plain _]
  have hT : s.TypeIs (.ref l) "bytearray" := ba_typeIs hb
  unfold Builtin.«bytes.__new__»
  refine wpAny_bind (wpAny_of_eq (a := true) rfl ?_)
  refine bm_if_false rfl ?_
  refine wpAny_bind (wpAny_of_eq PySem.F.bm_sub ?_)
  refine bm_if_false rfl ?_
  refine wpAny_bind (wpAny_of_eq (PySem.F.bm_bind _) ?_)
  refine wpAny_bind (wpAny_of_eq (a := ()) rfl ?_)
  refine wpAny_bind (wpAny_of_eq (a := ()) rfl ?_)
  refine bm_if_false rfl ?_
  refine wpAny_bind (wpAny_specialOf hT bc_no_bytes ?_)
  refine wpAny_bind (wpAny_bind ?_)
  show wpAny _ _ (load l >>= _) _ _ _
  refine wpAny_bind (wpAny_load hb ?_)
  refine wpAny_pure (wpAny_pure ?_)
  refine bm_if_false rfl ?_
  refine wpAny_bind (wpAny_specialOf hT bc_no_index ?_)
  refine bm_if_true rfl ?_
  first
    | show wpAny _ _ (Builtin.Bytes.buffer? "bytes.__new__" (.ref l) true >>= _) _ _ _
    | (refine wpAny_bind ?_; show wpAny _ _ (Builtin.Bytes.buffer? "bytes.__new__" (.ref l) true >>= _) _ _ _)
  refine wpAny_bind (bcb_buffer_of hb ?_)
  refine wpAny_bind (wpAny_rule ?_)
  refine wpAny_bind (wpAny_mkBytes ?_ hz)
  show wpAny _ _ (if (Value.type "bytes" == Value.type "bytes") = true then _ else _) _ _ _
  refine bm_if_true (by decide) ?_
  exact wpAny_pure hQ

theorem bytes_of_ba {Q : Value → Shared → Prop} (hb : s.heap.get? l = some (baObj b)) (hz : b.size ≤ sizeLine) (hQ : Q (.bytes b s.toks) { s with toks := s.toks + 1 }) :
    wpAny (model prog w) A (call (.type "bytes") [.ref l]) Q E s := by
  refine callType_codes (Q₁ := fun obj s₁ => s₁.TypeIs obj "bytes" ∧ Q obj s₁) PySem.F.bm_called (PySem.F.bm_typeCall _) PySem.F.entry_object_init
    (bcb_new hb hz ⟨PySem.W.typeIs_bytes _ _ _, hQ⟩) fun obj s₁ h₁ => ?_
  exact ⟨h₁.1, PySem.F.args_object_init_2 obj _, object_init_meets PySem.F.bm_called.init.lookup PySem.F.bm_called.made (by decide) prog w A.in1 _ s₁ ⟨h₁.1, rfl, h₁.2⟩⟩

theorem bytes_of_ba_K {Q : Value → Shared → Prop} (F : Fr h₀ L s.heap m) (N : News h₀ L s.heap news) (hm : (l, baObj b) ∈ news) (hz : b.size ≤ sizeLine)
    (h : ∀ t k, Q (.bytes b t) { s with toks := k }) :
    wpAny (model prog w) A (call (.type "bytes") [.ref l]) Q E s := bytes_of_ba (N _ hm).1 hz (h _ _)
theorem ba_len_K {Q : Value → Shared → Prop} (N : News h₀ L s.heap news) (hm : (l, baObj b) ∈ news) (hz : b.size < 2 ^ 62)
    (h : Q (.int b.size (s.toks + 1)) { s with toks := s.toks + 1 + 1 }) :
    wpAny (model prog w) A (call (.builtin "len") [.ref l]) Q E s := ba_len (N _ hm).1 hz h

theorem ba_slice_K {value slice : PySem.Expr} {lo hi : Int} {t u : Tok} {Q : Value → Shared → Prop} (F : Fr h₀ L s.heap m) (N : News h₀ L s.heap news) (hm : (l, baObj b) ∈ news) (hz : b.size ≤ sizeLine)
    (h : ∀ D h', Fr h₀ L h' m → News h₀ L h' ((D, baObj (KBy.picked b (some lo) (some hi))) :: news) → (∀ p ∈ news, p.1 < D) → Q (.ref D) { s with heap := h' })
    (hs : subscripted slice false (.ref l) (.ref s.heap.objs.size) = operate [.ref s.heap.objs.size, .ref l] (getItem (.ref l) (.ref s.heap.objs.size)))
    (ht : ∀ r, letTemporaryGo value (.ref l) r = pure ()) :
    wpAny (model prog w) A (subscriptTail value slice (.ref l) (.ref s.heap.objs.size)) Q E { s with heap := s.heap.push { cls := .type "slice", data := .fields #[.int lo t, .int hi u, .none] } } := by
  have hb : (s.heap.push { cls := .type "slice", data := .fields #[.int lo t, .int hi u, .none] }).get? l = some (baObj b) := Heap.get?_push_of_some _ (N _ hm).1
  have hT : Shared.TypeIs { s with heap := s.heap.push { cls := .type "slice", data := .fields #[.int lo t, .int hi u, .none] } } (.ref l) "bytearray" := ba_typeIs hb
  refine subscriptTail_ops hT ba_slot_getitem.lookup (getItem_meets hT (by decide) ba_slot_getitem ba_entry_getitem (ba_args_getitem _ _) (ba_meets_slice l b _ lo hi t u)
    ⟨hb, Heap.IsSliceOf.new _ _ _ _, Nat.le_trans (KBc.size_picked_le _ _ _) hz, ?_⟩) hs ht
  have N1 := News.push (F.push { cls := .type "slice", data := .fields #[.int lo t, .int hi u, .none] }) (N.grown fun _ _ e => Heap.get?_push_of_some _ e) (baObj (KBy.picked b (some lo) (some hi)))
  exact h _ _ ((F.push _).push _) N1 (fun p hp => by rw [Heap.size_push]; exact Nat.lt_succ_of_lt (Heap.lt_size (N p hp).1))
end
end Mine

local macro_rules | `(tactic| k_room) => `(tactic| ktr_room)
local macro_rules | `(tactic| walk_at "call builtin:len") => `(tactic| (k_here; (with_reducible show wpAny _ _ (call (Value.builtin "len") [Value.ref _]) _ _ _); k_dflt (refine' Mine.ba_len_K ?N ?m ?z ?_; (case N => k_asm); (case m => k_mem); (case z => omega); k_whole)))
local macro_rules | `(tactic| walk_at "call type:bytes") => `(tactic| (k_here; (with_reducible show wpAny _ _ (call (Value.type _) [Value.ref _]) _ _ _); k_dflt (refine' Mine.bytes_of_ba_K ?F ?N ?m ?z ?_; (case F => k_asm); (case N => k_asm); (case m => k_mem); (case z => first | (exact Nat.le_trans (KBc.size_picked_le _ _ _) (by rw [sizeLine_eq]; omega)) | (rw [sizeLine_eq]; omega)); k_whole); intro _ _))
local macro_rules | `(tactic| walk_at "subscriptTail") => `(tactic| (k_here; (with_reducible show wpAny _ _ (subscriptTail _ (PySem.Expr.Slice _ _ none _) (Value.ref _) (Value.ref _)) _ _ _); k_dflt (refine' Mine.ba_slice_K ?F ?N ?m ?z ?_ ?s ?t; (case F => k_asm); (case N => k_asm); (case m => k_mem); (case z => rw [sizeLine_eq]; omega); (case s => with_unfolding_all rfl); (case t => kmk_pure)); intro D' h' F' N' l1; (try k_lt l1); (try k_sweep)))
local macro_rules | `(tactic| walk_at "c_enter") => `(tactic| (refine' code_def ?k1 ?k2 ?k3 ?k4 ?k5 ?kA ?kF ?kK ?k6 ?k7 ?k8 ?k9 ?kB ?_ ?c2 ?c3 ?c4 ?c5; (case kA => exact rfl); (case kF => exact rfl); (case kK => assumption); (case k1 => k_asm); (case k2 => k_asm); (case k3 => k_asm); (case k4 => k_asm); (case k5 => k_asm); (case k6 => k_is); (case k7 => k_is); (case k8 => ktr_room); (case k9 => first | exact BindsTo.of_eq rfl | exact binds_K (by k_in) rfl (by k_is) rfl rfl rfl | fail "c_enter: no rule for these arguments"); (case c5 => decide); (case kB => exact locs rfl); (case c2 => exact rfl); (case c3 => exact rfl); (case c4 => exact rfl); k_whole; intro g' L' h' FG' F' N' B' X' T'; (try dsimp only); (try k_lift B'); (try k_fold)))

namespace Mine
noncomputable abbrev LZ : List Str := looseW Mine.vw [Str.ofString "UnsupportedOperation", Str.ofString "IOBase", Str.ofString "BufferedIOBase", Str.ofString "TextIOBase", Str.ofString "BytesIO", Str.ofString "StringIO"]
abbrev PG : Program := PySem.Challenge.rw_in0199_01.row.prog
/-- what a call hands back: a value, a ledger -/
abbrev Ret (h₀ : Heap) (L : Addr) (m : Str → Option Value) (s : Shared) (Q : Value → Shared → Prop) (R : Value → List (Addr × Obj) → Prop) : Prop :=
  ∀ v news' h' tk', R v news' → Fr h₀ L h' m → News h₀ L h' news' → Q v { s with heap := h', toks := tk' }
/-- a contract of a def's -/
abbrev Con (w : World) (mean : ExcName → Option Value) (mg mb : Str → Option Value) (lv : Nat) (f : Addr) (news : List (Addr × Obj)) (vs : List Value) (R : Value → List (Addr × Obj) → Prop) : Prop :=
  ∀ (dp un : Nat) (gd : Option (List Code)) (cn : Str) (cs : Scope) (a : Addr) (ccd : Value) (cl : List (Str × Addr)) (outer : List Env) (A₀ : Around) (base h₀ : Heap) (L : Addr) (m : Str → Option Value) (s : Shared) (Q E : Value → Shared → Prop),
    (Mine.K w.params).In h₀ → Below A₀ base outer h₀ → Fr h₀ L s.heap m → News h₀ L s.heap news → Top Mine.vw LZ mean mg mb h₀ → cs.kind = .function → dp + 10 * lv < recursionLimit → un + 200 * lv < cLine → Ret h₀ L m s Q R →
    wpAny (model PySem.Challenge.rw_in0199_01.row.prog w) (ktrTop dp un gd cn cs L a ccd cl outer) (call (.ref f) vs) Q E s
/-- the same, called from the law's own frame -/
abbrev Con0 (w : World) (mean : ExcName → Option Value) (mg mb : Str → Option Value) (lv : Nat) (f : Addr) (news : List (Addr × Obj)) (vs : List Value) (R : Value → List (Addr × Obj) → Prop) : Prop :=
  ∀ (dp un : Nat) (gd : Option (List Code)) (cn : Str) (cs : Scope) (a : Addr) (ccd : Value) (A₀ : Around) (base h₀ : Heap) (L : Addr) (m : Str → Option Value) (s : Shared) (Q E : Value → Shared → Prop),
    (Mine.K w.params).In base → Top Mine.vw LZ mean mg mb base → (Mine.K w.params).In h₀ → Below A₀ base [] h₀ → Fr h₀ L s.heap m → News h₀ L s.heap news → Top Mine.vw LZ mean mg mb h₀ → cs.kind = .function → dp + 10 * lv < recursionLimit → un + 200 * lv < cLine → Ret h₀ L m s Q R →
    wpAny (model PySem.Challenge.rw_in0199_01.row.prog w) (ktrTop dp un gd cn cs L a ccd [] []) (call (.ref f) vs) Q E s
theorem Con.con0 {w : World} {mean : ExcName → Option Value} {mg mb : Str → Option Value} {lv : Nat} {f : Addr} {news : List (Addr × Obj)} {vs : List Value} {R : Value → List (Addr × Obj) → Prop} (h : Con w mean mg mb lv f news vs R) : Con0 w mean mg mb lv f news vs R :=
  fun dp un gd cn cs a ccd A₀ base h₀ L m s Q E _ _ X B F N T hk hd hu hret => h dp un gd cn cs a ccd [] [] A₀ base h₀ L m s Q E X B F N T hk hd hu hret
end Mine
local macro_rules | `(tactic| walk_at "c1") => `(tactic| ((case F => k_asm); (case B => k_asm)))
local macro_rules | `(tactic| walk_at "c2") => `(tactic| ((case X => k_in); (case T => k_asm); (case hk => first | exact rfl | assumption)))
local macro_rules | `(tactic| walk_at "c3") => `(tactic| ((case hd => ktr_room); (case hu => ktr_units)))

namespace Mine
open Builtin
/-- the octets' number, the last one bearing the sign -/
def signedLe (ks : List Int) : Int := if ks.reverse.head?.any (fun k => decide (128 ≤ k)) = true then KFB.value ks.reverse - 256 ^ ks.length else KFB.value ks.reverse
section
variable {prog : Program} {w : World} {M : Model} {A : Around} {E : Value → Shared → Prop} {s : Shared} {K : Frag} {h₀ : Heap} {L : Addr} {m : PySem.Str → Option Value} {news : List (Addr × Obj)}
theorem fb_keeper {u : Addr} (h : Heap) (X : KFB.StandsAt u h) : ∃ k, (k = Keeper.frame ∨ k = Keeper.machine ∨ k = Keeper.boundFrame) ∧ Looks M h (keeperOf (.ref u)) k := by
  refine ⟨.machine, .inr (.inl rfl), ?_⟩
  unfold keeperOf
  refine (Looks.ld (part := none) X).andThen ?_
  simp only [KFB.bound, show (Value.type "builtin_function_or_method" != Value.type "method") = true by decide, show (Value.type "builtin_function_or_method" == Value.type "builtin_function_or_method" || Value.type "builtin_function_or_method" == Value.type "method-wrapper") = true by decide, if_true]
  exact .now
theorem fb_callWith {pos : Pos} {u : Addr} {first : List Value} {env : Env} {e : Expr} {rest : List Expr} {kws : List Keyword} {Q : Value → Shared → Prop} (N9z : News h₀ L s.heap news) (hm9z : (u, KFB.bound) ∈ news)
    (h : wpAny M A (spliced (backTo pos (starEach (e :: rest) env))) (fun vs s₁ => wpAny M A (evalAll ((backToKw pos (keywordEach kws env)).map (·.2)))
      (fun ks s₂ => KFB.StandsAt u s₂.heap ∧ wpAny M A (call (.ref u) (first ++ vs) (((backToKw pos (keywordEach kws env)).filterMap (·.1)).zip ks)) Q E s₂) E s₁) E s)
    (hall : (backToKw pos (keywordEach kws env)).all (·.1.isSome) = true)
    (hplain : ((backTo pos (starEach (e :: rest) env)).any (·.1) || (backToKw pos (keywordEach kws env)).any (·.1.isNone)) = false) (he : starEach (e :: rest) env = (false, eval e env) :: starEach rest env) :
    wpAny M A (callWith pos (.ref u) first (backTo pos (starEach (e :: rest) env)) (backToKw pos (keywordEach kws env))) Q E s :=
  callWith_of hplain (P := KFB.StandsAt u) fb_keeper (evalArgs_kw2 hall h he)

theorem grown_any {z : Int} {Q : Value → Shared → Prop} (hn : z.natAbs < 2 ^ 4096) (h : Q (.int z s.toks) { s with toks := s.toks + 1 }) : wpAny M A (mkIntGrown z) Q E s := by
  unfold mkIntGrown
  have hl : ¬ (z.natAbs.log2 ≥ bitsLine) := by
    have hb : bitsLine = 134217728 := by first | rfl | decide
    by_cases hz : z.natAbs = 0
    · rw [hz, hb]; decide
    · have h1 := (Nat.log2_lt hz).mpr hn
      omega
  rw [if_neg hl]
  exact wpAny_mkInt h
theorem head_any (l : List UInt8) : l.head?.any (· ≥ 128) = (l.map fun c => ((c.toNat : Nat) : Int)).head?.any fun k => decide (128 ≤ k) := by
  cases l with
  | nil => rfl
  | cons c r =>
    show decide (c ≥ 128) = decide ((128 : Int) ≤ (c.toNat : Int))
    have : (c ≥ 128) ↔ (128 : Int) ≤ (c.toNat : Int) := by
      show (128 : UInt8).toNat ≤ c.toNat ↔ _
      have h : (128 : UInt8).toNat = 128 := rfl
      rw [h]
      omega
    simp only [this]
theorem fb_tree {b : Array UInt8} {t u : Tok} {P : Fin → Shared → Prop} (hl : b.size ≤ 256) (h : P (.done (.ret (.int (signedLe (KBw.bInts b)) s.toks))) { s with toks := s.toks + 1 }) :
    wpAny M A (Builtin.«int.from_bytes» ⟨[.type "int", .bytes b t], [(PySem.Str.ofString "byteorder", .str (PySem.Str.ofString "little") u), (PySem.Str.ofString "signed", .bool true)]⟩) P E s := by
  have hr : (b.toList.reverse.map fun c => ((c.toNat : Nat) : Int)) = (KBw.bInts b).reverse := by rw [List.map_reverse]; rfl
  have hv : ((b.toList.reverse.foldl (fun (acc : Nat) (b : UInt8) => acc * 256 + b.toNat) 0 : Nat) : Int) = KFB.value (KBw.bInts b).reverse := by
    rw [KFB.fold_cast, hr]
    rfl
  have hn : b.toList.reverse.foldl (fun (acc : Nat) (b : UInt8) => acc * 256 + b.toNat) 0 < 256 ^ b.size := by
    have h1 := KFB.fold_lt b.toList.reverse 0
    rwa [Nat.zero_add, Nat.one_mul, List.length_reverse, Array.length_toList] at h1
  have hp : 256 ^ b.size ≤ 256 ^ 256 := Nat.pow_le_pow_right (by decide) hl
  have hpp : (256 : Nat) ^ 256 < 2 ^ 4096 := by decide +kernel
  unfold Builtin.«int.from_bytes»
  refine wpAny_bind (wpAny_of_eq (a := true) KFB.type_int ?_)
  refine KFB.if_not rfl ?_
  refine wpAny_bind (wpAny_of_eq (a := true) PySem.F.conv_sub_int ?_)
  refine KFB.if_not rfl ?_
  refine wpAny_bind (wpAny_of_eq (a := [some (.bytes b t), some (.str (PySem.Str.ofString "little") u), some (.bool true)]) (by kernel_rfl) ?_)
  refine wpAny_bind (wpAny_of_eq (a := PySem.Str.ofString "little") (by kernel_rfl) ?_)
  refine wpAny_bind (wpAny_of_eq (a := true) rfl ?_)
  refine wpAny_bind (wpAny_of_eq (a := true) (by kernel_rfl) ?_)
  refine wpAny_bind (wpAny_of_eq (a := b) rfl ?_)
  show wpAny _ _ (mkIntGrown (if (true && (b.toList.reverse.head?.any (· ≥ 128))) = true then b.toList.reverse.foldl (fun (acc : Int) (b : UInt8) => acc * 256 + (b.toNat : Int)) ((0 : Nat) : Int) - 256 ^ b.toList.reverse.length else b.toList.reverse.foldl (fun (acc : Int) (b : UInt8) => acc * 256 + (b.toNat : Int)) ((0 : Nat) : Int)) >>= fun v => _) _ _ _
  rw [KFB.foldI_eq, head_any, hr, hv, Bool.true_and, List.length_reverse, Array.length_toList]
  have e : (if (KBw.bInts b).reverse.head?.any (fun k => decide (128 ≤ k)) = true then KFB.value (KBw.bInts b).reverse - 256 ^ b.size else KFB.value (KBw.bInts b).reverse) = signedLe (KBw.bInts b) := by
    unfold signedLe
    rw [KBw.ints_length]
  rw [e]
  refine wpAny_bind (grown_any ?_ ?_)
  · have h2 : signedLe (KBw.bInts b) = KFB.value (KBw.bInts b).reverse - 256 ^ b.size ∨ signedLe (KBw.bInts b) = KFB.value (KBw.bInts b).reverse := by
      rw [← e]
      split
      · exact .inl rfl
      · exact .inr rfl
    rw [← hv] at h2
    have h3 : ((256 : Int) ^ b.size) = ((256 ^ b.size : Nat) : Int) := by push_cast; rfl
    rw [h3] at h2
    omega
  · refine KFB.if_so (by decide +kernel) ?_
    exact wpAny_bind (wpAny_pure (wpAny_pure h))
theorem fb_check {b : Array UInt8} {t u : Tok} : checkBoundCall "int.from_bytes" ⟨[.type "int", .bytes b t], [(PySem.Str.ofString "byteorder", .str (PySem.Str.ofString "little") u), (PySem.Str.ofString "signed", .bool true)]⟩ = pure () := by first | kernel_rfl | rfl
theorem fb_call {x : Addr} {b : Array UInt8} {t u : Tok} {ks : List Int} {Q : Value → Shared → Prop} (N : News h₀ L s.heap news) (hm : (x, KFB.bound) ∈ news) (hb : KBw.bInts b = ks) (hl : ks.length ≤ 256)
    (h : ∀ t' k, Q (.int (signedLe ks) t') { s with toks := k }) : wpAny (model prog w) A (call (.ref x) [.bytes b t] [(PySem.Str.ofString "byteorder", .str (PySem.Str.ofString "little") u), (PySem.Str.ofString "signed", .bool true)]) Q E s := by
  subst hb
  refine wpAny_call (codeAny_of_tree ?_)
  show wpAny _ A.in1 (callAny (.ref x) ⟨[.bytes b t], _⟩) _ _ s
  simp only [callAny]
  refine wpAny_bind (wpAny_load (KFB.at_of N hm) ?_)
  simp only [KFB.bound, show (Value.type "builtin_function_or_method" == Value.type "method" || Value.type "builtin_function_or_method" == Value.type "builtin_function_or_method" || Value.type "builtin_function_or_method" == Value.type "method-wrapper") = true by decide, if_true]
  refine KFB.if_so (by decide) ?_
  refine wpAny_bind (wpAny_of_eq (a := ()) fb_check ?_)
  refine wpAny_bind (wpAny_pure (wpAny_pure ?_))
  exact ⟨KFB.quiet_fb, codeAny_builtin KFB.entry_fb (fb_tree (by rw [← KBw.ints_length]; exact hl) (h _ _))⟩
end
end Mine

namespace Mine
abbrev plainMsg (n k : Int) : Str := Str.ofString "expected " ++ Str.ofString (toString n) ++ Str.ofString " bytes in a bytes1, but only " ++ Str.ofString (toString k) ++ Str.ofString " remain"
theorem msg_text : Str.ofString "expected %d bytes in a bytes1, but only %d remain" = Str.mk #[101, 120, 112, 101, 99, 116, 101, 100, 32, 37, 100, 32, 98, 121, 116, 101, 115, 32, 105, 110, 32, 97, 32, 98, 121, 116, 101, 115, 49, 44, 32, 98, 117, 116, 32, 111, 110, 108, 121, 32, 37, 100, 32, 114, 101, 109, 97, 105, 110] := by decide +kernel
set_option maxHeartbeats 8000000 in
theorem msg_mod {n k : Int} {t t1 t2 : Tok} {b : Addr} (h0 : 0 ≤ n) (h1 : n < 10 ^ 10) (h2 : 0 ≤ k) (h3 : k < 10 ^ 10) : Meets (PySem.Builtin.«str.__mod__» ⟨[.str (Str.mk #[101, 120, 112, 101, 99, 116, 101, 100, 32, 37, 100, 32, 98, 121, 116, 101, 115, 32, 105, 110, 32, 97, 32, 98, 121, 116, 101, 115, 49, 44, 32, 98, 117, 116, 32, 111, 110, 108, 121, 32, 37, 100, 32, 114, 101, 109, 97, 105, 110]) t, .ref b], []⟩) (fun _ R s => IsTup s.heap b #[.int n t1, .int k t2] ∧ ∀ t' k', R (.ok (.ret (.str (plainMsg n k) t'))) { s with toks := k' }) := by
  kpt_run
theorem msg_K {prog : Program} {w : World} {A : Around} {E : Value → Shared → Prop} {s : Shared} {h₀ : Heap} {L b : Addr} {news : List (Addr × Obj)} {n k : Int} {t t1 t2 : Tok} {c : Nat} {Q : Value → Shared → Prop} (N : News h₀ L s.heap news) (hb : (b, ({ cls := .type "tuple", data := .seq #[.int n t1, .int k t2] c } : Obj)) ∈ news)
    (h0 : 0 ≤ n) (h1 : n < 10 ^ 10) (h2 : 0 ≤ k) (h3 : k < 10 ^ 10) (h : ∀ t' k', Q (.str (plainMsg n k) t') { s with toks := k' }) : wpAny (model prog w) A (binaryOp .Mod (.str (Str.ofString "expected %d bytes in a bytes1, but only %d remain") t) (.ref b)) Q E s :=
  KPt.mod_tuple N hb msg_text (msg_mod h0 h1 h2 h3) h
end Mine

theorem Mine.clr50 : True := by (w_top off); k_with_none; trivial
namespace Mine
abbrev bioD (P : Params) (b : Addr) (pos : Int) (t1 t2 t3 : Tok) : List DictEntry := [⟨PyData.keyHash P "_BytesIO__buf", .str "_BytesIO__buf" t1, .ref b⟩, ⟨PyData.keyHash P "_BytesIO__pos", .str "_BytesIO__pos" t2, .int pos t3⟩]
def Oct (os : List Int) : Prop := ∀ n ∈ os, 0 ≤ n ∧ n < 256
theorem oct_ints {os : List Int} (h : Oct os) : KBw.bInts (byteArr os) = os := by
  have h1 := allB_of h
  clear h
  induction os with
  | nil => rfl
  | cons n r ih =>
    have h2 := ih h1.tail
    unfold KBw.bInts byteArr at h2 ⊢
    simp only [List.map_cons, List.cons.injEq]
    exact ⟨h1.head, h2⟩
theorem rd_eq {os : List Int} {pos hi : Int} {k : Nat} (ho : Oct os) (h0 : 0 ≤ pos) (hh : pos ≤ hi) (hhi : hi ≤ os.length) (e : hi.toNat - pos.toNat = min k (os.length - pos.toNat)) :
    KBw.bInts (KBy.picked (byteArr os) (some pos) (some hi)) = (os.drop pos.toNat).take k := by
  rw [KBc.ints_picked (oct_ints ho)]
  simp only [Option.elim]
  rw [clipAt_in h0 (by omega), clipAt_in (by omega) hhi, e]
  rw [← List.length_drop]
  rcases Nat.le_total k (os.drop pos.toNat).length with h | h
  · rw [Nat.min_eq_left h]
  · rw [Nat.min_eq_right h, List.take_of_length_le (Nat.le_refl _), List.take_of_length_le h]
theorem rd_size {b : Array UInt8} {ks : List Int} (h : KBw.bInts b = ks) : b.size = ks.length := by rw [← h, KBw.ints_length]

/-- what a read gives back -/
abbrev rdR (P : Params) (rest : List (Addr × Obj)) (x d b : Addr) (os : List Int) (pos : Int) (k : Nat) (t1 t2 : Tok) (v : Value) (n' : List (Addr × Obj)) : Prop :=
  ∃ (t t' : Tok) (q : Int) (bs : Array UInt8), v = .bytes bs t ∧ KBw.bInts bs = (os.drop pos.toNat).take k ∧ q = min (pos + k) os.length ∧ n' = (x, instObj 343 d) :: (d, dictOf (bioD P b q t1 t2 t') 2) :: (b, baObj (byteArr os)) :: rest
theorem rdR_mk {P : Params} {rest n' : List (Addr × Obj)} {x d b : Addr} {os : List Int} {pos : Int} {k : Nat} {t1 t2 t t' : Tok} {bs : Array UInt8} (q : Int) (h1 : KBw.bInts bs = (os.drop pos.toNat).take k) (h2 : q = min (pos + k) os.length)
    (h3 : n' = (x, instObj 343 d) :: (d, dictOf (bioD P b q t1 t2 t') 2) :: (b, baObj (byteArr os)) :: rest) : rdR P rest x d b os pos k t1 t2 (.bytes bs t) n' := ⟨t, t', q, bs, rfl, h1, h2, h3⟩
set_option maxHeartbeats 8000000 in
theorem read_ (w : World) (mean : ExcName → Option Value) (mg mb : Str → Option Value) (rest : List (Addr × Obj)) (x d b : Addr) (os : List Int) (pos : Int) (t1 t2 t3 : Tok)
   (ho : Oct os) (h0 : 0 ≤ pos) (h1 : pos ≤ os.length) (h2 : os.length < 100000) (hxd : LT.lt (α := Nat) d x) (hdb : LT.lt (α := Nat) x b) (hoff : OwnOff rest [x, d, b]) (k : Int) (tk : Tok) (hk0 : 0 ≤ k) (hk1 : k < 256) :
   Con w mean mg mb 1 267 ((x, instObj 343 d) :: (d, dictOf (bioD w.params b pos t1 t2 t3) 2) :: (b, baObj (byteArr os)) :: rest) [.ref x, .int k tk] (rdR w.params rest x d b os pos k.toNat t1 t2) := by
  have hsz : (byteArr os).size = os.length := byteArr_size os
  unfold Con; k_fill
  intro dp un gd cn cs a ccd cl outer A₀ base h₀ L m s Q E X B F N T hk hd hu hret
  refine wpAny_call ?_
  k_dflt (walk_at "c_enter")
  k_steps
  all_goals first
    | (refine hret _ _ _ _ (rdR_mk _ ?_ ?_ rfl) (by k_asm) (by first | k_asm | exact fun p hp => (by assumption : News _ _ _ (_ :: _)) p (.tail _ hp)))
    | skip
  all_goals first
    | exact rd_eq ho (by omega) (by omega) (by omega) (by omega)
    | (rw [List.drop_of_length_le (by omega), List.take_nil]; rfl)
    | omega
set_option maxHeartbeats 8000000 in
theorem read_all (w : World) (mean : ExcName → Option Value) (mg mb : Str → Option Value) (rest : List (Addr × Obj)) (x d b : Addr) (os : List Int) (pos : Int) (t1 t2 t3 : Tok)
   (ho : Oct os) (h0 : 0 ≤ pos) (h1 : pos ≤ os.length) (h2 : os.length < 100000) (hxd : LT.lt (α := Nat) d x) (hdb : LT.lt (α := Nat) x b) (hoff : OwnOff rest [x, d, b]) :
   Con w mean mg mb 1 267 ((x, instObj 343 d) :: (d, dictOf (bioD w.params b pos t1 t2 t3) 2) :: (b, baObj (byteArr os)) :: rest) [.ref x] (rdR w.params rest x d b os pos os.length t1 t2) := by
  have hsz : (byteArr os).size = os.length := byteArr_size os
  unfold Con; k_fill
  intro dp un gd cn cs a ccd cl outer A₀ base h₀ L m s Q E X B F N T hk hd hu hret
  refine wpAny_call ?_
  k_dflt (walk_at "c_enter")
  k_steps
  all_goals first
    | (refine hret _ _ _ _ (rdR_mk _ ?_ ?_ rfl) (by k_asm) (by first | k_asm | exact fun p hp => (by assumption : News _ _ _ (_ :: _)) p (.tail _ hp)))
    | skip
  all_goals first
    | exact rd_eq ho (by omega) (by omega) (by omega) (by omega)
    | (rw [List.drop_of_length_le (by omega), List.take_nil]; rfl)
    | omega
set_option maxHeartbeats 8000000 in
theorem tell_ (w : World) (mean : ExcName → Option Value) (mg mb : Str → Option Value) (rest : List (Addr × Obj)) (x d b : Addr) (os : List Int) (pos : Int) (t1 t2 t3 : Tok) (h0 : 0 ≤ pos) (h1 : pos < 100000) :
   Con w mean mg mb 1 243 ((x, instObj 343 d) :: (d, dictOf (bioD w.params b pos t1 t2 t3) 2) :: (b, baObj (byteArr os)) :: rest) [.ref x] (fun v n' => (∃ t, v = .int pos t) ∧ n' = (x, instObj 343 d) :: (d, dictOf (bioD w.params b pos t1 t2 t3) 2) :: (b, baObj (byteArr os)) :: rest) := by
  unfold Con; k_fill
  intro dp un gd cn cs a ccd cl outer A₀ base h₀ L m s Q E X B F N T hk hd hu hret
  refine wpAny_call ?_
  k_dflt (walk_at "c_enter")
  k_steps
  all_goals exact hret _ _ _ _ ⟨⟨_, by rw [Int.add_zero]⟩, rfl⟩ (by k_asm) (by k_asm)
end Mine

namespace Mine
theorem Con.mono {w : World} {mean : ExcName → Option Value} {mg mb : Str → Option Value} {lv : Nat} {f : Addr} {news : List (Addr × Obj)} {vs : List Value} {R R' : Value → List (Addr × Obj) → Prop} (h : Con w mean mg mb lv f news vs R) (k : ∀ v n, R v n → R' v n) : Con w mean mg mb lv f news vs R' :=
  fun dp un gd cn cs a ccd cl outer A₀ base h₀ L m s Q E X B F N T hk hd hu hret => h dp un gd cn cs a ccd cl outer A₀ base h₀ L m s Q E X B F N T hk hd hu fun v n h' tk r => hret v n h' tk (k v n r)
/-- a read's answer: its ints, as many as told; and, of one octet, which -/
abbrev rdO (P : Params) (rest : List (Addr × Obj)) (x d b : Addr) (os : List Int) (o q : Int) (t1 t2 : Tok) (v : Value) (n' : List (Addr × Obj)) : Prop :=
  ∃ (t t' : Tok) (bs : Array UInt8) (js : List Int), v = .bytes bs t ∧ KBw.bInts bs = js ∧ (js.length : Int) = 1 ∧ js.getD (Int.toNat 0) 0 = o ∧ n' = (x, instObj 343 d) :: (d, dictOf (bioD P b q t1 t2 t') 2) :: (b, baObj (byteArr os)) :: rest
abbrev rdN (P : Params) (rest : List (Addr × Obj)) (x d b : Addr) (os ks : List Int) (len q : Int) (t1 t2 : Tok) (v : Value) (n' : List (Addr × Obj)) : Prop :=
  ∃ (t t' : Tok) (bs : Array UInt8) (js : List Int), v = .bytes bs t ∧ KBw.bInts bs = js ∧ (js.length : Int) = len ∧ js = ks ∧ n' = (x, instObj 343 d) :: (d, dictOf (bioD P b q t1 t2 t') 2) :: (b, baObj (byteArr os)) :: rest
section
variable (w : World) (mean : ExcName → Option Value) (mg mb : Str → Option Value) (rest : List (Addr × Obj)) (x d b : Addr) (os : List Int) (pos : Int) (t1 t2 t3 : Tok)
   (ho : Oct os) (h0 : 0 ≤ pos) (h2 : os.length < 100000) (hxd : LT.lt (α := Nat) d x) (hdb : LT.lt (α := Nat) x b) (hoff : OwnOff rest [x, d, b])
include ho h0 h2 hxd hdb hoff
theorem read1_ (o : Int) (tk : Tok) (h1 : os[pos.toNat]? = some o) :
    Con w mean mg mb 1 267 ((x, instObj 343 d) :: (d, dictOf (bioD w.params b pos t1 t2 t3) 2) :: (b, baObj (byteArr os)) :: rest) [.ref x, .int 1 tk] (rdO w.params rest x d b os o (pos + 1) t1 t2) := by
  have hl : pos.toNat < os.length := (List.getElem?_eq_some_iff.mp h1).1
  refine (read_ w mean mg mb rest x d b os pos t1 t2 t3 ho h0 (by omega) h2 hxd hdb hoff 1 tk (by decide) (by decide)).mono ?_
  rintro v n' ⟨t, t', q, bs, rfl, h3, h4, rfl⟩
  have hq : q = pos + 1 := by rw [h4]; show min (pos + 1) _ = _; omega
  subst hq
  have h7 : KBw.bInts bs = [o] := by
    rw [h3]
    obtain ⟨h5, h6⟩ := List.getElem?_eq_some_iff.mp h1
    rw [List.drop_eq_getElem_cons h5, h6]
    rfl
  exact ⟨t, t', bs, [o], rfl, h7, rfl, rfl, rfl⟩
theorem readN_ (k : Int) (tk : Tok) (h1 : pos + k ≤ os.length) (hk0 : 0 ≤ k) (hk1 : k < 256) :
    Con w mean mg mb 1 267 ((x, instObj 343 d) :: (d, dictOf (bioD w.params b pos t1 t2 t3) 2) :: (b, baObj (byteArr os)) :: rest) [.ref x, .int k tk] (rdN w.params rest x d b os ((os.drop pos.toNat).take k.toNat) k (pos + k) t1 t2) := by
  refine (read_ w mean mg mb rest x d b os pos t1 t2 t3 ho h0 (by omega) h2 hxd hdb hoff k tk hk0 hk1).mono ?_
  rintro v n' ⟨t, t', q, bs, rfl, h3, h4, rfl⟩
  have hq : q = pos + k := by rw [h4]; omega
  subst hq
  refine ⟨t, t', bs, _, rfl, h3, ?_, rfl, rfl⟩
  rw [List.length_take, List.length_drop]
  omega
theorem readZ_ (k : Int) (tk : Tok) (h1 : pos ≤ os.length) (h3 : os.length ≤ pos + k) (hk0 : 0 ≤ k) (hk1 : k < 256) :
    Con w mean mg mb 1 267 ((x, instObj 343 d) :: (d, dictOf (bioD w.params b pos t1 t2 t3) 2) :: (b, baObj (byteArr os)) :: rest) [.ref x, .int k tk] (rdN w.params rest x d b os (os.drop pos.toNat) (os.length - pos) os.length t1 t2) := by
  refine (read_ w mean mg mb rest x d b os pos t1 t2 t3 ho h0 (by omega) h2 hxd hdb hoff k tk hk0 hk1).mono ?_
  rintro v n' ⟨t, t', q, bs, rfl, h5, h4, rfl⟩
  have hq : q = os.length := by rw [h4]; omega
  subst hq
  refine ⟨t, t', bs, os.drop pos.toNat, rfl, ?_, ?_, rfl, rfl⟩
  · rw [h5, List.take_of_length_le]
    rw [List.length_drop]
    omega
  · rw [List.length_drop]
    omega
end
end Mine

local macro_rules | `(tactic| walk_at "c_ctx") => `(tactic| ((case ho => with_reducible assumption); (case h0 => omega); (case h2 => with_reducible assumption); (case hx => with_reducible assumption); (case hb => with_reducible assumption); (case hf => with_reducible assumption)))
local macro_rules | `(tactic| walk_at "c_use") => `(tactic| ((walk_at "c1"); (case N => k_asm); (walk_at "c2"); (walk_at "c3")))
local macro_rules | `(tactic| walk_at "call ref") => `(tactic| (k_here; (with_reducible show wpAny _ _ (call (Value.ref 267) [Value.ref _, Value.int _ _]) _ _ _); k_dflt ((first   | (refine' Mine.readZ_ _ _ _ _ _ _ _ _ _ _ _ _ _ ?ho ?h0 ?h2 ?hx ?hb ?hf _ _ ?h1 ?h3 ?hk0 ?hk1 _ _ _ _ _ _ _ _ _ _ _ _ _ _ _ _ _ ?X ?B ?F ?N ?T ?hk ?hd ?hu ?_; (walk_at "c1"); (case N => k_asm); (case X => k_in); (walk_at "c_ctx"); (case h1 => omega); (case h3 => omega); (case hk0 => omega); (case hk1 => omega); (case T => k_asm); (case hk => first | exact rfl | assumption); (walk_at "c3"))   | (refine' Mine.read1_ _ _ _ _ _ _ _ _ _ _ _ _ _ ?ho ?h0 ?h2 ?hx ?hb ?hf _ _ ?h1 _ _ _ _ _ _ _ _ _ _ _ _ _ _ _ _ _ ?X ?B ?F ?N ?T ?hk ?hd ?hu ?_; (walk_at "c1"); (case N => k_asm); (case X => k_in); (walk_at "c_ctx"); (case h1 => assumption); (case T => k_asm); (case hk => first | exact rfl | assumption); (walk_at "c3"))   | (refine' Mine.readN_ _ _ _ _ _ _ _ _ _ _ _ _ _ ?ho ?h0 ?h2 ?hx ?hb ?hf _ _ ?h1 ?hk0 ?hk1 _ _ _ _ _ _ _ _ _ _ _ _ _ _ _ _ _ ?X ?B ?F ?N ?T ?hk ?hd ?hu ?_; (walk_at "c1"); (case N => k_asm); (case X => k_in); (walk_at "c_ctx"); (case h1 => omega); (case hk0 => omega); (case hk1 => omega); (case T => k_asm); (case hk => first | exact rfl | assumption); (walk_at "c3"))   | fail "c_read"); (k_whole; intro v' n' h' tk' hR' F' N'; obtain ⟨t', t2', bs', js', hv', hbs', hjl', hjs', hn'⟩ := hR'; subst hv'; subst hn'; (try k_fold)))))
local macro_rules | `(tactic| walk_at "callWith ref") => `(tactic| (k_here; (with_reducible show wpAny _ _ (callWith _ (Value.ref _) _ (backTo _ (starEach (_ :: _) _)) (backToKw _ (keywordEach (_ :: _) _))) _ _ _); kfb_any; k_dflt (refine' Mine.fb_callWith ?kfbN ?kfbM ?_ ?kfbA ?kfbP ?kfbE; (case kfbN => k_asm); (case kfbM => k_mem); (case kfbA => exact rfl); (case kfbP => exact rfl); (case kfbE => exact rfl); k_whole)))
local macro_rules | `(tactic| walk_at "call ref") => `(tactic| (k_here; (with_reducible show wpAny _ _ (call (Value.ref _) [Value.bytes _ _] _) _ _ _); kfb_any; k_dflt (refine' Mine.fb_call ?kfbN ?kfbM ?kfbB ?kfbL ?_; (case kfbN => k_asm); (case kfbM => k_mem); (case kfbB => with_reducible assumption); (case kfbL => omega); k_whole; intro _ _)))
local macro_rules | `(tactic| walk_at "c_enterS") => `(tactic| (refine' code_defS0 ?k1 ?k2 ?k3 ?k4 ?k5 ?kA ?k6 ?k7 ?k8 ?k9 ?kB ?_ ?cK ?c2 ?c3 ?c4 ?c5; (case kA => exact rfl); (case k2 => k_asm); (case k1 => k_asm); (case k3 => k_asm); (case k4 => k_asm); (case k5 => k_asm); (case k6 => k_is); (case k7 => k_is); (case k8 => ktr_room); (case k9 => first | exact BindsTo.of_eq rfl | exact binds_K (by k_in) rfl (by k_is) rfl rfl rfl | fail "no rule for these arguments"); (case kB => exact locs rfl); (case cK => assumption); (case c2 => exact rfl); (case c3 => exact rfl); (case c4 => exact rfl); (case c5 => decide); k_whole; intro g' L' h' FG' F' N' B' X' T' D'; (try dsimp only); (try k_lift B'); (try k_fold)))
local macro_rules | `(tactic| walk_at "binaryOp Mod str ref") => `(tactic| (k_here; (with_reducible show wpAny _ _ (binaryOp Operator.Mod (Value.str _ _) (Value.ref _)) _ _ _); k_dflt ((refine' Mine.msg_K ?N ?m ?a ?b ?c ?d ?_); (case N => k_asm); (case m => k_mem); (case a => omega); (case b => omega); (case c => omega); (case d => omega); k_whole; intro _ _)))
local macro_rules | `(tactic| walk_at "exec Raise") => `(tactic| (exfalso; omega))

theorem Mine.clr52 : True := by (w_top off); k_with_none; trivial
namespace Mine
/-- a list of two, new, over a stream that stands at q -/
abbrev resR (P : Params) (rest : List (Addr × Obj)) (x d b : Addr) (os : List Int) (q : Int) (t1 t2 : Tok) (word : Str) (z : Tok → Value) (v : Value) (n' : List (Addr × Obj)) : Prop :=
  ∃ (l : Addr) (ta tb t' : Tok), v = .ref l ∧ LT.lt (α := Nat) x l ∧ LT.lt (α := Nat) d l ∧ LT.lt (α := Nat) b l ∧ AllLt l rest ∧
    n' = (l, W.listOf #[.str word ta, z tb] 0) :: (x, instObj 343 d) :: (d, dictOf (bioD P b q t1 t2 t') 2) :: (b, baObj (byteArr os)) :: rest
theorem drop2 {h₀ h : Heap} {L : Addr} {p q : Addr × Obj} {r : List (Addr × Obj)} (N : News h₀ L h (p :: q :: r)) : News h₀ L h (p :: r) := fun a ha => N a (by
  rcases List.mem_cons.mp ha with rfl | ha
  · exact .head _
  · exact .tail _ (.tail _ ha))
section
variable (w : World) (mean : ExcName → Option Value) (mg mb : Str → Option Value) (rest : List (Addr × Obj)) (x d b : Addr) (os : List Int) (pos : Int) (t1 t2 t3 : Tok)
   (ho : Oct os) (h0 : 0 ≤ pos) (h2 : os.length < 100000) (hxd : LT.lt (α := Nat) d x) (hdb : LT.lt (α := Nat) x b) (hoff : OwnOff rest [x, d, b])
include ho h0 h2 hxd hdb hoff
set_option maxHeartbeats 8000000 in
theorem longA_ (n : Int) (hn : os[pos.toNat]? = some n) (hn0 : 0 ≤ n) (hn1 : n < 256) (hp : pos + 1 + n ≤ os.length) :
   Con0 w mean mg mb 2 641 ((x, instObj 343 d) :: (d, dictOf (bioD w.params b pos t1 t2 t3) 2) :: (b, baObj (byteArr os)) :: rest) [.ref x] (resR w.params rest x d b os (pos + 1 + n) t1 t2 "told" (fun t => .int (signedLe ((os.drop (pos + 1).toNat).take n.toNat)) t)) := by
  unfold Con0; k_fill
  intro dp un gd cn cs a ccd A₀ base h₀ L m s Q E XB TB X B F N T hk hd hu hret
  refine wpAny_call ?_
  k_dflt (walk_at "c_enterS")
  k_steps
  all_goals first
    | (exfalso; omega)
    | (repeat (rename KBw.bInts _ = _ => hx; clear hx)
       subst_vars
       refine hret _ _ _ _ ⟨_, _, _, _, rfl, ?_, ?_, ?_, ?_, rfl⟩ (by k_asm) (by first | k_asm | exact drop2 (by assumption))
       · omega
       · omega
       · omega
       · first | exact (by assumption : _ ∧ _ ∧ _ ∧ AllLt _ _).2.2.2 | exact (by assumption : _ ∧ _ ∧ _ ∧ _ ∧ AllLt _ _).2.2.2.2)
set_option maxHeartbeats 8000000 in
theorem longB_ (n : Int) (hn : os[pos.toNat]? = some n) (hn0 : 0 ≤ n) (hn1 : n < 256) (hp1 : pos + 1 ≤ os.length) (hp : os.length < pos + 1 + n) :
   Con0 w mean mg mb 2 641 ((x, instObj 343 d) :: (d, dictOf (bioD w.params b pos t1 t2 t3) 2) :: (b, baObj (byteArr os)) :: rest) [.ref x] (resR w.params rest x d b os os.length t1 t2 "refused" (fun t => .str "not enough data in stream to read long1" t)) := by
  unfold Con0; k_fill
  intro dp un gd cn cs a ccd A₀ base h₀ L m s Q E XB TB X B F N T hk hd hu hret
  refine wpAny_call ?_
  k_dflt (walk_at "c_enterS")
  k_steps
  all_goals first
    | (exfalso; omega)
    | (repeat (rename KBw.bInts _ = _ => hx; clear hx)
       subst_vars
       refine hret _ _ _ _ ⟨_, _, _, _, rfl, ?_, ?_, ?_, ?_, rfl⟩ (by k_asm) (by first | k_asm | exact drop2 (by assumption))
       · omega
       · omega
       · omega
       · first | exact (by assumption : _ ∧ _ ∧ _ ∧ AllLt _ _).2.2.2 | exact (by assumption : _ ∧ _ ∧ _ ∧ _ ∧ AllLt _ _).2.2.2.2)
set_option maxHeartbeats 8000000 in
theorem longC_ (hp : pos = os.length) :
   Con0 w mean mg mb 2 641 ((x, instObj 343 d) :: (d, dictOf (bioD w.params b pos t1 t2 t3) 2) :: (b, baObj (byteArr os)) :: rest) [.ref x] (resR w.params rest x d b os os.length t1 t2 "refused" (fun t => .str "not enough data in stream to read uint1" t)) := by
  unfold Con0; k_fill
  intro dp un gd cn cs a ccd A₀ base h₀ L m s Q E XB TB X B F N T hk hd hu hret
  refine wpAny_call ?_
  k_dflt (walk_at "c_enterS")
  k_steps
  all_goals first
    | (exfalso; omega)
    | (repeat (rename KBw.bInts _ = _ => hx; clear hx)
       subst_vars
       refine hret _ _ _ _ ⟨_, _, _, _, rfl, ?_, ?_, ?_, ?_, rfl⟩ (by k_asm) (by first | k_asm | exact drop2 (by assumption))
       · omega
       · omega
       · omega
       · first | exact (by assumption : _ ∧ _ ∧ _ ∧ AllLt _ _).2.2.2 | exact (by assumption : _ ∧ _ ∧ _ ∧ _ ∧ AllLt _ _).2.2.2.2)
end
end Mine

theorem Mine.clr53 : True := by (w_top off); k_with_none; trivial
namespace Mine
theorem bs_of_ints {bs : Array UInt8} {ks : List Int} (h : KBw.bInts bs = ks) : bs = byteArr ks := by
  subst h
  unfold KBw.bInts byteArr
  rw [List.map_map]
  have e : bs.toList.map ((fun n : Int => n.toNat.toUInt8) ∘ fun c : UInt8 => ((c.toNat : Nat) : Int)) = bs.toList := by
    rw [List.map_congr_left (g := id), List.map_id]
    intro c _
    show ((c.toNat : Int)).toNat.toUInt8 = c
    rw [Int.toNat_natCast]
    exact UInt8.ofNat_toNat
  rw [e, Array.toArray_toList]
section
variable (w : World) (mean : ExcName → Option Value) (mg mb : Str → Option Value) (rest : List (Addr × Obj)) (x d b : Addr) (os : List Int) (pos : Int) (t1 t2 t3 : Tok)
   (ho : Oct os) (h0 : 0 ≤ pos) (h2 : os.length < 100000) (hxd : LT.lt (α := Nat) d x) (hdb : LT.lt (α := Nat) x b) (hoff : OwnOff rest [x, d, b])
include ho h0 h2 hxd hdb hoff
set_option maxHeartbeats 8000000 in
theorem plainA_ (n : Int) (hn : os[pos.toNat]? = some n) (hn0 : 0 ≤ n) (hn1 : n < 256) (hp : pos + 1 + n ≤ os.length) :
   Con0 w mean mg mb 2 648 ((x, instObj 343 d) :: (d, dictOf (bioD w.params b pos t1 t2 t3) 2) :: (b, baObj (byteArr os)) :: rest) [.ref x] (resR w.params rest x d b os (pos + 1 + n) t1 t2 "told" (fun t => .bytes (byteArr ((os.drop (pos + 1).toNat).take n.toNat)) t)) := by
  unfold Con0; k_fill
  intro dp un gd cn cs a ccd A₀ base h₀ L m s Q E XB TB X B F N T hk hd hu hret
  refine wpAny_call ?_
  k_dflt (walk_at "c_enterS")
  k_steps
  all_goals first
    | (exfalso; omega)
    | (repeat (rename KBw.bInts _ = _ => hx; replace hx := bs_of_ints hx)
       subst_vars
       refine hret _ _ _ _ ⟨_, _, _, _, rfl, ?_, ?_, ?_, ?_, rfl⟩ (by k_asm) (by first | k_asm | exact drop2 (by assumption))
       · omega
       · omega
       · omega
       · first | exact (by assumption : _ ∧ _ ∧ _ ∧ AllLt _ _).2.2.2 | exact (by assumption : _ ∧ _ ∧ _ ∧ _ ∧ AllLt _ _).2.2.2.2)
set_option maxHeartbeats 8000000 in
theorem plainB_ (n : Int) (hn : os[pos.toNat]? = some n) (hn0 : 0 ≤ n) (hn1 : n < 256) (hp1 : pos + 1 ≤ os.length) (hp : os.length < pos + 1 + n) :
   Con0 w mean mg mb 2 648 ((x, instObj 343 d) :: (d, dictOf (bioD w.params b pos t1 t2 t3) 2) :: (b, baObj (byteArr os)) :: rest) [.ref x] (resR w.params rest x d b os os.length t1 t2 "refused" (fun t => .str (plainMsg n ((os.drop (pos + 1).toNat).length : Int)) t)) := by
  unfold Con0; k_fill
  intro dp un gd cn cs a ccd A₀ base h₀ L m s Q E XB TB X B F N T hk hd hu hret
  refine wpAny_call ?_
  k_dflt (walk_at "c_enterS")
  k_steps
  all_goals first
    | (exfalso; omega)
    | (repeat (rename KBw.bInts _ = _ => hx; replace hx := bs_of_ints hx)
       subst_vars
       refine hret _ _ _ _ ⟨_, _, _, _, rfl, ?_, ?_, ?_, ?_, rfl⟩ (by k_asm) (by first | k_asm | exact drop2 (by assumption))
       · omega
       · omega
       · omega
       · first | exact (by assumption : _ ∧ _ ∧ _ ∧ AllLt _ _).2.2.2 | exact (by assumption : _ ∧ _ ∧ _ ∧ _ ∧ AllLt _ _).2.2.2.2)
set_option maxHeartbeats 8000000 in
theorem plainC_ (hp : pos = os.length) :
   Con0 w mean mg mb 2 648 ((x, instObj 343 d) :: (d, dictOf (bioD w.params b pos t1 t2 t3) 2) :: (b, baObj (byteArr os)) :: rest) [.ref x] (resR w.params rest x d b os os.length t1 t2 "refused" (fun t => .str "not enough data in stream to read uint1" t)) := by
  unfold Con0; k_fill
  intro dp un gd cn cs a ccd A₀ base h₀ L m s Q E XB TB X B F N T hk hd hu hret
  refine wpAny_call ?_
  k_dflt (walk_at "c_enterS")
  k_steps
  all_goals first
    | (exfalso; omega)
    | (repeat (rename KBw.bInts _ = _ => hx; replace hx := bs_of_ints hx)
       subst_vars
       refine hret _ _ _ _ ⟨_, _, _, _, rfl, ?_, ?_, ?_, ?_, rfl⟩ (by k_asm) (by first | k_asm | exact drop2 (by assumption))
       · omega
       · omega
       · omega
       · first | exact (by assumption : _ ∧ _ ∧ _ ∧ AllLt _ _).2.2.2 | exact (by assumption : _ ∧ _ ∧ _ ∧ _ ∧ AllLt _ _).2.2.2.2)
end
end Mine

namespace Mine
theorem made_343 (P : Program) (w : World) : peek (Mine.K w.params) ⟨P, w.params⟩ (Bind.madeBy (.ref 343)) = some none := by kernel_rfl
theorem mro_343 (P : Program) (w : World) : peek (Mine.K w.params) ⟨P, w.params⟩ (mroOf (.ref 343)) = some [.ref 343, .ref 101, .ref 86, .type "object"] := by kernel_rfl
theorem base_343 (P : Program) (w : World) : peek (Mine.K w.params) ⟨P, w.params⟩ (Bind.madeHere "object.__new__" (.ref 343)) = some () := by kernel_rfl
theorem init_343 (P : Program) (w : World) : peek (Mine.K w.params) ⟨P, w.params⟩ (typeLookup (.ref 343) "__init__") = some (some (.ref 130)) := by kernel_rfl
theorem type_343 (P : Program) (w : World) : peek (Mine.K w.params) ⟨P, w.params⟩ (isType (.ref 343)) = some true := by kernel_rfl
theorem inst_343 (P : Program) (w : World) : peek (Mine.K w.params) ⟨P, w.params⟩ (isSubtype (.ref 343) (.ref 343)) = some true := by kernel_rfl
theorem check_343 (P : Program) (w : World) : peek (Mine.K w.params) ⟨P, w.params⟩ (checkBuiltinCall "object.__new__" ⟨[.ref 343], []⟩) = some () := by kernel_rfl
theorem flags_343 (P : Program) (w : World) : (peek (Mine.K w.params) ⟨P, w.params⟩ (classData 343)).map (fun cd => (cd.abstract, cd.hasDel)) = some (false, false) := by kernel_rfl
theorem del_343 (P : Program) (w : World) : peek (Mine.K w.params) ⟨P, w.params⟩ (classHasDel 343) = some false := by kernel_rfl
section
variable {prog : Program} {w : World} {A : Around} {R : Result → Shared → Prop} {h : Heap} {g : Array GenState} {d : Drawn} {t : Nat} {os : OsState}
set_option maxHeartbeats 4000000 in
theorem onew (X : (Mine.K w.params).In h) (hq : R (.ok (.ret (.ref (h.objs.size + 1)))) ⟨(h.push emptyDict).push (instObj 343 h.objs.size), g, d, t, os⟩) :
    codeAny (model prog w) A (.call (.builtin "object.__new__") ⟨[.ref 343], []⟩) R ⟨h, g, d, t, os⟩ := by
  have F := PySem.F.objNew
  have Lh : Looks (model prog w) h (Bind.madeHere "object.__new__" (.ref 343)) () := Looks.of_peek X (base_343 _ _)
  have Lt : Looks (model prog w) h (isType (.ref 343)) true := Looks.of_peek X (type_343 _ _)
  have Lk : Looks (model prog w) h (checkBuiltinCall "object.__new__" ⟨[.ref 343], []⟩) () := Looks.of_peek X (check_343 _ _)
  obtain ⟨cd, hcd, hfl⟩ := Option.map_eq_some_iff.mp (flags_343 prog w)
  obtain ⟨hab, hdel⟩ := Prod.mk.inj hfl
  have Lc : Looks (model prog w) h (classData 343) cd := Looks.of_peek X hcd
  refine codeAny_call_builtin_code (Code.quiet_builtin _ F.quiet) (Lk.here (codeAny_builtin F.entry ?_))
  unfold Builtin.«object.__new__»
  refine wpAny_bind (Lt.here ?_)
  refine bm_if_false rfl ?_
  refine wpAny_bind (Lh.here ?_)
  refine bm_if_false rfl ?_
  refine wpAny_bind (Lc.here ?_)
  refine bm_if_false hab ?_
  show wpAny _ _ ((alloc emptyDict >>= fun x => pure (some x)) >>= _) _ _ _
  refine wpAny_bind (wpAny_bind (wpAny_alloc (wpAny_pure (wpAny_bind ?_))))
  show wpAny _ _ (newObjAsIs _ _ _) _ _ _
  unfold newObjAsIs
  have Ld : Looks (model prog w) ((h.push emptyDict).push (instObj 343 h.objs.size)) (classHasDel 343) false := (Looks.of_peek X (del_343 _ _)).keeps fun b o e => Heap.get?_push_of_some _ (Heap.get?_push_of_some _ e)
  refine wpAny_bind (wpAny_alloc (wpAny_bind (Ld.here ?_)))
  refine bm_if_false rfl ?_
  refine wpAny_pure (wpAny_pure ?_)
  show R _ _
  rw [Heap.size_push]
  exact hq
end
theorem onew_K {prog : Program} {w : World} {A : Around} {E : Value → Shared → Prop} {s : Shared} {h₀ : Heap} {L : Addr} {m : Str → Option Value} {news : List (Addr × Obj)} {Q : Value → Shared → Prop}
    (F : Fr h₀ L s.heap m) (N : News h₀ L s.heap news) (X₀ : (Mine.K w.params).In h₀)
    (h : ∀ x dx h', Fr h₀ L h' m → News h₀ L h' ((x, instObj 343 dx) :: (dx, dictOf [] 0) :: news) → (∀ p ∈ news, p.1 < dx) → dx < x → Q (.ref x) { s with heap := h' }) :
    wpAny (model prog w) A (call (.builtin "object.__new__") [.ref 343]) Q E s := by
  obtain ⟨hh, g, d, t, os⟩ := s
  refine wpAny_call (onew (X₀.keeps F.keep) (h _ hh.objs.size _ ((F.push _).push _) ?_ (fun p hp => Heap.lt_size (N p hp).1) (Nat.lt_succ_self _)))
  have := (N.push F emptyDict).push (F.push _) (instObj 343 hh.objs.size)
  rwa [Heap.size_push] at this
set_option maxHeartbeats 8000000 in
theorem getnew_343 (w : World) {A : Around} {E : Value → Shared → Prop} {s : Shared} {mean : ExcName → Option Value} {mg mb : Str → Option Value} {h₀ : Heap} {L : Addr} {m : Str → Option Value} {news : List (Addr × Obj)} {Q : Value → Shared → Prop}
    (F : Fr h₀ L s.heap m) (N : News h₀ L s.heap news) (X : (Mine.K w.params).In h₀) (T : Top Mine.vw LZ mean mg mb h₀)
    (h : ∀ h' k, Fr h₀ L h' m → News h₀ L h' news → Q (.ref 83) { s with heap := h', toks := k }) : wpAny (model PySem.Challenge.rw_in0199_01.row.prog w) A (getAttr (.ref 343) (Str.ofString "__new__")) Q E s := by
  revert X; k_fill; intro X
  walk1
  exact h _ _ F N
end Mine

local macro_rules | `(tactic| walk_at "c_enterB") => `(tactic| (refine' kp_both ?k1 ?k2 ?k3 ?k4 ?k5 ?kA ?kF ?kK ?k6 ?k7 ?k8 ?kV ?kX ?kQ ?kM ?kN ?kD ?kR ?kP ?kS ?kT ?kB ?_ ?c2 ?c3 ?c4 ?c5; (case kA => exact rfl); (case kF => exact rfl); (case kK => assumption); (case k1 => k_asm); (case k2 => k_asm); (case k3 => k_asm); (case k4 => k_asm); (case k5 => k_asm); (case k6 => k_is); (case k7 => k_is); (case k8 => ktr_room); (case kV => kp_lit); (case kX => kp_lit); (case kQ => exact rfl); (case kM => exact rfl); (case kN => exact rfl); (case kD => kp_flats); (case kR => exact rfl); (case kP => exact rfl); (case kS => exact fun _ => rfl); (case kT => exact fun _ _ => rfl); (case kB => exact fun _ _ => locs rfl); (case c5 => decide); (case c2 => exact rfl); (case c3 => exact rfl); (case c4 => exact rfl); k_whole; intro C' D' o' g' L' h' tk' l1 l2 lo' hs' fs' FG' F' N' B' X' T'; (try k_lt l1); (try k_lt2 l2); (try dsimp only); (try k_lift B'); (try k_fold)))
local macro_rules | `(tactic| walk_at "call builtin:object.__new__") => `(tactic| (k_here; k_dflt (refine' Mine.onew_K ?F ?N ?X ?_; (case F => k_asm); (case N => k_asm); (case X => k_asm); k_whole; intro x' d' h' F' N' l1 l2; (try k_lt l1); (try k_lt2 l2); (try k_sweep))))

theorem Mine.clr62 : True := by (w_top off); k_with_none; trivial
namespace Mine
theorem drop2' {h₀ h : Heap} {L : Addr} {p q a b : Addr × Obj} {r : List (Addr × Obj)} (N : News h₀ L h (p :: q :: a :: b :: r)) : News h₀ L h (p :: q :: r) := fun y hy => N y (by
  rcases List.mem_cons.mp hy with rfl | hy
  · exact .head _
  rcases List.mem_cons.mp hy with rfl | hy
  · exact .tail _ (.head _)
  · exact .tail _ (.tail _ (.tail _ (.tail _ hy))))
set_option maxHeartbeats 8000000 in
theorem new_ (w : World) (mean : ExcName → Option Value) (mg mb : Str → Option Value) (rest : List (Addr × Obj)) (bs : Array UInt8) (t : Tok) :
   Con w mean mg mb 1 83 rest [.ref 343, .bytes bs t] (fun v n' => ∃ x d : Addr, v = .ref x ∧ LT.lt (α := Nat) d x ∧ AllLt d rest ∧ n' = (x, instObj 343 d) :: (d, dictOf [] 0) :: rest) := by
  unfold Con; k_fill
  intro dp un gd cn cs a ccd cl outer A₀ base h₀ L m s Q E X B F N T hk hd hu hret
  refine wpAny_call ?_
  k_dflt (walk_at "c_enterB")
  k_steps
  refine hret _ _ _ _ ⟨_, _, rfl, ?_, ?_, rfl⟩ (by k_asm) (drop2' (by assumption))
  · omega
  · first | exact (by assumption : AllLt _ _) | exact (by assumption : _ ∧ AllLt _ _).2 | exact (by assumption : _ ∧ _ ∧ AllLt _ _).2.2
end Mine

namespace Mine
section
variable {M : Model} {A : Around} {E : Value → Shared → Prop} {s : Shared} {env : Env}
theorem wpR_execs_cons {st : PySem.Stmt} {rest : List PySem.Stmt} {Q : Flow → Shared → Prop}
    (h : wpR M A (exec st env) (fun f s' => match f with | .next => wpR M A (execs rest env) Q E s' | f => Q f s') E s) :
    wpR M A (execs (st :: rest) env) Q E s := by
  rw [execs_cons]
  refine wpR_bind (wpR_mono h (fun f s' h' => ?_) fun _ _ e => e)
  cases f with
  | next => exact h'
  | brk => exact wpR_pure h'
  | cont => exact wpR_pure h'
  | ret v => exact wpR_pure h'
theorem wpR_Assign_Name {x : Str} {pos' : Pos} {value : PySem.Expr} {pos : Pos} {Q : Flow → Shared → Prop}
    (h : wpR M A (eval value env) (fun v s₁ => wpR M A (storeName env x v) (fun _ => Q .next) E s₁) E s)
    (hs : swapsWith value (some (.Name x pos')) pos.line env = pure false) :
    wpR M A (exec (.Assign [.Name x pos'] value pos) env) Q E s := fun Γ p hΓ h1 h2 => by
  simp only [exec_Assign_Name env x pos' value pos hs, Sem.wp_bind', Sem.wp_cmd_standAt, Sem.wp_bindName, Sem.wp_pure']
  exact Sem.wp_mono M Γ _ (fun v _ s₁ hh => hh Γ _ hΓ h1 h2) (fun _ _ _ h' => h') _ _ (h Γ _ hΓ h1 h2)
theorem wpR_Assign_Attribute {o : PySem.Expr} {attr : Str} {pos' : Pos} {value : PySem.Expr} {pos : Pos} {Q : Flow → Shared → Prop}
    (h : wpR M A (eval value env) (fun v s₁ => wpR M A (eval o env) (fun ov s₂ => wpR M A (setAttr ov attr v) (fun _ => Q .next) E s₂) E s₁) E s)
    (hs : swapsWith value (some (.Attribute o attr pos')) pos.line env = pure false) :
    wpR M A (exec (.Assign [.Attribute o attr pos'] value pos) env) Q E s := fun Γ p hΓ h1 h2 => by
  simp only [plainObj_exec_Assign_Attribute o attr pos' value pos hs, assign_Attribute, Sem.wp_bind', Sem.wp_holding, Sem.wp_cmd_standAt, Sem.wp_release, Sem.wp_pure']
  exact Sem.wp_mono M Γ _ (fun v p₁ s₁ hh => Sem.wp_mono M Γ _ (fun ov _ s₂ hk => hk Γ _ hΓ h1 h2) (fun _ _ _ h' => h') _ _ (hh Γ p₁ hΓ h1 h2)) (fun _ _ _ h' => h') _ _ (h Γ _ hΓ h1 h2)
theorem wpR_IfExp {test body orelse : PySem.Expr} {pos : Pos} {Q : Value → Shared → Prop}
    (h : wpR M A (isTrue test env (eval test env)) (fun c s₂ => if c then wpR M A (eval body env) Q E s₂ else wpR M A (eval orelse env) Q E s₂) E s) :
    wpR M A (eval (.IfExp test body orelse pos) env) Q E s := by
  rw [eval_IfExp]
  refine wpR_bind (wpR_mono h (fun c s₂ h₂ => ?_) fun _ _ x => x)
  cases c <;> exact h₂
theorem wpR_Call {func : PySem.Expr} {args : List PySem.Expr} {pos : Pos} {Q : Value → Shared → Prop}
    (h : wpR M A (eval func env) (fun f s₁ => wpR M A (callWith pos f [] (backTo pos (starEach args env)) []) Q E s₁) E s)
    (he : eval (.Call func args [] pos) env = (do callWith pos (← eval func env) [] (backTo pos (starEach args env)) (backToKw pos (keywordEach [] env)))) :
    wpR M A (eval (.Call func args [] pos) env) Q E s := by
  rw [he]; exact wpR_bind h
theorem wpR_keep {α : Type} {vs : List Value} {m : Sem α} {Q : α → Shared → Prop} (h : wpR M A m Q E s) : wpR M A (m.keep vs) Q E s :=
  fun Γ p hΓ h1 h2 => by rw [Sem.wp_keep]; exact h Γ p hΓ h1 h2
theorem wpR_callWith_type {pos : Pos} {T : String} {first : List Value} {args : List (Bool × Sem Value)} {Q : Value → Shared → Prop} (hplain : args.any (·.1) = false)
    (h : wpAny M A (evalArgs (.type T) true args []) (fun a s₁ => wpR M A (call (.type T) (first ++ a.pos) a.kw) Q E s₁) E s) :
    wpR M A (callWith pos (.type T) first args []) Q E s := by
  unfold callWith
  refine wpR_bind (wpR_holding (wpR_of (wpAny_mono h (fun a s₁ h₁ => ?_) fun _ _ x => x)))
  refine wpR_bind (wpR_of (wpAny_standAt ?_))
  simp only [hplain, List.any_nil, Bool.or_false]
  refine wpR_bind (wpR_pure ?_)
  exact wpR_bind (wpR_mono h₁ (fun r s₂ hr => wpR_bind (wpR_holding (wpR_of (wpAny_point (wpR_pure hr))))) fun _ _ x => x)
theorem wpR_callWith_type1 {pos : Pos} {T : String} {e : PySem.Expr} {rest : List PySem.Expr} {Q : Value → Shared → Prop}
    (h : wpAny M A (spliced (backTo pos (starEach (e :: rest) env))) (fun vs s₁ => wpR M A (call (.type T) vs) Q E s₁) E s)
    (he : starEach (e :: rest) env = (false, eval e env) :: starEach rest env)
    (hplain : (backTo pos (starEach rest env)).any (·.1) = false) :
    wpR M A (callWith pos (.type T) [] (backTo pos (starEach (e :: rest) env)) []) Q E s := by
  rw [he] at h ⊢
  exact wpR_callWith_type (by show (false || (backTo pos (starEach rest env)).any (·.1)) = false; rw [hplain]; rfl) (evalArgs_plain h)
theorem wpR_callWith_of {pos : Pos} {f : Value} {first : List Value} {Q : Value → Shared → Prop} {P : Heap → Prop} {args : List (Bool × Sem Value)} {keywords : List (Option Str × Sem Value)} (hplain : (args.any (·.1) || keywords.any (·.1.isNone)) = false)
    (hk : ∀ h, P h → ∃ k, (k = Keeper.frame ∨ k = Keeper.machine ∨ k = Keeper.boundFrame) ∧ Looks M h (keeperOf f) k)
    (h : wpAny M A (evalArgs f true args keywords) (fun a s₁ => P s₁.heap ∧ wpR M A (call f (first ++ a.pos) a.kw) Q E s₁) E s) : wpR M A (callWith pos f first args keywords) Q E s := by
  unfold callWith
  refine wpR_bind (wpR_holding (wpR_of (wpAny_mono h (fun a s₁ h₁ => ?_) fun _ _ x => x)))
  refine wpR_bind (wpR_of (wpAny_standAt ?_))
  obtain ⟨k, hk', L⟩ := hk _ h₁.1
  simp only [hplain]
  refine wpR_bind (wpR_of (L.here ?_))
  have tail : ∀ {t : Sem Value}, wpR M A t Q E s₁ → wpR M A (t >>= fun r => holding [r] point >>= fun _ => pure r) Q E s₁ :=
    fun ht => wpR_bind (wpR_mono ht (fun r s₂ hr => wpR_bind (wpR_holding (wpR_of (wpAny_point (wpR_pure hr))))) fun _ _ x => x)
  have marked (mk : Value) : wpR M A (callMarked mk f (first ++ a.pos) a.kw) Q E s₁ := by unfold callMarked; exact wpR_keep h₁.2
  rcases hk' with rfl | rfl | rfl
  · dsimp only
    split
    · exact tail h₁.2
    · exact tail (marked _)
  · exact tail h₁.2
  · dsimp only
    split
    · exact tail h₁.2
    · exact tail (marked _)
theorem wpR_callWith_K {K : Frag} {h₀ : Heap} {pos : Pos} {f : Value} {first : List Value} {Q : Value → Shared → Prop} {e : PySem.Expr} {rest : List PySem.Expr} (X9z : K.In h₀) (hk : keepIn K f = true)
    (h : wpAny M A (spliced (backTo pos (starEach (e :: rest) env))) (fun vs s₁ => K.In s₁.heap ∧ wpR M A (call f (first ++ vs)) Q E s₁) E s)
    (he : starEach (e :: rest) env = (false, eval e env) :: starEach rest env) (hplain : (backTo pos (starEach rest env)).any (·.1) = false) :
    wpR M A (callWith pos f first (backTo pos (starEach (e :: rest) env)) []) Q E s := by
  rw [he] at h ⊢
  exact wpR_callWith_of (by show ((false || (backTo pos (starEach rest env)).any (·.1)) || false) = false; rw [hplain]; rfl) (keeps_K hk) (evalArgs_plain h)
end
end Mine

local macro_rules | `(tactic| walk_at "c_enterR") => `(tactic| (refine' Mine.codeR_def ?k1 ?k2 ?k3 ?k4 ?k5 ?kA ?kF ?kK ?k6 ?k7 ?k8 ?k9 ?kB ?_ ?c2 ?c3 ?c4 ?c5; (case kA => exact rfl); (case kF => exact rfl); (case kK => assumption); (case k1 => k_asm); (case k2 => k_asm); (case k3 => k_asm); (case k4 => k_asm); (case k5 => k_asm); (case k6 => k_is); (case k7 => k_is); (case k8 => ktr_room); (case k9 => first | exact BindsTo.of_eq rfl | exact binds_K (by k_in) rfl (by k_is) rfl rfl rfl | fail "c_enterR: no rule for these arguments"); (case c5 => decide); (case kB => exact locs rfl); (case c2 => exact rfl); (case c3 => exact rfl); (case c4 => exact rfl); k_whole; intro g' L' h' FG' F' N' B' X' T'; (try dsimp only); (try k_lift B')))
local macro_rules | `(tactic| walk_at "call type:type") => `(tactic| ((with_reducible show wpAny _ _ (call (Value.type _) [Value.bytes _ _]) _ _ _); k_dflt (refine' PySem.call_type_of (typeIs_bytes _ _ _) (by decide) ?_)))

theorem Mine.clr66 : True := by (w_top off); k_with_none; trivial
namespace Mine
theorem rot3 {h₀ h : Heap} {L : Addr} {p q a : Addr × Obj} {r : List (Addr × Obj)} (N : News h₀ L h (p :: q :: a :: r)) : News h₀ L h (q :: a :: p :: r) := fun y hy => N y (by
  rcases List.mem_cons.mp hy with rfl | hy
  · exact .tail _ (.head _)
  rcases List.mem_cons.mp hy with rfl | hy
  · exact .tail _ (.tail _ (.head _))
  rcases List.mem_cons.mp hy with rfl | hy
  · exact .head _
  · exact .tail _ (.tail _ (.tail _ hy)))
set_option maxHeartbeats 8000000 in
theorem init_R (w : World) (mean : ExcName → Option Value) (mg mb : Str → Option Value) (rest : List (Addr × Obj)) (x d : Addr) (bs : Array UInt8) (t : Tok) (hdx : LT.lt (α := Nat) d x) (hl : AllLt d rest) (hz : bs.size ≤ sizeLine)
  (dp un : Nat) (gd : Option (List Code)) (cn : Str) (cs : Scope) (a : Addr) (ccd : Value) (cl : List (Str × Addr)) (outer : List Env) (A₀ : Around) (base h₀ : Heap) (L : Addr) (m : Str → Option Value) (s : Shared) (R : Result → Shared → Prop)
  (B : Below A₀ base outer h₀) (F : Fr h₀ L s.heap m) (X : (Mine.K w.params).In h₀) (N : News h₀ L s.heap ((x, instObj 343 d) :: (d, dictOf [] 0) :: rest)) (T : Top Mine.vw LZ mean mg mb h₀) (hk : cs.kind = .function)
  (hd : dp + 10 < recursionLimit) (hu : un + 200 < cLine)
  (hret : ∀ b t1 t2 t3 h' k, Fr h₀ L h' m → News h₀ L h' ((x, instObj 343 d) :: (d, dictOf (bioD w.params b 0 t1 t2 t3) 2) :: (b, baObj bs) :: rest) → LT.lt (α := Nat) x b → AllLt b rest → R (.ok (.ret .none)) { s with heap := h', toks := k }) :
  codeR (model PySem.Challenge.rw_in0199_01.row.prog w) (ktrTop dp un gd cn cs L a ccd cl outer) (.call (.ref 130) ⟨[.ref x, .bytes bs t], []⟩) R s := by
  revert X; k_fill; intro X
  k_dflt (walk_at "c_enterR")
  refine wpR_execs_cons (wpR_of ?_)
  k_steps
  dsimp only
  refine wpR_execs_cons (wpR_Assign_Attribute (wpR_IfExp (wpR_of ?_)) (by with_unfolding_all rfl))
  k_steps
  dsimp only
  first | refine wpR_Call (wpR_of ?_) (by rfl) | (rw [if_neg (by decide)]; refine wpR_Call (wpR_of ?_) (by rfl))
  k_steps
  refine wpR_callWith_type1 ?_ (by rfl) (by rfl)
  k_steps
  (rename Fr _ _ _ _ => F9); (rename News _ _ _ _ => N9)
  refine bc_call F9 N9 hz ?_
  intro b' h' F' N' l1
  k_lt l1
  clear F9 N9
  refine wpR_of ?_
  k_steps
  refine wpR_of ?_
  k_steps
  refine wpR_of ?_
  k_steps
  refine hret _ _ _ _ _ _ (by k_asm) (rot3 (by assumption)) (by omega) ?_
  first | exact (by assumption : _ ∧ _ ∧ AllLt _ _).2.2 | exact (by assumption : AllLt _ _) 
end Mine

namespace Mine
theorem any_343 (P : Program) (w : World) (bs : Array UInt8) (t : Tok) : peek (Mine.K w.params) ⟨P, w.params⟩ (callAny (.ref 343) ⟨[.bytes bs t], []⟩) = some (Fin.again (.call (.builtin "type.__call__") ⟨[.ref 343, .bytes bs t], []⟩)) := by kernel_rfl
theorem tcheck_343 (P : Program) (w : World) (bs : Array UInt8) (t : Tok) : peek (Mine.K w.params) ⟨P, w.params⟩ (checkBuiltinCall "type.__call__" ⟨[.ref 343, .bytes bs t], []⟩) = some () := by kernel_rfl
theorem fn_130 (w : World) : typeIn (Mine.K w.params) (.ref 130) = some (.type "function") := by kernel_rfl
theorem under_343 (dp un : Nat) (gd : Option (List Code)) (cn : Str) (cs : Scope) (L a : Addr) (ccd : Value) (cl : List (Str × Addr)) (outer : List Env) (bs : Array UInt8) (t : Tok) :
    (ktrTop dp un gd cn cs L a ccd cl outer).under (.builtin "type.__call__" ⟨[.ref 343, .bytes bs t], []⟩) = ktrTop (dp + 1) (un + 1) gd cn cs L a ccd cl outer := by
  cases gd <;> rfl
set_option maxHeartbeats 8000000 in
theorem make_R (w : World) (mean : ExcName → Option Value) (mg mb : Str → Option Value) (rest : List (Addr × Obj)) (bs : Array UInt8) (t : Tok) (hz : bs.size ≤ sizeLine)
  (dp un : Nat) (gd : Option (List Code)) (cn : Str) (cs : Scope) (a : Addr) (ccd : Value) (cl : List (Str × Addr)) (outer : List Env) (A₀ : Around) (base h₀ : Heap) (L : Addr) (m : Str → Option Value) (s : Shared) (Q E : Value → Shared → Prop)
  (B : Below A₀ base outer h₀) (F : Fr h₀ L s.heap m) (X : (Mine.K w.params).In h₀) (N : News h₀ L s.heap rest) (T : Top Mine.vw LZ mean mg mb h₀) (hk : cs.kind = .function)
  (hd : dp + 20 < recursionLimit) (hu : un + 400 < cLine)
  (hret : ∀ x d b t1 t2 t3 h' k, Fr h₀ L h' m → News h₀ L h' ((x, instObj 343 d) :: (d, dictOf (bioD w.params b 0 t1 t2 t3) 2) :: (b, baObj bs) :: rest) → LT.lt (α := Nat) d x → LT.lt (α := Nat) x b → AllLt d rest → AllLt b rest → Q (.ref x) { s with heap := h', toks := k }) :
  wpR (model PySem.Challenge.rw_in0199_01.row.prog w) (ktrTop dp un gd cn cs L a ccd cl outer) (call (.ref 343) [.bytes bs t]) Q E s := by
  have XS : ∀ h', (∀ b o, h₀.get? b = some o → h'.get? b = some o) → (Mine.K w.params).In h' := fun h' k => X.keeps k
  refine wpR_call (codeR_of_tree rfl ?_)
  show wpR _ _ (callAny (.ref 343) ⟨[.bytes bs t], []⟩) _ _ _
  refine wpR_of ?_
  refine (Looks.of_peek (XS _ F.keep) (any_343 _ _ bs t)).here ?_
  refine ⟨rfl, ?_⟩
  refine codeR_call_builtin (by decide +kernel) (Code.quiet_builtin _ (by decide +kernel)) PySem.entry_typeCall ((Looks.of_peek (XS _ F.keep) (tcheck_343 _ _ bs t)).here ?_)
  rw [under_343]
  unfold Builtin.«type.__call__»
  refine wpR_if_false (by decide) ?_
  refine wpR_bind (wpR_of ((Looks.of_peek (XS _ F.keep) (mro_343 _ _)).here ?_))
  refine wpR_if_false rfl ?_
  refine wpR_bind (wpR_of ((Looks.of_peek (XS _ F.keep) (made_343 _ _)).here ?_))
  refine wpR_bind (wpR_of (getnew_343 w F N X T fun h1 k1 F1 N1 => ?_))
  refine wpR_bind (wpR_holding (wpR_of (new_ w mean mg mb rest bs t _ _ _ _ _ _ _ _ _ _ _ _ _ _ _ _ _ X B F1 N1 T hk (by omega) (by omega) ?_)))
  rintro v n' h2 k2 ⟨x, d, rfl, hdx, hl, rfl⟩ F2 N2
  have hx : h2.get? x = some (instObj 343 d) := (N2 _ (.head _)).1
  have X2 := XS _ F2.keep
  have t1 : Looks (model PySem.Challenge.rw_in0199_01.row.prog w) h2 (typeOf (.ref x)) (.ref 343) := (Looks.ld hx).andThen .now
  have hi : Looks (model PySem.Challenge.rw_in0199_01.row.prog w) h2 (isInstance (.ref x) (.ref 343)) true := t1.andThen (Looks.of_peek X2 (inst_343 _ _))
  have hs : Looks (model PySem.Challenge.rw_in0199_01.row.prog w) h2 (specialOf (.ref x) "__init__") (some (.ref 130)) := t1.andThen (Looks.of_peek X2 (init_343 _ _))
  have hb : Looks (model PySem.Challenge.rw_in0199_01.row.prog w) h2 (bindSpecial (.ref 130) (.ref x)) (.ref 130, [.ref x]) := bind_fn X2 _ (fn_130 w)
  refine wpR_bind (wpR_of (hi.here ?_))
  refine wpR_if_false rfl ?_
  refine wpR_bind (wpR_holding ?_)
  unfold callSpecial?
  refine wpR_bind (wpR_of (hs.here ?_))
  refine wpR_holding (wpR_bind (wpR_of (hb.here ?_)))
  refine wpR_bind (wpR_call (init_R w mean mg mb rest x d bs t hdx hl hz _ _ _ _ _ _ _ _ _ _ _ _ _ _ _ _ B F2 X N2 T hk (by omega) (by omega) ?_))
  intro b t1 t2 t3 h' k F' N' hxb hbl
  refine wpR_pure (wpR_pure ?_)
  exact hret x d b t1 t2 t3 h' k F' N' hdx hxb hl hbl
end Mine

theorem Mine.clr70 : True := by (w_top off); k_with_none; trivial
namespace Mine
theorem ints_p2 {h₀ h : Heap} {L l : Addr} {p : Addr × Obj} {r : List (Addr × Obj)} {vs : List Value} {js : List Int} {n : Int} {t : Tok} {k : Nat} (_ : News h₀ L h (p :: (l, W.listOf (vs ++ [Value.int n t]).toArray k) :: r)) (hi : IntsAre vs js) : IntsAre (vs ++ [Value.int n t]) (js ++ [n]) := intsAre_append hi (.cons _ _ .nil)
theorem ints_p3 {h₀ h : Heap} {L l : Addr} {p q : Addr × Obj} {r : List (Addr × Obj)} {vs : List Value} {js : List Int} {n : Int} {t : Tok} {k : Nat} (_ : News h₀ L h (p :: q :: (l, W.listOf (vs ++ [Value.int n t]).toArray k) :: r)) (hi : IntsAre vs js) : IntsAre (vs ++ [Value.int n t]) (js ++ [n]) := intsAre_append hi (.cons _ _ .nil)
local macro_rules | `(tactic| walk_at "InvEndN") => `(tactic| k_dflt (kst_close))
local macro_rules | `(tactic| walk_at "pyIter ref") => `(tactic| (k_here; k_of "k" => ((((rename News _ _ _ _ => nE9); (simp only [List.push_toArray] at nE9); (first | have hI9 := Mine.ints_p2 nE9 (by assumption) | have hI9 := Mine.ints_p3 nE9 (by assumption))); k_state_given ["octets!"] (fun o₀ pre octets rest => ((∀ o ∈ o₀, 0 ≤ o ∧ o ≤ 255) → (∀ o ∈ octets, 0 ≤ o ∧ o ≤ 255)) ∧ octets.length = o₀.length + pre.length) "octets" "rest"))))
local macro_rules | `(tactic| walk_at "call type:range") => `(tactic| ((rename Fr _ _ _ _ => F'); (rename News _ _ _ _ => N'); (with_unfolding_all refine range1_rows F' N' ?_; intro _ _ _ _ _ _ _ _ _)))
theorem fm256 (a : Int) : 0 ≤ a.fmod 256 ∧ a.fmod 256 ≤ 255 := by rw [Int.fmod_eq_emod_of_nonneg _ (by decide)]; omega
theorem fm6 (a : Int) : 0 ≤ a.fmod 6 ∧ a.fmod 6 ≤ 5 := by rw [Int.fmod_eq_emod_of_nonneg _ (by decide)]; omega
theorem fm6' (a : Int) : 0 ≤ a.fmod 6 ∧ a.fmod 6 ≤ 255 := by have := fm6 a; omega
theorem row_bd (i : Nat) : 0 ≤ ([0, 255, 127, 128, 0, 255, 1, 200, 254, 64] : List Int).getD i 0 ∧ ([0, 255, 127, 128, 0, 255, 1, 200, 254, 64] : List Int).getD i 0 ≤ 255 := by
  match i with
  | 0 | 1 | 2 | 3 | 4 | 5 | 6 | 7 | 8 | 9 => decide
  | n + 10 => simp [List.getD]
abbrev OctOk (l : List Int) : Prop := ∀ o ∈ l, 0 ≤ o ∧ o ≤ 255
theorem oct_start : ∀ o ∈ ([2, 255, 255, 1, 128, 2, 128, 0, 3, 0, 128, 255, 1, 0, 0] : List Int), 0 ≤ o ∧ o ≤ 255 := by simp
theorem oct_app {l : List Int} {v : Int} (h : ∀ o ∈ l, 0 ≤ o ∧ o ≤ 255) (hv : 0 ≤ v ∧ v ≤ 255) : ∀ o ∈ l ++ [v], 0 ≤ o ∧ o ≤ 255 := fun o ho => by
  rcases List.mem_append.mp ho with ho | ho
  · exact h o ho
  · rw [List.mem_singleton.mp ho]; exact hv
theorem oct_s1 {A B pre : List Int} {i : Nat} {x : Int} (h : (∀ o ∈ A, 0 ≤ o ∧ o ≤ 255) → (∀ o ∈ B, 0 ≤ o ∧ o ≤ 255)) (hl : B.length = A.length + pre.length) :
    ((∀ o ∈ A, 0 ≤ o ∧ o ≤ 255) → (∀ o ∈ B ++ [([0, 255, 127, 128, 0, 255, 1, 200, 254, 64] : List Int).getD i 0], 0 ≤ o ∧ o ≤ 255)) ∧ (B ++ [([0, 255, 127, 128, 0, 255, 1, 200, 254, 64] : List Int).getD i 0]).length = A.length + (pre ++ [x]).length :=
  ⟨fun hA => oct_app (h hA) (row_bd i), by simp only [List.length_append, List.length_cons, List.length_nil]; omega⟩
theorem oct_s2 {A B pre : List Int} {v x : Int} (hA : ∀ o ∈ A, 0 ≤ o ∧ o ≤ 255) (hlA : A.length ≤ 15 + 5 * pre.length) (h : (∀ o ∈ A ++ [v.fmod 6], 0 ≤ o ∧ o ≤ 255) → (∀ o ∈ B, 0 ≤ o ∧ o ≤ 255))
    (hl : B.length = (A ++ [v.fmod 6]).length + (rangeKs 0 (v.fmod 6 - 0).toNat).length) (hne : v.fmod 6 ≠ 5) : (∀ o ∈ B, 0 ≤ o ∧ o ≤ 255) ∧ B.length ≤ 15 + 5 * (pre ++ [x]).length := by
  refine ⟨h (oct_app hA (fm6' _)), ?_⟩
  have := fm6 v
  rw [rangeKs_length] at hl
  simp only [List.length_append, List.length_cons, List.length_nil] at hl ⊢; omega
theorem oct_s3 {A pre : List Int} {v x : Int} (hA : ∀ o ∈ A, 0 ≤ o ∧ o ≤ 255) (hlA : A.length ≤ 15 + 5 * pre.length) : (∀ o ∈ A ++ [v.fmod 256], 0 ≤ o ∧ o ≤ 255) ∧ (A ++ [v.fmod 256]).length ≤ 15 + 5 * (pre ++ [x]).length :=
  ⟨oct_app hA (fm256 _), by simp only [List.length_append, List.length_cons, List.length_nil]; omega⟩
theorem oct_end {A : List Int} (h : ∀ o ∈ A, 0 ≤ o ∧ o ≤ 255) : ∀ o ∈ A ++ [4, 9], 0 ≤ o ∧ o ≤ 255 := fun o ho => by
  rcases List.mem_append.mp ho with ho | ho
  · exact h o ho
  · simp only [List.mem_cons, List.not_mem_nil, or_false] at ho; omega
theorem take63 {ns : List Int} {A : List Int} (hl : A.length ≤ 15 + 5 * (List.take 63 ns).length) : A.length ≤ 330 := by rw [List.length_take] at hl; omega
theorem news_one {h₀ h : Heap} {L : Addr} {p : Addr × Obj} {all : List (Addr × Obj)} (N : News h₀ L h all) (hm : p ∈ all) : News h₀ L h [p] := fun y hy => by
  rw [List.mem_singleton.mp hy]; exact N p hm
local macro_rules | `(tactic| walk_at "oct_state") => `(tactic| first | exact ⟨Mine.oct_start, by decide⟩ | exact ⟨fun h => h, rfl⟩ | exact Mine.oct_s3 (by assumption) (by assumption) | exact Mine.oct_s1 (by assumption) (by assumption) | exact Mine.oct_s2 (by assumption) (by assumption) (by assumption) (by assumption) (by assumption))
set_option maxHeartbeats 1500000 in
theorem octets_ (w : World) (mean : ExcName → Option Value) (mg mb : Str → Option Value) (sa : Addr) (vs : List Value) (ns : List Int) (hi : IntsAre vs ns) (hn : ns.length ≤ 63)
  (dp un : Nat) (gd : Option (List Code)) (cn : Str) (cs : Scope) (a : Addr) (ccd : Value) (cl : List (Str × Addr)) (outer : List Env) (A₀ : Around) (base h₀ : Heap) (L : Addr) (m : Str → Option Value) (s : Shared) (Q E : Value → Shared → Prop)
  (hl : h₀.IsList sa vs.toArray) (X : (Mine.K w.params).In h₀) (B : Below A₀ base outer h₀) (F : Fr h₀ L s.heap m) (N : News h₀ L s.heap []) (T : Top Mine.vw LZ mean mg mb h₀) (hk : cs.kind = .function)
  (hd : dp + 10 * 2 < recursionLimit) (hu : un + 200 * 2 < cLine)
  (hret : ∀ (x : Addr) (js : List Value) (os : List Int) (n : Nat) h' k, IntsAre js os → (∀ o ∈ os, 0 ≤ o ∧ o ≤ 255) → os.length ≤ 332 → Fr h₀ L h' m → News h₀ L h' [(x, listOf js.toArray n)] → Q (.ref x) { s with heap := h', toks := k }) :
  wpAny (model PySem.Challenge.rw_in0199_01.row.prog w) (ktrTop dp un gd cn cs L a ccd cl outer) (call (.ref 613) [.ref sa]) Q E s := by
  revert X; k_fill; intro X
  refine wpAny_call ?_
  k_dflt (walk_at "c_enter")
  (rename Fr h₀ L _ m => FG9); have hl9 := Fr.lst FG9 hl; clear hl
  (k_with "pyIter ref" => (k_of "x" => k_state (fun pre octets => (∀ o ∈ octets, 0 ≤ o ∧ o ≤ 255) ∧ octets.length ≤ 15 + 5 * pre.length) "octets"))
  (k_with "pyIter ref" => (k_of "k" => k_state_given ["octets!"] (fun o₀ pre octets rest => ((∀ o ∈ o₀, 0 ≤ o ∧ o ≤ 255) → (∀ o ∈ octets, 0 ≤ o ∧ o ≤ 255)) ∧ octets.length = o₀.length + pre.length) "octets" "rest"))
  (k_with "state" => walk_at "oct_state")
  k_steps
  · refine hret _ _ _ _ _ _ (by assumption) (oct_end (by assumption)) ?_ (by assumption) (news_one (by assumption) (.head _))
    have := take63 (ns := ns) (by assumption)
    simp only [List.length_append, List.length_cons, List.length_nil]; omega
  · refine hret _ _ _ _ _ _ (by assumption) (by assumption) ?_ (by assumption) (news_one (by assumption) (.tail _ (.head _)))
    have := take63 (ns := ns) (by assumption)
    omega
end Mine

namespace Mine
abbrev foldNum (a : Int) (l : List Int) : Int := l.foldl (fun a o => a * 256 + o) a
theorem intsAre_reverse {vs : List Value} {ns : List Int} (hi : IntsAre vs ns) : IntsAre vs.reverse ns.reverse := by
  induction hi with
  | nil => exact .nil
  | cons n t hi ih => rw [List.reverse_cons, List.reverse_cons]; exact intsAre_append ih (.cons n t .nil)
theorem allLt_at {d : Nat} {l : List (Addr × Obj)} (h : AllLt d l) : ∀ p ∈ l, LT.lt (α := Nat) p.1 d := by
  induction l with
  | nil => intro p hp; exact nomatch hp
  | cons q l ih =>
    intro p hp
    rcases List.mem_cons.mp hp with e | hp
    · rw [e]; exact h.1
    · exact ih h.2 p hp
theorem ints_at {vs : List Value} {ns : List Int} (hi : IntsAre vs ns) : ∀ i, i < ns.length → ∃ t, vs[i]? = some (Value.int (ns.getD i 0) t) := by
  induction hi with
  | nil => intro i h; exact absurd h (by simp)
  | cons n t hi ih =>
    intro i h
    cases i with
    | zero => exact ⟨t, rfl⟩
    | succ i => obtain ⟨t', e⟩ := ih i (by simpa using h); exact ⟨t', by simpa using e⟩
theorem seqIdx_last {n : Nat} (h0 : 0 < n) : seqIndex? (-1) n = some (n - 1) := by
  unfold seqIndex?
  have h1 : (-1 : Int) + (n : Int) = ((n - 1 : Nat) : Int) := by omega
  have h2 : ((n - 1 : Nat) : Int) < (n : Int) := by omega
  simp only [show ((-1 : Int) < 0) from by decide, if_true, h1, h2, Int.natCast_nonneg, decide_true, Bool.and_true, Int.toNat_natCast]
theorem off3 {I : Addr} {o : Obj} {p q : Addr × Obj} {rest : List (Addr × Obj)} (h : LT.lt (α := Nat) p.1 I ∧ LT.lt (α := Nat) q.1 I ∧ AllLt I rest) : OffI I o (p :: q :: rest) := by
  refine ⟨.inl (Nat.ne_of_lt h.1), .inl (Nat.ne_of_lt h.2.1), ?_⟩
  have := h.2.2
  clear h
  induction rest with
  | nil => exact trivial
  | cons r l ih => exact ⟨.inl (Nat.ne_of_lt this.1), ih this.2⟩
def NumPost (h₀ : Heap) (L : Addr) (s : Shared) (nm : Str) (a : Int) (news : List (Addr × Obj)) (f : Flow) (s₂ : Shared) : Prop :=
  (f = .next ∨ f = .cont) ∧ ∃ (h' : Heap) (tk' : Nat) (t' : Tok) (mm' : Str → Option Value), s₂ = { s with heap := h', toks := tk' } ∧ Fr h₀ L h' (fun y => if y = nm then some (.int a t') else mm' y) ∧ News h₀ L h' news
theorem NumPost.intro {h₀ : Heap} {L : Addr} {s : Shared} {nm : Str} {a : Int} {news : List (Addr × Obj)} {h' : Heap} {tk' : Nat} {t' : Tok} {mm' : Str → Option Value} (F : Fr h₀ L h' (fun y => if y = nm then some (.int a t') else mm' y)) (N : News h₀ L h' news) : NumPost h₀ L s nm a news .next { s with heap := h', toks := tk' } := ⟨.inl rfl, h', tk', t', mm', rfl, F, N⟩
section
variable {prog : Program} {w : World} {A : Around} {E : Value → Shared → Prop} {s : Shared} {env : Env} {h₀ : Heap} {x nm : Str} {body : List PySem.Stmt}
theorem item_last {value slice : PySem.Expr} {l : Addr} {vs : List Value} {ns : List Int} {u : Tok} {Q : Value → Shared → Prop} (hl : s.heap.IsList l vs.toArray) (hi : IntsAre vs ns) (h0 : 0 < ns.length) (h : ∀ t, Q (.int (ns.getD (ns.length - 1) 0) t) s)
    (hs : subscripted slice false (.ref l) (.int (-1) u) = operate [.ref l, .int (-1) u] (getItem (.ref l) (.int (-1) u)) := by with_unfolding_all rfl) :
    wpAny (model prog w) A (subscriptTail value slice (.ref l) (.int (-1) u)) Q E s := by
  have hlen := IntsAre.length hi
  obtain ⟨t, e⟩ := ints_at hi (ns.length - 1) (by omega)
  refine kde_neg (j := vs.length - 1) hl (by decide) (by decide) ?_ (by rw [hlen]; exact e) (h t) hs
  rw [hlen]
  exact seqIdx_last h0
theorem num_rest {Q : Flow → Shared → Prop} {I : Addr} {lp : Addr × Obj} {news : List (Addr × Obj)} (hmem : lp ∈ news) (hoff : ∀ p ∈ news, p.1 ≠ I)
    (turn : ∀ (o : Int) (tv : Tok) (a : Int) (t : Tok) (mm : Str → Option Value) (it : Obj) h tk, it.cls = .type "list_reverseiterator" → Fr h₀ env.locals h (fun y => if y = x then some (.int o tv) else if y = nm then some (.int a t) else mm y) → News h₀ env.locals h ((I, it) :: news) →
      wpAny (model prog w) A (execs body env) (NumPost h₀ env.locals s nm (a * 256 + o) ((I, it) :: news)) E { s with heap := h, toks := tk }) :
    ∀ (l : List Value) (os : List Int), IntsAre l os → ∀ (a : Int) (t : Tok) (mm : Str → Option Value), (∀ (t' : Tok) (mm' : Str → Option Value) (h : Heap) (tk : Nat), Fr h₀ env.locals h (fun y => if y = nm then some (.int (foldNum a os) t') else mm' y) → News h₀ env.locals h news → Q .next { s with heap := h, toks := tk }) →
      RevRest prog w A E h₀ env x body Q s I lp l (fun y => if y = nm then some (.int a t) else mm y) news := by
  intro l os hi
  induction hi with
  | nil => intro a t mm hq; exact fun h tk F N => hq t mm h tk F N
  | cons o tv hi ih =>
    intro a t mm hq it h tk hit F N
    refine wpAny_mono (turn o tv a t mm it h tk hit F N) (fun f s₂ p => ?_) fun _ _ e => e
    obtain ⟨hf, h', tk', t', mm', rfl, F', N'⟩ := p
    have e : UnrEnd h₀ env.locals { s with heap := h, toks := tk } I it (fun m' n' => lp ∈ n' ∧ RevRest prog w A E h₀ env x body Q s I lp _ m' n') { s with heap := h', toks := tk' } :=
      ⟨h', tk', _, news, rfl, F', N', hoff, hmem, ih (a * 256 + o) t' mm' hq⟩
    rcases hf with rfl | rfl <;> exact e
theorem num_loop {Q : Flow → Shared → Prop} {ax I : Addr} {vs : List Value} {os : List Int} {n : Nat} {a : Int} {t : Tok} {mm : Str → Option Value} {p : Addr × Obj} {rest : List (Addr × Obj)}
    (hh : A.handled = none) (F : Fr h₀ env.locals s.heap (fun y => if y = nm then some (.int a t) else mm y)) (N : News h₀ env.locals s.heap ((I, revObj ax ((vs.length : Int) - 1)) :: p :: (ax, listOf vs.toArray n) :: rest)) (hof : LT.lt (α := Nat) p.1 I ∧ LT.lt (α := Nat) ax I ∧ AllLt I rest) (hi : IntsAre vs os)
    (turn : ∀ (o : Int) (tv : Tok) (a : Int) (t : Tok) (mm : Str → Option Value) (it : Obj) h tk, it.cls = .type "list_reverseiterator" → Fr h₀ env.locals h (fun y => if y = x then some (.int o tv) else if y = nm then some (.int a t) else mm y) → News h₀ env.locals h ((I, it) :: p :: (ax, listOf vs.toArray n) :: rest) →
      wpAny (model prog w) A (execs body env) (NumPost h₀ env.locals s nm (a * 256 + o) ((I, it) :: p :: (ax, listOf vs.toArray n) :: rest)) E { s with heap := h, toks := tk })
    (done : ∀ (t' : Tok) (mm' : Str → Option Value) (h : Heap) (tk : Nat), Fr h₀ env.locals h (fun y => if y = nm then some (.int (foldNum a os.reverse) t') else mm' y) → News h₀ env.locals h (p :: (ax, listOf vs.toArray n) :: rest) → Q .next { s with heap := h, toks := tk }) :
    wpAny (model prog w) A (pyIter (.ref I)) (fun it s₂ => LoopAtV prog w A h₀ env x body Q E it s₂) E s := by
  have ho := off3 (q := (ax, listOf vs.toArray n)) (o := revObj ax ((vs.length : Int) - 1)) hof
  refine iter_revUnr hh F N ho (.tail _ (.head _)) rfl rfl ?_
  refine num_rest (.tail _ (.head _)) (fun y hy => ?_) turn vs.reverse os.reverse (intsAre_reverse hi) a t mm done
  have h1 := hof.1
  have h2 := hof.2.1
  rcases List.mem_cons.mp hy with rfl | hy
  · exact Nat.ne_of_lt h1
  rcases List.mem_cons.mp hy with rfl | hy
  · exact Nat.ne_of_lt h2
  · exact Nat.ne_of_lt (allLt_at hof.2.2 _ hy)
end
end Mine

local macro_rules | `(tactic| walk_at "subscriptTail Name UnaryOp ref int") => `(tactic| (k_here; (with_reducible show wpAny _ _ (subscriptTail _ _ (Value.ref _) (Value.int _ _)) _ _ _); k_dflt (refine' Mine.item_last ?l ?i ?z ?_ ?s; (case l => exact News.isList (by k_asm) (by k_mem)); (case i => assumption); (case z => first | assumption | omega); (case s => with_unfolding_all rfl); k_whole; intro _)))
local macro_rules | `(tactic| walk_at "pyIter ref") => `(tactic| (k_here; k_of "octet" => (k_dflt (refine' Mine.num_loop (nm := Str.ofString "number") ?h ?F ?N ?o ?i ?_ ?_; (case h => first | rfl | assumption); (case F => assumption); (case N => assumption); (case o => assumption); (case i => assumption); k_whole; (try dsimp only); intros))))
local macro_rules | `(tactic| walk_at "NumPost") => `(tactic| k_dflt (exact Mine.NumPost.intro (by assumption) (by assumption)))

theorem Mine.clr72 : True := by (w_top off); k_with_none; trivial
namespace Mine
noncomputable def numOf (os : List Int) : Int := if os ≠ [] ∧ os.getD (os.length - 1) 0 > 127 then foldNum (-1) os.reverse else foldNum 0 os.reverse
theorem numOf_pos {os : List Int} (h : os ≠ []) (h1 : os.getD (os.length - 1) 0 > 127) : foldNum (-1) os.reverse = numOf os := by unfold numOf; rw [if_pos ⟨h, h1⟩]
theorem numOf_neg {os : List Int} (h1 : ¬ os.getD (os.length - 1) 0 > 127) : foldNum 0 os.reverse = numOf os := by unfold numOf; rw [if_neg (fun h => h1 h.2)]
theorem numOf_nil {os : List Int} (h1 : os = []) : foldNum 0 os.reverse = numOf os := by unfold numOf; rw [if_neg (fun h => h.1 h1)]
theorem drop1 {h₀ h : Heap} {L : Addr} {p : Addr × Obj} {r : List (Addr × Obj)} (N : News h₀ L h (p :: r)) : News h₀ L h r := fun y hy => N y (.tail _ hy)
set_option maxHeartbeats 4000000 in
theorem number_ (w : World) (mean : ExcName → Option Value) (mg mb : Str → Option Value) (rest : List (Addr × Obj)) (ia : Addr) (js : List Value) (os : List Int) (n : Nat) (hi : IntsAre js os) :
   Con w mean mg mb 2 627 ((ia, listOf js.toArray n) :: rest) [.ref ia] (fun v n' => (∃ t, v = .int (numOf os) t) ∧ n' = (ia, listOf js.toArray n) :: rest) := by
  unfold Con; k_fill
  intro dp un gd cn cs a ccd cl outer A₀ base h₀ L m s Q E X B F N T hk hd hu hret
  refine wpAny_call ?_
  k_dflt (walk_at "c_enter")
  rcases Nat.eq_zero_or_pos os.length with hz | hz
  · have hnil : os = [] := List.eq_nil_of_length_eq_zero hz
    k_steps
    rw [numOf_nil hnil]
    exact hret _ _ _ _ ⟨⟨_, rfl⟩, rfl⟩ (by assumption) (drop1 (by assumption))
  have hnn : os ≠ [] := fun e => by rw [e] at hz; exact absurd hz (by decide)
  k_steps
  · rw [numOf_pos hnn (by omega)]
    exact hret _ _ _ _ ⟨⟨_, rfl⟩, rfl⟩ (by assumption) (drop1 (by assumption))
  · rw [numOf_neg (by omega)]
    exact hret _ _ _ _ ⟨⟨_, rfl⟩, rfl⟩ (by assumption) (drop1 (by assumption))
end Mine

namespace Mine
theorem in_of {os : List Int} (h : ∀ o ∈ os, 0 ≤ o ∧ o ≤ 255) (k : Nat) : KBa.In (os.take k) := fun o ho => by have := h o (List.mem_of_mem_take ho); omega
theorem in_of' {os : List Int} (h : ∀ o ∈ os, 0 ≤ o ∧ o ≤ 255) : KBa.In os := fun o ho => by have := h o ho; omega
theorem len_take {os : List Int} {n k : Nat} (h : os.length ≤ n) : (os.take k).length ≤ n := by rw [List.length_take]; omega
end Mine
local macro_rules | `(tactic| walk_at "call type:bytes") => `(tactic| (k_here; (with_reducible show wpAny _ _ (call (Value.type "bytes") [Value.ref _]) _ _ _); k_dflt (refine' KBa.make_K ?F ?N ?h ?l ?i ?r ?n ?_; (case F => k_asm); (case N => k_asm); (case h => rfl); (case l => exact News.isList (by k_asm) (by k_mem)); (case i => assumption); (case r => first | exact Mine.in_of (by assumption) _ | exact Mine.in_of' (by assumption)); (case n => first | exact Nat.le_trans (Mine.len_take (by assumption)) (by decide) | exact Nat.le_trans (by assumption) (by decide)); k_whole); intro _ _ _ _ _ _))

theorem Mine.clr74 : True := by (w_top off); k_with_none; trivial
namespace Mine
def signAt (os : List Int) (n : Int) : Int := if n > 1 ∧ os.getD (n - 2).toNat 0 > 127 then 255 else 0
def leastN (os : List Int) : Nat → Nat
  | 0 => 0
  | n + 1 => if os.getD n 0 = signAt os ((n : Int) + 1) then leastN os n else n + 1
theorem least_s {os : List Int} {z : Int} (h0 : 0 < z) (hle : z ≤ (os.length : Int)) (hw : leastN os z.toNat = leastN os os.length) (he : os.getD (z - 1).toNat 0 = signAt os z) : 0 ≤ z - 1 ∧ z - 1 ≤ (os.length : Int) ∧ leastN os (z - 1).toNat = leastN os os.length := by
  refine ⟨by omega, by omega, ?_⟩
  rw [← hw]
  obtain ⟨n, rfl⟩ : ∃ n : Nat, z = (n : Int) + 1 := ⟨(z - 1).toNat, by omega⟩
  have e1 : ((n : Int) + 1 - 1).toNat = n := by omega
  have e2 : ((n : Int) + 1).toNat = n + 1 := by omega
  rw [e1] at he ⊢
  rw [e2]
  show _ = (if os.getD n 0 = signAt os ((n : Int) + 1) then leastN os n else n + 1)
  rw [if_pos he]
theorem least_fin {os : List Int} {z : Int} (hw : leastN os z.toNat = leastN os os.length) (h0 : 0 ≤ z) (hne : z ≤ 0 ∨ os.getD (z - 1).toNat 0 ≠ signAt os z) : z.toNat = leastN os os.length := by
  rw [← hw]
  rcases hne with h | h
  · have : z.toNat = 0 := by omega
    rw [this]; rfl
  · by_cases hz : z = 0
    · subst hz; rfl
    obtain ⟨n, rfl⟩ : ∃ n : Nat, z = (n : Int) + 1 := ⟨(z - 1).toNat, by omega⟩
    have e1 : ((n : Int) + 1 - 1).toNat = n := by omega
    have e2 : ((n : Int) + 1).toNat = n + 1 := by omega
    rw [e1] at h
    rw [e2]
    show _ = (if os.getD n 0 = signAt os ((n : Int) + 1) then leastN os n else n + 1)
    rw [if_neg h]
theorem notin2 {v : Int} (h : ([0, 255].any fun x => x == v) = false) : v ≠ 0 ∧ v ≠ 255 := by
  simp only [List.any_cons, List.any_nil, Bool.or_false, Bool.or_eq_false_iff, beq_eq_false_iff_ne, ne_eq] at h
  exact ⟨fun e => h.1 e.symm, fun e => h.2 e.symm⟩
local macro_rules | `(tactic| walk_at "KswEnd") => `(tactic| k_dflt ((rename News _ _ _ _ => nE'); refine ksw_end ⟨_, _⟩ (by assumption) nE' (by first | exact fun p hp => hp | exact fun p hp => .tail _ hp | exact fun p hp => .tail _ (.tail _ hp) | exact fun p hp => .tail _ (.tail _ (.tail _ hp))) trivial (by kst_all) (by ksw_same) (by exact Mine.least_s (by assumption) (by assumption) (by assumption) (by unfold Mine.signAt; split <;> omega)) (by (try dsimp only); omega)))
set_option maxHeartbeats 2000000 in
theorem least_ (w : World) (mean : ExcName → Option Value) (mg mb : Str → Option Value) (rest : List (Addr × Obj)) (ia : Addr) (js : List Value) (os : List Int) (n : Nat) (hi : IntsAre js os) (hok : ∀ o ∈ os, 0 ≤ o ∧ o ≤ 255) (hlen : os.length ≤ 255) :
   Con w mean mg mb 2 634 ((ia, listOf js.toArray n) :: rest) [.ref ia] (fun v n' => (∃ t, v = .bytes (byteArr (os.take (leastN os os.length))) t) ∧ n' = (ia, listOf js.toArray n) :: rest) := by
  unfold Con; k_fill
  intro dp un gd cn cs a ccd cl outer A₀ base h₀ L m s Q E X B F N T hk hd hu hret
  refine wpAny_call ?_
  k_dflt (walk_at "c_enter")
  (k_with "exec While BoolOp cons nil" => k_dflt (k_while (fun os size => 0 ≤ size ∧ size ≤ (os.length : Int) ∧ Mine.leastN os size.toNat = Mine.leastN os os.length) (fun os size => size.toNat) "size"))
  k_steps
  all_goals
    have e9 := least_fin (os := os) (by assumption) (by assumption) (by first | exact .inl (by omega) | exact .inr (by have := notin2 (by assumption); unfold signAt; split <;> omega) | exact .inr (by unfold signAt; split <;> omega))
    rw [e9]
    exact hret _ _ _ _ ⟨⟨_, rfl⟩, rfl⟩ (by assumption) (by first | assumption | exact drop1 (by assumption) | exact drop1 (drop1 (by assumption)) | exact drop1 (drop1 (drop1 (by assumption))))
end Mine

namespace Mine
theorem p256 (k : Nat) : ((256 : Int) ^ k) = ((256 ^ k : Nat) : Int) := by rw [Int.natCast_pow]; rfl
theorem p256_pos (k : Nat) : (0 : Int) < 256 ^ k := by rw [p256]; exact Int.ofNat_lt.mpr (Nat.pow_pos (by decide))
theorem digit_low {x : Int} {own i : Nat} (hi : i < own) : (x % 256 ^ own) / 256 ^ i % 256 = x / 256 ^ i % 256 := by
  obtain ⟨d, rfl⟩ : ∃ d, own = i + (1 + d) := ⟨own - i - 1, by omega⟩
  have hp : (256 : Int) ^ (i + (1 + d)) = 256 ^ i * (256 * 256 ^ d) := by rw [Int.pow_add, Int.pow_add]; rfl
  have hx : x = 256 ^ i * (256 * 256 ^ d) * (x / 256 ^ (i + (1 + d))) + x % 256 ^ (i + (1 + d)) := by
    have := Int.mul_ediv_add_emod x (256 ^ (i + (1 + d)))
    rw [hp] at this ⊢
    exact this.symm
  generalize x % 256 ^ (i + (1 + d)) = y at hx ⊢
  generalize x / 256 ^ (i + (1 + d)) = q at hx
  rw [hx, Int.mul_assoc, Int.add_comm, Int.add_mul_ediv_left _ _ (Int.ne_of_gt (p256_pos i)), Int.mul_assoc, Int.add_mul_emod_self_left]
theorem ediv_neg1 {x d : Int} (hd : 0 < d) (h1 : -d ≤ x) (h2 : x < 0) : x / d = -1 := by
  have e : x = d * (-1) + (x + d) := by omega
  rw [e, Int.add_comm, Int.add_mul_ediv_left _ _ (Int.ne_of_gt hd), Int.ediv_eq_zero_of_lt (by omega) (by omega)]; rfl
theorem low_ints_s (x : Int) (n : Nat) : (KTBy.low x n).map (fun c => ((c.toNat : Nat) : Int)) = (List.range n).map fun i => x / 256 ^ i % 256 := by
  unfold KTBy.low
  generalize ho : min n (Builtin.Int.intBits x / 8 + 1) = own
  have hle : own ≤ n := by omega
  have hown : own < n → x.natAbs < 256 ^ own := fun hlt => by
    have hb : Builtin.Int.intBits x ≤ 8 * own := by omega
    have hn := intBits_le_iff.mp hb
    have e2 : (2 : Nat) ^ 8 = 256 := by decide
    rw [Nat.pow_mul, e2] at hn
    exact hn
  refine List.ext_getElem (by simp; omega) fun i hi1 hi2 => ?_
  have hin : i < n := by simpa using hi2
  rw [List.getElem_map, List.getElem_map, List.getElem_range]
  by_cases hi : i < own
  · rw [List.getElem_append_left (by simpa using hi), List.getElem_map, List.getElem_range, KTBy.byte_at, ← digit_low hi]
    have h0 : 0 ≤ x % 256 ^ own := Int.emod_nonneg _ (Int.ne_of_gt (p256_pos own))
    generalize x % 256 ^ own = y at h0 ⊢
    obtain ⟨Y, rfl⟩ := Int.eq_ofNat_of_zero_le h0
    rw [p256]
    rfl
  · rw [List.getElem_append_right (by simpa using Nat.le_of_not_lt hi), List.getElem_replicate]
    have h1 := hown (by omega)
    have h2 : 256 ^ own ≤ 256 ^ i := Nat.pow_le_pow_right (by decide) (Nat.le_of_not_lt hi)
    rw [p256]
    by_cases hx : x < 0
    · rw [if_pos hx]
      have : x / ((256 ^ i : Nat) : Int) = -1 := by
        have hpos : (0 : Int) < ((256 ^ i : Nat) : Int) := by omega
        exact ediv_neg1 hpos (by omega) hx
      rw [this]; rfl
    · rw [if_neg hx]
      have : x / ((256 ^ i : Nat) : Int) = 0 := Int.ediv_eq_zero_of_lt (by omega) (by omega)
      rw [this]; rfl
section
variable {prog : Program} {w : World} {M : Model} {A : Around} {E : Value → Shared → Prop} {s : Shared}
theorem mk_keeper (id : String) (h : Heap) (_ : True) : ∃ k, (k = Keeper.frame ∨ k = Keeper.machine ∨ k = Keeper.boundFrame) ∧ Looks M h (keeperOf (.builtin id)) k :=
  ⟨.machine, .inr (.inl rfl), Looks.of_pure rfl⟩
structure IsLittle (js : List Int) (x : Int) : Prop where
  eq : js = KTBy.little (Builtin.Int.intBits x / 8 + 1) x
theorem tb_callWith {pos : Pos} {id : String} {first : List Value} {env : Env} {e : PySem.Expr} {rest : List PySem.Expr} {kws : List Keyword} {Q : Value → Shared → Prop}
    (h : wpAny M A (spliced (backTo pos (starEach (e :: rest) env))) (fun vs s₁ => wpAny M A (evalAll ((backToKw pos (keywordEach kws env)).map (·.2)))
      (fun ks s₂ => wpAny M A (call (.builtin id) (first ++ vs) (((backToKw pos (keywordEach kws env)).filterMap (·.1)).zip ks)) Q E s₂) E s₁) E s)
    (hall : (backToKw pos (keywordEach kws env)).all (·.1.isSome) = true)
    (hplain : ((backTo pos (starEach (e :: rest) env)).any (·.1) || (backToKw pos (keywordEach kws env)).any (·.1.isNone)) = false) (he : starEach (e :: rest) env = (false, eval e env) :: starEach rest env) :
    wpAny M A (callWith pos (.builtin id) first (backTo pos (starEach (e :: rest) env)) (backToKw pos (keywordEach kws env))) Q E s :=
  callWith_of hplain (P := fun _ => True) (mk_keeper id) (evalArgs_kw2 hall (wpAny_mono h (fun _ _ z => wpAny_mono z (fun _ _ y => ⟨trivial, y⟩) fun _ _ y => y) fun _ _ y => y) he)
theorem tb_args (a b u v : Value) : argsOk "int.to_bytes" ⟨[a, b], [(PySem.Str.ofString "byteorder", u), (PySem.Str.ofString "signed", v)]⟩ := by unfold argsOk; kernel_rfl
theorem to_little_s {x : Int} {k : Nat} {t u v : Tok} {Q : Value → Shared → Prop} (hk : k ≤ 1000) (hb : x = 0 ∨ Builtin.Int.intBits (if x < 0 then -x - 1 else x) + 1 ≤ 8 * k)
    (h : ∀ (b : Array UInt8) t' k', KBw.bInts b = KTBy.little k x → Q (.bytes b t') { s with toks := k' }) :
    wpAny (model prog w) A (call (.builtin "int.to_bytes") [.int x t, .int (k : Int) u] [(PySem.Str.ofString "byteorder", .str (PySem.Str.ofString "little") v), (PySem.Str.ofString "signed", .bool true)]) Q E s := by
  refine wpAny_call_entry_kw KTBy.slot (typeIs_int s x t) KTBy.entry ?_ (tb_args _ _ _ _)
  show wpAny _ _ (Builtin.Int.intOfSelf (.int x t) >>= fun y => _) _ _ s
  refine wpAny_bind (wpAny_of_eq (a := x) rfl ?_)
  show wpAny _ _ (Builtin.Int.intBindNamed "to_bytes" ["length", "byteorder", "signed"] 0 2 [.int (k : Int) u] [(PySem.Str.ofString "byteorder", .str (PySem.Str.ofString "little") v), (PySem.Str.ofString "signed", .bool true)] >>= fun l => _) _ _ s
  refine wpAny_bind (wpAny_of_eq (a := [some (.int (k : Int) u), some (.str (PySem.Str.ofString "little") v), some (.bool true)]) (by kernel_rfl) ?_)
  show wpAny _ _ (Builtin.Int.intIndex "int.to_bytes" (.int (k : Int) u) >>= fun n => _) _ _ s
  refine wpAny_bind (wpAny_of_eq (a := (k : Int)) rfl ?_)
  refine KTBy.if_not (by show (decide ((k : Int) < -(2 ^ 63 : Int)) || decide ((k : Int) ≥ 2 ^ 63)) = false; rw [decide_eq_false (show ¬ ((k : Int) < -(2 ^ 63 : Int)) by omega), decide_eq_false (show ¬ ((k : Int) ≥ 2 ^ 63) by omega)]; rfl) ?_
  refine wpAny_bind (wpAny_of_eq (a := PySem.Str.ofString "little") (by kernel_rfl) ?_)
  refine wpAny_bind (wpAny_of_eq (a := true) rfl ?_)
  refine wpAny_bind (wpAny_of_eq (a := true) (by kernel_rfl) ?_)
  refine wpAny_ite_false (decide_eq_false (show ¬ ((k : Int) < 0) by omega)) ?_
  refine wpAny_ite_false (decide_eq_false (show ¬ ((k : Int) > 2 ^ 63 - 1 - 33) by omega)) ?_
  refine wpAny_ite_false (decide_eq_false (show ¬ ((k : Int) > (sizeLine : Int)) by rw [sizeLine_eq]; omega)) ?_
  refine KTBy.if_not (by show (decide (x < 0) && !true) = false; rw [Bool.not_true, Bool.and_false]) ?_
  refine KTBy.if_not (by
    show (x != 0 && decide (((Builtin.Int.intBits (if x < 0 then -x - 1 else x) : Nat) : Int) + 1 > 8 * (k : Int))) = false
    rcases hb with rfl | hb
    · rfl
    · rw [decide_eq_false (show ¬ (((Builtin.Int.intBits (if x < 0 then -x - 1 else x) : Nat) : Int) + 1 > 8 * (k : Int)) by omega), Bool.and_false]) ?_
  refine wpAny_bind (wpAny_mkBytes (wpAny_pure ⟨_, rfl, h _ _ _ ?_⟩) (by show (KTBy.low x (Int.toNat (k : Int))).length ≤ sizeLine; rw [KTBy.low_length, Int.toNat_natCast, sizeLine_eq]; omega))
  show (List.map (fun c : UInt8 => ((c.toNat : Nat) : Int)) (KTBy.low x (Int.toNat (k : Int)))) = KTBy.little k x
  rw [Int.toNat_natCast, low_ints_s, ← KTBy.little_eq]
theorem bits_ok (x : Int) : Builtin.Int.intBits (if x < 0 then -x - 1 else x) + 1 ≤ 8 * (Builtin.Int.intBits x / 8 + 1) := by
  have h : Builtin.Int.intBits (if x < 0 then -x - 1 else x) ≤ Builtin.Int.intBits x := by
    refine intBits_le_iff.mpr ?_
    have := intBits_le_iff.mp (Nat.le_refl (Builtin.Int.intBits x))
    split <;> omega
  omega
theorem nb_eq (n : Nat) : ((n : Int)).fdiv (2 ^ Int.toNat 3) + 1 = ((n / 8 + 1 : Nat) : Int) := by
  have e : (2 : Int) ^ Int.toNat 3 = 8 := by decide
  rw [e, Int.fdiv_eq_ediv_of_nonneg _ (by decide)]; omega
theorem tb_call {x n : Int} {t u v : Tok} {Q : Value → Shared → Prop} (hn : n = ((Builtin.Int.intBits x / 8 + 1 : Nat) : Int)) (hk : Builtin.Int.intBits x ≤ 4096)
    (h : ∀ (b : Array UInt8) (js : List Int) t' k', KBw.bInts b = js → IsLittle js x → (js.length : Int) = n → js.length ≤ 513 → Q (.bytes b t') { s with toks := k' }) :
    wpAny (model prog w) A (call (.builtin "int.to_bytes") [.int x t, .int n u] [(PySem.Str.ofString "byteorder", .str (PySem.Str.ofString "little") v), (PySem.Str.ofString "signed", .bool true)]) Q E s := by
  subst hn
  exact to_little_s (by omega) (.inr (bits_ok x)) fun b t' k' e => h b _ t' k' e ⟨rfl⟩ (by rw [KTBy.little_length]) (by rw [KTBy.little_length]; omega)
theorem and_tab : ∀ n : Fin 256, Builtin.bitAnd ((n.val : Nat) : Int) 128 = if n.val < 128 then 0 else 128 := by decide +kernel
theorem and_eq {a : Int} (h0 : 0 ≤ a) (h1 : a < 256) : Builtin.bitAnd a 128 = if a < 128 then 0 else 128 := by
  obtain ⟨n, rfl⟩ := Int.eq_ofNat_of_zero_le h0
  have h := and_tab ⟨n, by omega⟩
  refine h.trans ?_
  show (if n < 128 then _ else _) = _
  by_cases h2 : n < 128
  · rw [if_pos h2, if_pos (by omega)]
  · rw [if_neg h2, if_neg (by omega)]
theorem and_128 {a : Int} {t u : Tok} {Q : Value → Shared → Prop} (h0 : 0 ≤ a) (h1 : a < 256) (hlo : a < 128 → ∀ t' k, Q (.int 0 t') { s with toks := k }) (hhi : 128 ≤ a → ∀ t' k, Q (.int 128 t') { s with toks := k }) : wpAny (model prog w) A (binaryOp .BitAnd (.int a t) (.int 128 u)) Q E s := by
  refine and_int ?_
  rw [and_eq h0 h1]
  by_cases h2 : a < 128
  · rw [if_pos h2]; exact hlo h2 _ _
  · rw [if_neg h2]; exact hhi (by omega) _ _
end
end Mine

local macro_rules | `(tactic| walk_at "callWith") => `(tactic| (k_here; (with_reducible show wpAny _ _ (callWith _ (Value.builtin "int.to_bytes") _ (backTo _ (starEach (_ :: _) _)) (backToKw _ (keywordEach (_ :: _) _))) _ _ _); k_dflt (refine' Mine.tb_callWith ?_ ?A ?P ?E; (case A => exact rfl); (case P => exact rfl); (case E => exact rfl); k_whole)))
local macro_rules | `(tactic| walk_at "call builtin:int.to_bytes") => `(tactic| (k_here; k_dflt (refine' Mine.tb_call ?n ?k ?_; (case n => exact Mine.nb_eq _); (case k => assumption); k_whole); intro _ _ _ _ _ _ _ _))
local macro_rules | `(tactic| walk_at "binaryOp BitAnd int int") => `(tactic| (k_here; (with_reducible show wpAny _ _ (binaryOp .BitAnd (.int _ _) (.int 128 _)) _ _ _); k_dflt (refine' Mine.and_128 ?a ?b ?_ ?_; (case a => first | assumption | omega); (case b => first | assumption | omega)) <;> intro _ _ _))

namespace Mine
def fits : Nat → Int → Prop
  | 0, x => x = 0
  | n + 1, x => -(128 * 256 ^ n) ≤ x ∧ x < 128 * 256 ^ n
abbrev FN (a : Int) (l : List Int) : Int := foldNum a l.reverse
theorem FN_cons (a o : Int) (r : List Int) : FN a (o :: r) = FN a r * 256 + o := by
  show List.foldl _ _ _ = List.foldl _ _ _ * 256 + o
  rw [List.reverse_cons, List.foldl_append]; rfl
theorem FN_snoc (a o : Int) (r : List Int) : FN a (r ++ [o]) = FN (a * 256 + o) r := by
  show List.foldl _ _ _ = List.foldl _ _ _
  rw [List.reverse_append]; rfl
theorem p256_succ (n : Nat) : (256 : Int) ^ (n + 1) = 256 * 256 ^ n := by rw [Int.pow_succ, Int.mul_comm]
theorem FN_add (a : Int) : ∀ l : List Int, FN a l = FN 0 l + a * 256 ^ l.length
  | [] => by show a = 0 + a * 1; omega
  | o :: r => by
    rw [FN_cons, FN_cons, FN_add a r, List.length_cons, p256_succ, Int.add_mul, Int.mul_assoc, Int.mul_comm (256 ^ r.length) 256]
    omega
theorem FN_bd : ∀ l : List Int, Oct l → 0 ≤ FN 0 l ∧ FN 0 l < 256 ^ l.length
  | [], _ => by constructor <;> decide
  | o :: r, h => by
    have h1 := FN_bd r fun n hn => h n (.tail _ hn)
    have h2 := h o (.head _)
    rw [FN_cons, List.length_cons, p256_succ]
    omega
theorem FN_little (a : Int) : ∀ l : List Int, Oct l → l = KTBy.little l.length (FN a l)
  | [], _ => rfl
  | o :: r, h => by
    have h1 := FN_little a r fun n hn => h n (.tail _ hn)
    have h2 := h o (.head _)
    rw [FN_cons]
    show o :: r = _ % 256 :: KTBy.little r.length (_ / 256)
    have e1 : (FN a r * 256 + o) % 256 = o := by omega
    have e2 : (FN a r * 256 + o) / 256 = FN a r := by omega
    rw [e1, e2, ← h1]
def sg (o : Int) : Int := if o > 127 then -1 else 0
theorem numOf_nil' : numOf [] = 0 := by unfold numOf; rw [if_neg (fun h => h.1 rfl)]; rfl
theorem getD_snoc (l : List Int) (o : Int) : (l ++ [o]).getD ((l ++ [o]).length - 1) 0 = o := by simp [List.getD]
theorem numOf_snoc (l : List Int) (o : Int) : numOf (l ++ [o]) = FN 0 l + (sg o * 256 + o) * 256 ^ l.length := by
  have hne : l ++ [o] ≠ [] := by simp
  unfold numOf
  rw [getD_snoc]
  unfold sg
  by_cases h : o > 127
  · rw [if_pos ⟨hne, h⟩, if_pos h]
    show FN (-1) (l ++ [o]) = _
    rw [FN_snoc, FN_add]
  · rw [if_neg (fun x => h x.2), if_neg h]
    show FN 0 (l ++ [o]) = _
    rw [FN_snoc, FN_add]
theorem numOf_little (l : List Int) (h : Oct l) : l = KTBy.little l.length (numOf l) := by
  unfold numOf
  split
  · exact FN_little _ l h
  · exact FN_little _ l h
theorem oct_take {l : List Int} (h : Oct l) (k : Nat) : Oct (l.take k) := fun n hn => h n (List.mem_of_mem_take hn)
theorem take_snoc {os : List Int} {n : Nat} (h : n < os.length) : os.take (n + 1) = os.take n ++ [os.getD n 0] := by
  rw [List.take_succ_eq_append_getElem h]
  simp [List.getD, h]
theorem octD {os : List Int} {n : Nat} (h : Oct os) (hn : n < os.length) : 0 ≤ os.getD n 0 ∧ os.getD n 0 < 256 := by
  have : os.getD n 0 = os[n] := by simp [List.getD, hn]
  rw [this]
  exact h _ (List.getElem_mem hn)
theorem fits_num : ∀ l : List Int, Oct l → fits l.length (numOf l) := by
  intro l h
  rcases List.eq_nil_or_concat l with rfl | ⟨r, o, rfl⟩
  · exact numOf_nil'
  rw [List.concat_eq_append] at h ⊢
  rw [numOf_snoc, List.length_append, List.length_singleton]
  have h1 := FN_bd r fun n hn => h n (List.mem_append_left _ hn)
  have h2 := h o (by simp)
  have hp := p256_pos r.length
  show -(128 * 256 ^ r.length) ≤ _ ∧ _ < 128 * 256 ^ r.length
  generalize (256 : Int) ^ r.length = p at h1 hp ⊢
  have hs : -128 ≤ sg o * 256 + o ∧ sg o * 256 + o ≤ 127 := by unfold sg; split <;> omega
  generalize sg o * 256 + o = s at hs ⊢
  have m1 : -128 * p ≤ s * p := Int.mul_le_mul_of_nonneg_right hs.1 (Int.le_of_lt hp)
  have m2 : s * p ≤ 127 * p := Int.mul_le_mul_of_nonneg_right hs.2 (Int.le_of_lt hp)
  omega
theorem num_take_snoc {os : List Int} {n : Nat} (h : n < os.length) : numOf (os.take (n + 1)) = FN 0 (os.take n) + (sg (os.getD n 0) * 256 + os.getD n 0) * 256 ^ n := by
  rw [take_snoc h, numOf_snoc, List.length_take, Nat.min_eq_left (Nat.le_of_lt h)]
theorem signAt_succ (os : List Int) (n : Nat) : signAt os (((n + 1 : Nat) : Int) + 1) = if os.getD n 0 > 127 then 255 else 0 := by
  unfold signAt
  have e : (((n + 1 : Nat) : Int) + 1 - 2).toNat = n := by omega
  rw [e]
  by_cases h : os.getD n 0 > 127
  · rw [if_pos ⟨by omega, h⟩, if_pos h]
  · rw [if_neg (fun x => h x.2), if_neg h]
theorem signAt_zero (os : List Int) : signAt os (((0 : Nat) : Int) + 1) = 0 := by
  unfold signAt
  rw [if_neg (by omega)]
theorem FN_take_snoc {os : List Int} {n : Nat} (h : n < os.length) : FN 0 (os.take (n + 1)) = FN 0 (os.take n) + os.getD n 0 * 256 ^ n := by
  rw [take_snoc h, FN_snoc, FN_add, List.length_take, Nat.min_eq_left (Nat.le_of_lt h), Int.zero_mul, Int.zero_add]
theorem least_step {os : List Int} (ho : Oct os) : ∀ n : Nat, n < os.length → (os.getD n 0 = signAt os ((n : Int) + 1) → numOf (os.take (n + 1)) = numOf (os.take n)) ∧ (os.getD n 0 ≠ signAt os ((n : Int) + 1) → ¬ fits n (numOf (os.take (n + 1)))) := by
  intro n hn
  have hb := FN_bd _ (oct_take ho n)
  rw [List.length_take, Nat.min_eq_left (Nat.le_of_lt hn)] at hb
  have h0 := octD ho hn
  rw [num_take_snoc hn]
  cases n with
  | zero =>
    rw [signAt_zero]
    rw [List.take_zero, numOf_nil']
    have e0 : FN 0 [] = 0 := rfl
    rw [e0, Int.pow_zero, Int.mul_one]
    generalize os.getD 0 0 = o at h0 ⊢
    constructor
    · rintro rfl; decide
    · intro h1 h2
      have h2 : 0 + (sg o * 256 + o) = 0 := h2
      revert h2
      unfold sg; split <;> omega
  | succ m =>
    have hm : m < os.length := by omega
    have h3 := octD ho hm
    have hb2 := FN_bd _ (oct_take ho m)
    rw [List.length_take, Nat.min_eq_left (Nat.le_of_lt hm)] at hb2
    rw [signAt_succ, num_take_snoc hm, FN_take_snoc hm, p256_succ]
    show (_ → _) ∧ (_ → ¬ (-(128 * 256 ^ m) ≤ _ ∧ _ < 128 * 256 ^ m))
    generalize FN 0 (os.take m) = u at hb2 ⊢
    generalize os.getD (m + 1) 0 = o at h0 ⊢
    generalize os.getD m 0 = q at h3 ⊢
    have hp := p256_pos m
    generalize (256 : Int) ^ m = p at hb2 hp ⊢
    clear hb
    constructor
    · rintro rfl
      rw [Int.add_mul (sg q * 256) q p]
      unfold sg
      by_cases hq : q > 127
      · rw [if_pos hq, if_pos hq, if_pos (by decide)]
        omega
      · rw [if_neg hq, if_neg hq, if_neg (by decide)]
        omega
    · intro hne hf
      have hs : sg o * 256 + o ≠ if q > 127 then -1 else 0 := by
        unfold sg
        by_cases hq : q > 127
        · rw [if_pos hq] at hne ⊢; split <;> omega
        · rw [if_neg hq] at hne ⊢; split <;> omega
      generalize sg o * 256 + o = s at hs hf
      by_cases hq : q > 127
      · rw [if_pos hq] at hs
        have m1 : 128 * p ≤ q * p := Int.mul_le_mul_of_nonneg_right (by omega) (Int.le_of_lt hp)
        have m2 : q * p ≤ 255 * p := Int.mul_le_mul_of_nonneg_right (by omega) (Int.le_of_lt hp)
        rcases Int.lt_or_gt_of_ne hs with h | h
        · have m3 : s * (256 * p) ≤ -2 * (256 * p) := Int.mul_le_mul_of_nonneg_right (by omega) (by omega)
          omega
        · have m3 : 0 * (256 * p) ≤ s * (256 * p) := Int.mul_le_mul_of_nonneg_right (by omega) (by omega)
          omega
      · rw [if_neg hq] at hs
        have m1 : 0 * p ≤ q * p := Int.mul_le_mul_of_nonneg_right (by omega) (Int.le_of_lt hp)
        have m2 : q * p ≤ 127 * p := Int.mul_le_mul_of_nonneg_right (by omega) (Int.le_of_lt hp)
        rcases Int.lt_or_gt_of_ne hs with h | h
        · have m3 : s * (256 * p) ≤ -1 * (256 * p) := Int.mul_le_mul_of_nonneg_right (by omega) (by omega)
          omega
        · have m3 : 1 * (256 * p) ≤ s * (256 * p) := Int.mul_le_mul_of_nonneg_right (by omega) (by omega)
          omega
theorem least_le (os : List Int) : ∀ n : Nat, leastN os n ≤ n
  | 0 => Nat.le_refl _
  | n + 1 => by
    unfold leastN
    split
    · exact Nat.le_trans (least_le os n) (Nat.le_succ n)
    · exact Nat.le_refl _
theorem least_num {os : List Int} (ho : Oct os) : ∀ n : Nat, n ≤ os.length → numOf (os.take (leastN os n)) = numOf (os.take n) ∧ ∀ k, leastN os n = k + 1 → ¬ fits k (numOf (os.take n))
  | 0, _ => ⟨rfl, fun k h => absurd h (by show ¬ (0 = k + 1); omega)⟩
  | n + 1, h => by
    have hs := least_step ho n h
    unfold leastN
    by_cases hc : os.getD n 0 = signAt os ((n : Int) + 1)
    · rw [if_pos hc, hs.1 hc]
      exact least_num ho n (Nat.le_of_succ_le h)
    · rw [if_neg hc]
      refine ⟨rfl, fun k hk => ?_⟩
      obtain rfl : n = k := by omega
      exact hs.2 hc
/-- the least octets of x -/
structure Enc (ks : List Int) (x : Int) : Prop where
  eq : ks = KTBy.little ks.length x
  fit : fits ks.length x
  min : ∀ k, ks.length = k + 1 → ¬ fits k x
theorem fits_succ {n : Nat} {x : Int} (h : fits n x) : fits (n + 1) x := by
  cases n with
  | zero =>
    have h : x = 0 := h
    subst h
    show -(128 * 256 ^ 0) ≤ 0 ∧ 0 < 128 * 256 ^ 0
    decide
  | succ n =>
    have h : -(128 * 256 ^ n) ≤ x ∧ x < 128 * 256 ^ n := h
    show -(128 * 256 ^ (n + 1)) ≤ x ∧ x < 128 * 256 ^ (n + 1)
    rw [p256_succ]
    have hp := p256_pos n
    generalize (256 : Int) ^ n = p at h hp ⊢
    omega
theorem fits_mono {n m : Nat} {x : Int} (h : fits n x) (hm : n ≤ m) : fits m x := by
  obtain ⟨d, rfl⟩ : ∃ d, m = n + d := ⟨m - n, by omega⟩
  clear hm
  induction d with
  | zero => exact h
  | succ d ih => exact fits_succ ih
theorem Enc.unique {ks ls : List Int} {x : Int} (h : Enc ks x) (h' : Enc ls x) : ks = ls := by
  have key : ∀ {a b : List Int}, Enc a x → Enc b x → a.length ≤ b.length := fun {a b} ha hb => by
    by_cases hc : a.length ≤ b.length
    · exact hc
    · exact absurd (fits_mono hb.fit (show b.length ≤ a.length - 1 by omega)) (ha.min _ (by omega))
  have e := Nat.le_antisymm (key h h') (key h' h)
  rw [h.eq, h'.eq, e]
theorem enc_least {os : List Int} (ho : Oct os) : Enc (os.take (leastN os os.length)) (numOf os) := by
  have h := least_num ho os.length (Nat.le_refl _)
  rw [List.take_length] at h
  have hl : (os.take (leastN os os.length)).length = leastN os os.length := by rw [List.length_take]; exact Nat.min_eq_left (least_le os _)
  refine ⟨?_, ?_, ?_⟩
  · have := numOf_little _ (oct_take ho (leastN os os.length))
    rwa [h.1] at this
  · have := fits_num _ (oct_take ho (leastN os os.length))
    rwa [h.1] at this
  · rw [hl]; exact h.2
theorem numOf_least {os : List Int} (ho : Oct os) : numOf (os.take (leastN os os.length)) = numOf os := by
  have h := (least_num ho os.length (Nat.le_refl _)).1
  rwa [List.take_length] at h
theorem signed_num (os : List Int) : signedLe os = numOf os := by
  rcases List.eq_nil_or_concat os with rfl | ⟨r, o, rfl⟩
  · rw [numOf_nil']; rfl
  rw [List.concat_eq_append, numOf_snoc]
  unfold signedLe
  have e1 : KFB.value (r ++ [o]).reverse = FN 0 (r ++ [o]) := rfl
  rw [e1, FN_snoc, FN_add, List.length_append, List.length_singleton, p256_succ, List.reverse_append]
  show (if decide (128 ≤ o) = true then _ else _) = _
  rw [Int.zero_mul, Int.zero_add, Int.add_mul]
  unfold sg
  by_cases h : o > 127
  · rw [if_pos h, if_pos (decide_eq_true (by omega))]; omega
  · rw [if_neg h, if_neg (by rw [decide_eq_true_eq]; omega)]; omega
/-! what encode_long gives -/
open PySem.Builtin.Int (intBits)
theorem two_pow8 (n : Nat) : (2 : Nat) ^ (8 * n + 7) = 128 * 256 ^ n := by
  rw [Nat.pow_add, Nat.pow_mul]; have e : (2 : Nat) ^ 8 = 256 := by decide
  rw [e, Nat.mul_comm]
theorem bits_fits (x : Int) : fits (intBits x / 8 + 1) x := by
  have h := intBits_le_iff.mp (show intBits x ≤ 8 * (intBits x / 8) + 7 by omega)
  rw [two_pow8] at h
  show -(128 * 256 ^ (intBits x / 8)) ≤ x ∧ x < 128 * 256 ^ (intBits x / 8)
  rw [p256]
  omega
theorem bits_lo {x : Int} {n : Nat} (h : intBits x = n + 1) : 2 ^ n ≤ x.natAbs := by
  by_cases hc : 2 ^ n ≤ x.natAbs
  · exact hc
  · have := intBits_le_iff.mpr (show x.natAbs < 2 ^ n by omega)
    omega
theorem bits_nofit {x : Int} (k : Nat) (hk : intBits x / 8 = k + 1) : ¬ fits k x := by
  intro hf
  obtain ⟨n, hn⟩ : ∃ n, intBits x = n + 1 := ⟨intBits x - 1, by omega⟩
  have h := Nat.le_trans (Nat.pow_le_pow_right (by decide) (show 8 * k + 7 ≤ n by omega)) (bits_lo hn)
  rw [two_pow8] at h
  cases k with
  | zero =>
    have hf : x = 0 := hf
    subst hf
    exact absurd h (by decide)
  | succ k =>
    have hf : -(128 * 256 ^ k) ≤ x ∧ x < 128 * 256 ^ k := hf
    have e : (256 : Nat) ^ (k + 1) = 256 * 256 ^ k := by rw [Nat.pow_succ, Nat.mul_comm]
    have hp := p256_pos k
    rw [p256] at hf hp
    rw [e] at h
    generalize (256 : Nat) ^ k = p at h hf hp
    omega
theorem little_at (n i : Nat) (x : Int) (h : i < n) : (KTBy.little n x).getD i 0 = x / 256 ^ i % 256 := by
  rw [KTBy.little_eq]; simp [List.getD, h]
theorem little_take (x : Int) : ∀ n : Nat, (KTBy.little (n + 1) x).take n = KTBy.little n x := by
  intro n
  rw [KTBy.little_eq, KTBy.little_eq, List.range_succ, List.map_append, List.take_left' (by simp)]
theorem fits_top {x : Int} {k : Nat} (hx : x < 0) (hf : fits (k + 2) x) : fits (k + 1) x ↔ (x / 256 ^ (k + 1) % 256 = 255 ∧ 128 ≤ x / 256 ^ k % 256) := by
  have hf : -(128 * 256 ^ (k + 1)) ≤ x ∧ x < 128 * 256 ^ (k + 1) := hf
  show (-(128 * 256 ^ k) ≤ x ∧ x < 128 * 256 ^ k) ↔ _
  have hp := p256_pos k
  have e : x / 256 ^ (k + 1) = x / 256 ^ k / 256 := by
    rw [Int.pow_succ, Int.ediv_ediv_of_nonneg (Int.le_of_lt hp)]
  rw [e]
  rw [p256_succ] at hf
  generalize (256 : Int) ^ k = p at hp hf ⊢
  have e2 : x = p * (x / p) + x % p := (Int.mul_ediv_add_emod x p).symm
  have e3 := Int.emod_nonneg x (Int.ne_of_gt hp)
  have e4 := Int.emod_lt_of_pos x hp
  generalize x / p = y at e2 ⊢
  generalize x % p = r at e2 e3 e4
  subst e2
  have d1 : -32768 ≤ y := by
    by_cases h : -32768 ≤ y
    · exact h
    · have : p * y ≤ p * (-32769) := Int.mul_le_mul_of_nonneg_left (by omega) (Int.le_of_lt hp)
      omega
  have d2 : y < 0 := by
    by_cases h : y < 0
    · exact h
    · have : p * 0 ≤ p * y := Int.mul_le_mul_of_nonneg_left (by omega) (Int.le_of_lt hp)
      omega
  constructor
  · rintro ⟨h1, -⟩
    have d3 : -128 ≤ y := by
      by_cases h : -128 ≤ y
      · exact h
      · have : p * y ≤ p * (-129) := Int.mul_le_mul_of_nonneg_left (by omega) (Int.le_of_lt hp)
        omega
    omega
  · rintro ⟨h1, h2⟩
    have d3 : -128 ≤ y := by omega
    have : p * (-128) ≤ p * y := Int.mul_le_mul_of_nonneg_left d3 (Int.le_of_lt hp)
    omega
theorem enc_zero : Enc [] 0 := ⟨rfl, rfl, fun k h => absurd h (by simp)⟩
theorem enc_full {x : Int} {js : List Int} (hj : js = KTBy.little (intBits x / 8 + 1) x) (h0 : x ≠ 0)
    (h : ¬ (x < 0 ∧ 1 < js.length ∧ js.getD (js.length - 1) 0 = 255 ∧ 128 ≤ js.getD (js.length - 2) 0)) : Enc js x := by
  subst hj
  rw [KTBy.little_length] at h
  refine ⟨by rw [KTBy.little_length], by rw [KTBy.little_length]; exact bits_fits x, fun k hk hf => ?_⟩
  rw [KTBy.little_length] at hk
  cases k with
  | zero => exact h0 hf
  | succ k =>
    have hm : intBits x / 8 = k + 1 := by omega
    rw [hm] at h
    have hff := bits_fits x
    rw [hm] at hff
    obtain ⟨n, hn⟩ : ∃ n, intBits x = n + 1 := ⟨intBits x - 1, by omega⟩
    have hlo := Nat.le_trans (Nat.pow_le_pow_right (by decide) (show 8 * k + 7 ≤ n by omega)) (bits_lo hn)
    rw [two_pow8] at hlo
    have hx : x < 0 := by
      have hf : -(128 * 256 ^ k) ≤ x ∧ x < 128 * 256 ^ k := hf
      rw [p256] at hf
      generalize (256 : Nat) ^ k = p at hf hlo
      omega
    have ht := (fits_top hx hff).mp hf
    refine h ⟨hx, by omega, ?_, ?_⟩
    · rw [little_at _ _ _ (by omega)]; exact ht.1
    · rw [little_at _ _ _ (by omega)]; exact ht.2
theorem enc_cut {x : Int} {js : List Int} (hj : js = KTBy.little (intBits x / 8 + 1) x) (hx : x < 0) (h1 : 1 < js.length) (h2 : js.getD (js.length - 1) 0 = 255) (h3 : 128 ≤ js.getD (js.length - 2) 0) : Enc (js.take (js.length - 1)) x := by
  subst hj
  rw [KTBy.little_length] at h1 h2 h3 ⊢
  obtain ⟨k, hm⟩ : ∃ k, intBits x / 8 = k + 1 := ⟨intBits x / 8 - 1, by omega⟩
  have hff := bits_fits x
  have hnf := bits_nofit k hm
  rw [hm] at h2 h3 hff ⊢
  rw [little_at _ _ _ (by omega)] at h2 h3
  have hf := (fits_top hx hff).mpr ⟨h2, h3⟩
  have e : k + 1 + 1 - 1 = k + 1 := by omega
  rw [e, little_take]
  refine ⟨by rw [KTBy.little_length], by rw [KTBy.little_length]; exact hf, fun j hj => ?_⟩
  rw [KTBy.little_length] at hj
  obtain rfl : j = k := by omega
  exact hnf
end Mine

theorem Mine.clr76 : True := by (w_top off); k_with_none; trivial
namespace Mine
theorem enc_out1 {b : Array UInt8} {js : List Int} {x : Int} {t : Tok} (hb : KBw.bInts b = js) (hl : IsLittle js x) (h0 : x ≠ 0)
    (h : x < 0 → 1 < (js.length : Int) → js.getD (-1 + (js.length : Int)).toNat 0 = 255 → 128 ≤ js.getD (-2 + (js.length : Int)).toNat 0 → False) : ∃ ks t', Value.bytes b t = .bytes (byteArr ks) t' ∧ Enc ks x := by
  refine ⟨js, t, by rw [bs_of_ints hb], enc_full hl.eq h0 ?_⟩
  rintro ⟨h1, h2, h3, h4⟩
  have e1 : (-1 + (js.length : Int)).toNat = js.length - 1 := by omega
  have e2 : (-2 + (js.length : Int)).toNat = js.length - 2 := by omega
  rw [e1, e2] at h
  exact h h1 (by omega) h3 h4
theorem enc_out2 {b : Array UInt8} {js : List Int} {x : Int} {t : Tok} (hb : KBw.bInts b = List.take (clipAt js.length (-1)) js) (hl : IsLittle js x) (h1 : x < 0) (h2 : 1 < (js.length : Int)) (h3 : js.getD (-1 + (js.length : Int)).toNat 0 = 255) (h4 : 128 ≤ js.getD (-2 + (js.length : Int)).toNat 0) :
    ∃ ks t', Value.bytes b t = .bytes (byteArr ks) t' ∧ Enc ks x := by
  have e1 : (-1 + (js.length : Int)).toNat = js.length - 1 := by omega
  have e2 : (-2 + (js.length : Int)).toNat = js.length - 2 := by omega
  have e3 : clipAt js.length (-1) = js.length - 1 := by unfold clipAt; split <;> omega
  rw [e1] at h3
  rw [e2] at h4
  rw [e3] at hb
  exact ⟨_, t, by rw [bs_of_ints hb], enc_cut hl.eq h1 (by omega) h3 h4⟩
theorem enc_zero' {x : Int} (h : x = 0) : Enc [] x := by subst h; exact enc_zero
set_option maxHeartbeats 2000000 in
theorem encode_ (w : World) (mean : ExcName → Option Value) (mg mb : Str → Option Value) (rest : List (Addr × Obj)) (x : Int) (t : Tok) (hb : Builtin.Int.intBits x ≤ 4096) :
   Con w mean mg mb 2 606 rest [.int x t] (fun v n' => (∃ ks t, v = .bytes (byteArr ks) t ∧ Enc ks x) ∧ n' = rest) := by
  unfold Con; k_fill
  intro dp un gd cn cs a ccd cl outer A₀ base h₀ L m s Q E X B F N T hk hd hu hret
  refine wpAny_call ?_
  k_dflt (walk_at "c_enter")
  k_steps
  · exact hret _ _ _ _ ⟨⟨[], _, rfl, enc_zero' (by first | assumption | omega)⟩, rfl⟩ (by assumption) (by assumption)
  · exact hret _ _ _ _ ⟨enc_out1 (by assumption) (by assumption) (by assumption) (by intros; omega), rfl⟩ (by assumption) (by assumption)
  · exact hret _ _ _ _ ⟨enc_out2 (by assumption) (by assumption) (by assumption) (by omega) (by assumption) (by assumption), rfl⟩ (by assumption) (by assumption)
  all_goals exact hret _ _ _ _ ⟨enc_out1 (by assumption) (by assumption) (by assumption) (by intros; omega), rfl⟩ (by assumption) (by assumption)
theorem fits_bits {n : Nat} {x : Int} (h : fits n x) (hn : n ≤ 255) : Builtin.Int.intBits x ≤ 4096 := by
  have h : fits 256 x := fits_mono h (by omega)
  have h : -(128 * 256 ^ 255) ≤ x ∧ x < 128 * 256 ^ 255 := h
  rw [p256] at h
  refine intBits_le_iff.mpr (Nat.lt_of_le_of_lt (m := 128 * 256 ^ 255) ?_ (by decide +kernel))
  generalize (256 : Nat) ^ 255 = p at h ⊢
  omega
theorem encodeK_ (w : World) (mean : ExcName → Option Value) (mg mb : Str → Option Value) (rest : List (Addr × Obj)) (x : Int) (t : Tok) (ks : List Int) (he : Enc ks x) (hn : ks.length ≤ 255) :
    Con w mean mg mb 2 606 rest [.int x t] (fun v n' => (∃ t, v = .bytes (byteArr ks) t) ∧ n' = rest) := by
  refine (encode_ w mean mg mb rest x t (fits_bits he.fit hn)).mono ?_
  rintro v n' ⟨⟨ks', t', rfl, he'⟩, rfl⟩
  exact ⟨⟨t', by rw [he.unique he']⟩, rfl⟩
end Mine

theorem Mine.clr77 : True := by (w_top off); k_with_none; trivial
namespace Mine
/-- lists of ints, each on the ledger -/
inductive ItemsIn (news : List (Addr × Obj)) : List Value → List (List Int) → Prop
  | nil : ItemsIn news [] []
  | cons {a : Addr} {js : List Value} {n : Nat} {ks : List Int} {vs : List Value} {iss : List (List Int)} : (a, listOf js.toArray n) ∈ news → IntsAre js ks → ItemsIn news vs iss → ItemsIn news (.ref a :: vs) (ks :: iss)
theorem ItemsIn.mono {news news' : List (Addr × Obj)} {vs : List Value} {iss : List (List Int)} (h : ItemsIn news vs iss) (hs : ∀ p ∈ news, p ∈ news') : ItemsIn news' vs iss := by
  induction h with
  | nil => exact .nil
  | cons h1 h2 _ ih => exact .cons (hs _ h1) h2 ih
theorem ItemsIn.snoc {news : List (Addr × Obj)} {vs : List Value} {iss : List (List Int)} {a : Addr} {js : List Value} {n : Nat} {ks : List Int} (h : ItemsIn news vs iss) (h1 : (a, listOf js.toArray n) ∈ news) (h2 : IntsAre js ks) : ItemsIn news (vs ++ [.ref a]) (iss ++ [ks]) := by
  induction h with
  | nil => exact .cons h1 h2 .nil
  | cons h3 h4 _ ih => exact .cons h3 h4 ih
theorem ItemsIn.length {news : List (Addr × Obj)} {vs : List Value} {iss : List (List Int)} (h : ItemsIn news vs iss) : vs.length = iss.length := by
  induction h with
  | nil => rfl
  | cons _ _ _ ih => rw [List.length_cons, List.length_cons, ih]
/-- counted octets, one behind another -/
def cat (iss : List (List Int)) : List Int := iss.flatMap fun l => (l.length : Int) :: l
theorem cat_snoc (iss : List (List Int)) (l : List Int) : cat (iss ++ [l]) = cat iss ++ (l.length : Int) :: l := by
  unfold cat; rw [List.flatMap_append]; simp
structure ItSt where
  vs : List Value
  k : Nat
  iss : List (List Int)
  at' : Int
  t : Tok
  ext : List (Addr × Obj)
structure ItOk (il ol : Addr) (os : List Int) (c : ItSt) : Prop where
  pos : c.at' = ((cat c.iss).length : Int)
  take : os.take (cat c.iss).length = cat c.iss
  le : (cat c.iss).length ≤ os.length
  len : c.vs.length ≤ (cat c.iss).length
  items : ItemsIn c.ext c.vs c.iss
  off : OwnOff c.ext [il, ol]
abbrev itLed (il ol : Addr) (js : List Value) (n : Nat) (c : ItSt) : List (Addr × Obj) := (il, listOf c.vs.toArray c.k) :: (ol, listOf js.toArray n) :: c.ext
abbrev itPs (c : ItSt) : List (Str × Value) := [(Str.ofString "at", .int c.at' c.t)]
abbrev itMu (os : List Int) (c : ItSt) : Nat := os.length - (cat c.iss).length
section
variable {prog : Program} {w : World} {A : Around} {E : Value → Shared → Prop} {Q : Flow → Shared → Prop} {s : Shared} {env : Env} {h₀ : Heap} {L : Addr}
def ItPost (h₀ : Heap) (L : Addr) (s : Shared) (il ol : Addr) (js : List Value) (n : Nat) (os : List Int) (m₀ : Str → Option Value) (Q : Flow → Shared → Prop) (c : ItSt) : Flow → Shared → Prop :=
  KswPost h₀ L s (itLed il ol js n) itPs (fun _ => True) [] m₀ (ItOk il ol os) (itMu os) Q c
theorem it_while {test : PySem.Expr} {body : List PySem.Stmt} {pos : Pos} {m₀ : Str → Option Value} {il ol : Addr} {js : List Value} {os : List Int} {n : Nat} {t0 : Tok}
    (F : Fr h₀ L s.heap (fun y => if y = Str.ofString "at" then some (.int 0 t0) else m₀ y)) (N : News h₀ L s.heap [(il, listOf #[] 0), (ol, listOf js.toArray n)]) (hi9z : IntsAre js os)
    (turn : ∀ (vs : List Value) (k : Nat) (iss : List (List Int)) (a : Int) (t : Tok) (ext : List (Addr × Obj)) h tk, a = ((cat iss).length : Int) → os.take (cat iss).length = cat iss → (cat iss).length ≤ os.length → vs.length ≤ (cat iss).length → ItemsIn ext vs iss → OwnOff ext [il, ol] →
      Fr h₀ L h (fun y => if y = Str.ofString "at" then some (.int a t) else m₀ y) → News h₀ L h ((il, listOf vs.toArray k) :: (ol, listOf js.toArray n) :: ext) →
      wpAny (model prog w) A (isTrue test env (eval test env)) (fun b s₂ =>
        if b = true then wpAny (model prog w) A (execs body env) (ItPost h₀ L s il ol js n os (fun y => if y = Str.ofString "at" then some (.int 0 t0) else m₀ y) Q ⟨vs, k, iss, a, t, ext⟩) E s₂ else Q .next s₂) E { s with heap := h, toks := tk })
    (hE : PassesOwn (model prog w) A env E := by passes_own) :
    wpAny (model prog w) A (exec (.While test body [] pos) env) Q E s := by
  refine ksw_while (itLed il ol js n) itPs (fun _ => True) [] (ItOk il ol os) (itMu os) ⟨[], 0, [], 0, t0, []⟩ F N trivial ?_ ⟨rfl, rfl, Nat.zero_le _, Nat.le_refl _, .nil, fun _ h => nomatch h⟩ ?_ hE
  · intro p hp
    rw [List.mem_singleton.mp hp]
    exact if_pos rfl
  · rintro ⟨vs, k, iss, a, t, ext⟩ u h tk _ ok F1 N1
    refine turn vs k iss a t ext h tk ok.pos ok.take ok.le ok.len ok.items ok.off ?_ N1
    have e : (kstB (fun z => if ([] : List Str).contains z then u z else if z = Str.ofString "at" then some (Value.int 0 t0) else m₀ z) (itPs ⟨vs, k, iss, a, t, ext⟩)) = fun y => if y = Str.ofString "at" then some (.int a t) else m₀ y := by
      funext y
      show (if y = Str.ofString "at" then some (Value.int a t) else if ([] : List Str).contains y then u y else if y = Str.ofString "at" then some (Value.int 0 t0) else m₀ y) = _
      by_cases h : y = Str.ofString "at"
      · rw [if_pos h, if_pos h]
      · rw [if_neg h, if_neg h, if_neg h]; rfl
    rw [e] at F1
    exact F1
theorem at_cons {os : List Int} {a : Nat} (h : a < os.length) : os.drop a = os.getD a 0 :: os.drop (a + 1) := by
  rw [List.drop_eq_getElem_cons h]; simp [List.getD, h]
theorem it_end {il ol : Addr} {js : List Value} {os : List Int} {n : Nat} {m₁ m' : Str → Option Value} {vs ws : List Value} {k : Nat} {iss : List (List Int)} {a : Int} {t t' : Tok} {ext : List (Addr × Obj)} {D : Addr} {h' : Heap} {tk : Nat}
    (hok : ∀ o ∈ os, 0 ≤ o ∧ o ≤ 255) (hp : a = ((cat iss).length : Int)) (ht : os.take (cat iss).length = cat iss) (hl9z : (cat iss).length ≤ os.length) (hv : vs.length ≤ (cat iss).length) (hi : ItemsIn ext vs iss) (ho : OwnOff ext [il, ol])
    (h1 : a < os.length) (h2 : a + os.getD a.toNat 0 < os.length) (hI : IntsAre ws (List.take (min (a + 1 + os.getD a.toNat 0).toNat os.length - (a + 1).toNat) (os.drop (a + 1).toNat))) (l1 : LT.lt (α := Nat) il D ∧ LT.lt (α := Nat) ol D ∧ AllLt D ext)
    (F : Fr h₀ L h' m') (N : News h₀ L h' ((D, listOf ws.toArray 0) :: (il, listOf (vs.toArray.push (.ref D)) (k + 1)) :: (ol, listOf js.toArray n) :: ext))
    (hat : m' (Str.ofString "at") = some (.int (a + 1 + os.getD a.toNat 0) t')) (hr : ∀ z, z ≠ Str.ofString "at" → m' z = m₁ z) :
    ItPost h₀ L s il ol js n os m₁ Q ⟨vs, k, iss, a, t, ext⟩ .next { s with heap := h', toks := tk } := by
  have ha : a.toNat = (cat iss).length := by omega
  have hlt : (cat iss).length < os.length := by omega
  have hg : os.getD (cat iss).length 0 ∈ os := by
    have e : os.getD (cat iss).length 0 = os[(cat iss).length] := by simp [List.getD, hlt]
    rw [e]; exact List.getElem_mem hlt
  have h0 := hok _ hg
  rw [ha] at h2 hI hat
  have ed := at_cons hlt
  generalize ec : os.getD (cat iss).length 0 = c at h2 hI hat h0 ed
  have e1 : min (a + 1 + c).toNat os.length - (a + 1).toNat = c.toNat := by omega
  have e2 : (a + 1).toNat = (cat iss).length + 1 := by omega
  rw [e1, e2] at hI
  have el : ((os.drop ((cat iss).length + 1)).take c.toNat).length = c.toNat := by rw [List.length_take, List.length_drop]; omega
  have ecat : cat (iss ++ [(os.drop ((cat iss).length + 1)).take c.toNat]) = cat iss ++ c :: (os.drop ((cat iss).length + 1)).take c.toNat := by
    rw [cat_snoc, el]; congr 2; omega
  have elen : (cat (iss ++ [(os.drop ((cat iss).length + 1)).take c.toNat])).length = (cat iss).length + (c.toNat + 1) := by rw [ecat, List.length_append, List.length_cons, el]
  refine ksw_end ⟨vs ++ [.ref D], k + 1, iss ++ [(os.drop ((cat iss).length + 1)).take c.toNat], a + 1 + c, t', (D, listOf ws.toArray 0) :: ext⟩ F N ?_ trivial ?_ ?_ ⟨?_, ?_, ?_, ?_, ?_, ?_⟩ ?_
  · intro p hp
    simp only [itLed] at hp
    rw [List.push_toArray]
    rcases List.mem_cons.mp hp with rfl | hp
    · exact .tail _ (.head _)
    rcases List.mem_cons.mp hp with rfl | hp
    · exact .tail _ (.tail _ (.head _))
    rcases List.mem_cons.mp hp with rfl | hp
    · exact .head _
    · exact .tail _ (.tail _ (.tail _ hp))
  · intro p hp
    rw [List.mem_singleton.mp hp]
    exact hat
  · intro z hz _
    exact hr z (hz _ (List.mem_singleton.mpr rfl))
  · show a + 1 + c = _
    rw [elen]; omega
  · show os.take (cat (iss ++ _)).length = cat (iss ++ _)
    rw [elen, ecat, List.take_add, ht, ed, List.take_succ_cons]
  · show (cat (iss ++ _)).length ≤ _
    rw [elen]; omega
  · show (vs ++ [Value.ref D]).length ≤ (cat (iss ++ _)).length
    rw [elen, List.length_append, List.length_singleton]; omega
  · exact (hi.mono fun p hp => .tail _ hp).snoc (.head _) hI
  · intro p hp b hb
    rcases List.mem_cons.mp hp with rfl | hp
    · have h3 := l1.1
      have h4 := l1.2.1
      rcases List.mem_cons.mp hb with rfl | hb
      · exact fun e => absurd h3 (e ▸ Nat.lt_irrefl _)
      · rw [List.mem_singleton.mp hb]
        exact fun e => absurd h4 (e ▸ Nat.lt_irrefl _)
    · exact ho p hp b hb
  · show os.length - (cat (iss ++ _)).length < os.length - (cat iss).length
    rw [elen]; omega
end
/-- the octets: counted items, and what is left -/
structure SplitBy (os : List Int) (iss : List (List Int)) (r : List Int) : Prop where
  eq : os = cat iss ++ r
  rest : r = [] ∨ ∃ c r', r = c :: r' ∧ (r'.length : Int) < c
theorem it_neg {os : List Int} {iss : List (List Int)} {a : Int} (hok : ∀ o ∈ os, 0 ≤ o ∧ o ≤ 255) (hp : a = ((cat iss).length : Int)) (h1 : a < (os.length : Int)) (h2 : a + 1 + os.getD a.toNat 0 < 0) : False := by
  have h9 := octD (os := os) (n := a.toNat) (fun o ho => by have := hok o ho; omega) (by omega)
  omega
theorem split1 {os : List Int} {iss : List (List Int)} {a : Int} (hp : a = ((cat iss).length : Int)) (ht : os.take (cat iss).length = cat iss) (hl : (cat iss).length ≤ os.length) (h : ¬ a < (os.length : Int)) : ∃ r, SplitBy os iss r := by
  refine ⟨[], ?_, .inl rfl⟩
  rw [List.append_nil, ← ht, List.take_of_length_le (by omega)]
theorem split2 {os : List Int} {iss : List (List Int)} {a : Int} (hp : a = ((cat iss).length : Int)) (ht : os.take (cat iss).length = cat iss) (h1 : a < (os.length : Int)) (h : ¬ a + os.getD a.toNat 0 < (os.length : Int)) : ∃ r, SplitBy os iss r := by
  have ha : a.toNat = (cat iss).length := by omega
  rw [ha] at h
  refine ⟨os.drop (cat iss).length, ?_, .inr ⟨_, _, at_cons (by omega), ?_⟩⟩
  · conv => lhs; rw [← List.take_append_drop (cat iss).length os, ht]
  · rw [List.length_drop]; omega
end Mine
local macro_rules | `(tactic| walk_at "exec While BoolOp cons nil") => `(tactic| ((rename Fr _ _ _ _ => lF'); (rename News _ _ _ _ => lN'); k_dflt (refine' Mine.it_while lF' lN' (by assumption) ?_ ?hE; (case hE => passes_own); (clear lF' lN'); k_whole; intros)))
namespace Mine
set_option maxHeartbeats 2000000 in
theorem items_ (w : World) (mean : ExcName → Option Value) (mg mb : Str → Option Value) (ol : Addr) (js : List Value) (os : List Int) (n : Nat) (hi : IntsAre js os) (hok : ∀ o ∈ os, 0 ≤ o ∧ o ≤ 255) (hlen : os.length ≤ 332) :
   Con w mean mg mb 2 620 [(ol, listOf js.toArray n)] [.ref ol] (fun v n' => ∃ il vs k iss ext, v = .ref il ∧ n' = (il, listOf vs.toArray k) :: (ol, listOf js.toArray n) :: ext ∧ ItemsIn ext vs iss ∧ (∃ r, SplitBy os iss r) ∧ LT.lt (α := Nat) ol il ∧ OwnOff ext [il, ol] ∧ vs.length ≤ 332) := by
  unfold Con; k_fill
  intro dp un gd cn cs a ccd cl outer A₀ base h₀ L m s Q E X B F N T hk hd hu hret
  refine wpAny_call ?_
  k_dflt (walk_at "c_enter")
  k_steps
  · exact (it_neg hok (by assumption) (by assumption) (by assumption)).elim
  · exact it_end hok (by assumption) (by assumption) (by assumption) (by assumption) (by assumption) (by assumption) (by assumption) (by assumption) (by assumption) (by assumption) (by assumption) (by assumption) rfl (fun z hz => by simp [hz])
  · exact hret _ _ _ _ ⟨_, _, _, _, _, rfl, rfl, by assumption, split2 (by assumption) (by assumption) (by assumption) (by assumption), by assumption, by assumption, by omega⟩ (by assumption) (by assumption)
  · exact hret _ _ _ _ ⟨_, _, _, _, _, rfl, rfl, by assumption, split1 (by assumption) (by assumption) (by assumption) (by assumption), by assumption, by assumption, by omega⟩ (by assumption) (by assumption)
end Mine

namespace Mine
theorem enter_callR {M : Model} {A : Around} {s : Shared} {f : Value} {pos : List Value} {kw : List (Str × Value)} {c : ClaimW} {cl : Str → Option Addr} {mean : ExcName → Option Value} {args : List WData} {s₁ : Shared}
    (h : codeR M A (.call f ⟨pos, kw⟩) (GoodW c cl mean args s₁) s) : wpR M A (PySem.call f pos kw) (fun v s' => GoodWG c cl mean args s₁ (.ok (.ret v)) s') (fun e s' => GoodWG c cl mean args s₁ (.error e) s') s :=
  wpR_call (codeR_mono (codeR_mono h fun _ _ g => GoodW.toG g) fun res s' g => by rcases g.1 with ⟨v, _, _, rfl, _⟩ | ⟨e, _, _, rfl, _⟩ <;> exact g)
theorem call_fullR {prog : Program} {w : World} {A : Around} {R : Result → Shared → Prop} {s : Shared} {name : Str} {params : Arguments} {body : List PySem.Stmt} {scope : Scope}
    {dV kV pm cd doc : Value} {a : Addr} {o : Obj} {args : Args} {binds : List (Str × Value)}
    (hroom : A.depth < recursionLimit) (ho : s.heap.get? a = some o) (hdata : o.data = .func { docDef name params body scope pm cd doc with defaults := dV, kwdefaults := kV }) (hlim : s.heap.NoLimit) (hcd : s.heap.CodeRec cd name)
    (hbind : BindsTo s { docDef name params body scope pm cd doc with defaults := dV, kwdefaults := kV } args binds)
    (hloc : ∀ x ∈ binds, scope.names.lookup x.1 = some .local)
    (h : ∀ h₁, Fr s.heap s.heap.objs.size h₁ (fun x => binds.reverse.lookup x) →
      wpR (model prog w) (A.deeper (envOf name scope s.heap.objs.size a cd)) (execs body (envOf name scope s.heap.objs.size a cd))
        (fun f s' => R (.ok (.ret (match f with | .ret v => v | _ => .none))) s')
        (fun _ _ => False)
        { s with heap := h₁, toks := s.toks + binds.length })
    (hco : scope.isCoroutine = false := by rfl) (hgen : scope.isGenerator = false := by rfl) (hk : scope.kind = .function := by rfl)
    (hcell : ∀ x ∈ scope.names, x.2 ≠ .cell := by decide) :
    codeR (model prog w) A (.call (.ref a) args) R s := by
  refine codeR_call_function (fd := { docDef name params body scope pm cd doc with defaults := dV, kwdefaults := kV }) (body := body) hroom ho hdata hco hgen rfl hcd (hbind _ _ _ _ ?_)
  refine wpAny_newFunctionEnv hcell hloc (fun h₁ hns hsb => ⟨hlim.fresh _ hsb, codeR_func ?_⟩) hk
  exact wpR_mono (h h₁ ⟨hns, fun b o e => hsb.extBut b o (Nat.ne_of_lt (Heap.lt_size e)) (Heap.get?_push_of_some _ e), Nat.le_refl _⟩) (fun _ _ x => x) fun _ _ x => x.elim
end Mine

local macro_rules | `(tactic| walk_at "call ref") => `(tactic| (k_here; (with_reducible show wpAny _ _ (call (Value.ref 613) [Value.ref _]) _ _ _); k_dflt (refine' Mine.octets_ _ _ _ _ _ _ _ ?hi ?hn _ _ _ _ _ _ _ _ _ _ _ _ _ _ _ _ _ ?hl ?X ?B ?F ?N ?T ?hk ?hd ?hu ?_; (walk_at "c1"); (case N => k_asm); (walk_at "c2"); (case hl => assumption); (case hi => assumption); (case hn => omega); (walk_at "c3")); k_whole; intro x' js' os' n' h' tk' hi' ho' hl' F' N'))
local macro_rules | `(tactic| walk_at "call ref") => `(tactic| (k_here; (with_reducible show wpAny _ _ (call (Value.ref 620) [Value.ref _]) _ _ _); k_dflt (refine' Mine.items_ _ _ _ _ _ _ _ _ ?hi ?ho ?hl _ _ _ _ _ _ _ _ _ _ _ _ _ _ _ _ _ ?X ?B ?F ?N ?T ?hk ?hd ?hu ?_; (walk_at "c1"); (case N => k_asm); (walk_at "c2"); (case hi => assumption); (case ho => assumption); (case hl => assumption); (walk_at "c3")); k_whole; intro v' n' h' tk' hR' F' N'; obtain ⟨il', vs', k', iss', ext', hv', hn', hI', hS', hlt', hoff', hvl'⟩ := hR'; subst hv'; subst hn'))
namespace Mine
theorem ba_small {os : List Int} {k : Nat} (h : os.length ≤ k) (hk : k ≤ sizeLine) : (byteArr os).size ≤ sizeLine := by rw [byteArr_size]; omega
theorem allLt_3 {d : Nat} {p q r : Addr × Obj} {l : List (Addr × Obj)} (h : AllLt d (p :: q :: r :: l)) : LT.lt (α := Nat) p.1 d ∧ LT.lt (α := Nat) q.1 d ∧ LT.lt (α := Nat) r.1 d ∧ AllLt d l := h
theorem off_make {x d b : Addr} {r : List (Addr × Obj)} (h : AllLt d r) (h1 : LT.lt (α := Nat) d x) (h2 : LT.lt (α := Nat) x b) : OwnOff r [x, d, b] := fun p hp y hy => by
  have h3 := allLt_at h p hp
  simp only [List.mem_cons, List.not_mem_nil, or_false] at hy
  rcases hy with rfl | rfl | rfl
  · exact Nat.ne_of_lt (Nat.lt_trans h3 h1)
  · exact Nat.ne_of_lt h3
  · exact Nat.ne_of_lt (Nat.lt_trans h3 (Nat.lt_trans h1 h2))
end Mine
local macro_rules | `(tactic| walk_at "c_make") => `(tactic| (k_dflt (refine' Mine.make_R _ _ _ _ _ _ _ ?hz _ _ _ _ _ _ _ _ _ _ _ _ _ _ _ _ _ ?B ?F ?X ?N ?T ?hk ?hd ?hu ?_; (walk_at "c1"); (case N => k_asm); (walk_at "c2"); (walk_at "c3"); (case hz => first | exact Mine.ba_small (by assumption) (by decide) | (rw [sizeLine_eq]; omega))); k_whole; intro x' d' b' t1' t2' t3' h' tk' F' N' lA' lB' lC' lD'; (have oE' := Mine.off_make lC' lA' lB'); (try simp only [AllLt] at lC' lD')))

namespace Mine
inductive BytesAre : List Value → List (List Int) → Prop
  | nil : BytesAre [] []
  | cons {vs : List Value} {kss : List (List Int)} (ks : List Int) (t : Tok) : BytesAre vs kss → BytesAre (.bytes (byteArr ks) t :: vs) (ks :: kss)
theorem BytesAre.snoc {vs : List Value} {kss : List (List Int)} (h : BytesAre vs kss) (ks : List Int) (t : Tok) : BytesAre (vs ++ [.bytes (byteArr ks) t]) (kss ++ [ks]) := by
  induction h with
  | nil => exact .cons _ _ .nil
  | cons k t _ ih => exact .cons k t ih
theorem BytesAre.length {vs : List Value} {kss : List (List Int)} (h : BytesAre vs kss) : vs.length = kss.length := by
  induction h with
  | nil => rfl
  | cons _ _ _ ih => rw [List.length_cons, List.length_cons, ih]
def lst (i : List Int) : List Int := i.take (leastN i i.length)
def wr (i : List Int) : List Int := ((lst i).length : Int) :: lst i
abbrev lawLed (P : Params) (wl nl x2 d2 b2 x1 d1 b1 il ol : Addr) (u1 u2 t1 t2 : Tok) (os : List Int) (js : List Value) (n : Nat) (vs : List Value) (k : Nat) (ext : List (Addr × Obj)) (pos : Int) (tv uv : Tok) (wvs nvs : List Value) (kw kn : Nat) : List (Addr × Obj) :=
  (wl, listOf wvs.toArray kw) :: (nl, listOf nvs.toArray kn) :: (x2, instObj 343 d2) :: (d2, dictOf (bioD P b2 pos u1 u2 uv) 2) :: (b2, baObj (byteArr os)) :: (x1, instObj 343 d1) :: (d1, dictOf (bioD P b1 pos t1 t2 tv) 2) :: (b1, baObj (byteArr os)) :: (il, listOf vs.toArray k) :: (ol, listOf js.toArray n) :: ext
structure LSt (done : List (List Int)) (pos : Int) (nvs wvs : List Value) : Prop where
  pos : pos = ((cat done).length : Int)
  nums : IntsAre nvs (done.map numOf)
  wrs : BytesAre wvs (done.map wr)
theorem LSt.snoc {done : List (List Int)} {pos : Int} {nvs wvs : List Value} {item : List Int} {x : Int} {ks : List Int} {t t' : Tok} (h : LSt done pos nvs wvs) (hx : x = numOf item) (hk : ks = wr item) : LSt (done ++ [item]) (pos + 1 + item.length) (nvs ++ [.int x t]) (wvs ++ [.bytes (byteArr ks) t']) := by
  subst hx hk
  refine ⟨?_, ?_, ?_⟩
  · rw [cat_snoc, List.length_append, List.length_cons, h.pos]; omega
  · rw [List.map_append]; exact intsAre_append h.nums (.cons _ _ .nil)
  · rw [List.map_append]; exact h.wrs.snoc _ _
/-- an item in the octets -/
structure ItemAt (os : List Int) (pos : Int) (item : List Int) : Prop where
  get : os[pos.toNat]? = some (item.length : Int)
  sub : (os.drop (pos + 1).toNat).take (item.length : Int).toNat = item
  oct : Oct item
theorem cat_append (a b : List (List Int)) : cat (a ++ b) = cat a ++ cat b := by unfold cat; rw [List.flatMap_append]
theorem cat_cons (i : List Int) (b : List (List Int)) : cat (i :: b) = (i.length : Int) :: (i ++ cat b) := by unfold cat; rw [List.flatMap_cons]; rfl
theorem cat_len : ∀ d : List (List Int), d.length ≤ (cat d).length
  | [] => Nat.zero_le _
  | i :: d => by have := cat_len d; rw [cat_cons]; simp only [List.length_cons, List.length_append]; omega
theorem item_at {os r : List Int} {done todo : List (List Int)} {item : List Int} {pos : Int} (hok : ∀ o ∈ os, 0 ≤ o ∧ o ≤ 255) (hs : os = cat (done ++ item :: todo) ++ r) (hp : pos = ((cat done).length : Int)) :
    ItemAt os pos item ∧ 0 ≤ pos ∧ pos + 1 + item.length ≤ os.length ∧ item.length ≤ 255 ∧ (∀ o ∈ item, 0 ≤ o ∧ o ≤ 255) := by
  have e : os = cat done ++ ((item.length : Int) :: (item ++ (cat todo ++ r))) := by
    rw [hs, cat_append, cat_cons, List.append_assoc]; simp
  have hp0 : pos.toNat = (cat done).length := by omega
  have hp1 : (pos + 1).toNat = (cat done).length + 1 := by omega
  have hin : ∀ o ∈ item, 0 ≤ o ∧ o ≤ 255 := fun o ho => hok o (by rw [e]; simp [ho])
  have hl : (0 : Int) ≤ item.length ∧ (item.length : Int) ≤ 255 := hok _ (by rw [e]; simp)
  refine ⟨⟨?_, ?_, fun o ho => by have := hin o ho; omega⟩, by omega, ?_, by omega, hin⟩
  · rw [hp0, e, List.getElem?_append_right (Nat.le_refl _), Nat.sub_self]; rfl
  · rw [hp1, e, List.drop_append, List.drop_of_length_le (Nat.le_succ _)]
    have e2 : (cat done).length + 1 - (cat done).length = 1 := by omega
    rw [e2, Int.toNat_natCast]
    simp
  · rw [e]; simp only [List.length_append, List.length_cons]; omega
def lawStored : List Str := [Str.ofString "item", Str.ofString "told", Str.ofString "plain", Str.ofString "least"]
abbrev lawFrm (m₀ : Str → Option Value) (pos : Int) (t : Tok) (u : Str → Option Value) : Str → Option Value := fun y => if y = Str.ofString "at" then some (.int pos t) else if lawStored.contains y = true then u y else m₀ y
abbrev LedTy := Int → Tok → Tok → List Value → List Value → Nat → Nat → List (Addr × Obj)
def LawEnd (h₀ : Heap) (L : Addr) (s : Shared) (led : LedTy) (p : Addr × Obj) (m₀ : Str → Option Value) (done : List (List Int)) (s₂ : Shared) : Prop :=
  ∃ (h' : Heap) (tk : Nat) (m' : Str → Option Value) (pos : Int) (t tv uv : Tok) (wvs nvs : List Value) (kw kn : Nat), s₂ = { s with heap := h', toks := tk } ∧ Fr h₀ L h' m' ∧ News h₀ L h' (p :: led pos tv uv wvs nvs kw kn) ∧ m' (Str.ofString "at") = some (.int pos t) ∧
    (∀ z, z ≠ Str.ofString "at" → lawStored.contains z = false → m' z = m₀ z) ∧ LSt done pos nvs wvs
def LawPost (h₀ : Heap) (L : Addr) (s : Shared) (led : LedTy) (p : Addr × Obj) (m₀ : Str → Option Value) (done : List (List Int)) (f : Flow) (s₂ : Shared) : Prop :=
  (f = .next ∨ f = .cont) ∧ LawEnd h₀ L s led p m₀ done s₂
theorem LawPost.intro {h₀ : Heap} {L : Addr} {s : Shared} {led : LedTy} {p : Addr × Obj} {m₀ : Str → Option Value} {done : List (List Int)} {h' : Heap} {tk : Nat} {m' : Str → Option Value} {pos : Int} {t tv uv : Tok} {wvs nvs : List Value} {kw kn : Nat} {all : List (Addr × Obj)}
    (F : Fr h₀ L h' m') (N : News h₀ L h' all) (hn : ∀ q ∈ p :: led pos tv uv wvs nvs kw kn, q ∈ all) (hat : m' (Str.ofString "at") = some (.int pos t)) (hr : ∀ z, z ≠ Str.ofString "at" → lawStored.contains z = false → m' z = m₀ z) (hs : LSt done pos nvs wvs) :
    LawPost h₀ L s led p m₀ done .next { s with heap := h', toks := tk } := ⟨.inl rfl, h', tk, m', pos, t, tv, uv, wvs, nvs, kw, kn, rfl, F, fun q hq => N q (hn q hq), hat, hr, hs⟩
theorem law_fr {h₀ h : Heap} {L : Addr} {m' m₀ : Str → Option Value} {pos : Int} {t : Tok} (F : Fr h₀ L h m') (hat : m' (Str.ofString "at") = some (.int pos t)) (hr : ∀ z, z ≠ Str.ofString "at" → lawStored.contains z = false → m' z = m₀ z) : Fr h₀ L h (lawFrm m₀ pos t m') := by
  have e : lawFrm m₀ pos t m' = m' := by
    funext y
    show (if y = Str.ofString "at" then some (Value.int pos t) else if lawStored.contains y = true then m' y else m₀ y) = m' y
    by_cases h1 : y = Str.ofString "at"
    · rw [if_pos h1, h1, hat]
    · rw [if_neg h1]
      cases h2 : lawStored.contains y with
      | true => rw [if_pos rfl]
      | false => rw [if_neg (by simp), hr y h1 h2]
  rw [e]; exact F
section
variable {prog : Program} {w : World} {A : Around} {E : Value → Shared → Prop} {s : Shared} {env : Env} {h₀ : Heap} {body : List PySem.Stmt} {Q : Flow → Shared → Prop}
theorem item_rest {I : Addr} {lp : Addr × Obj} {led : LedTy} {ext : List (Addr × Obj)} {m₀ : Str → Option Value} {os r : List Int} {all : List (List Int)} (hok : ∀ o ∈ os, 0 ≤ o ∧ o ≤ 255) (hs : os = cat all ++ r)
    (hmem : ∀ pos tv uv wvs nvs kw kn, lp ∈ led pos tv uv wvs nvs kw kn) (hoff : ∀ pos tv uv wvs nvs kw kn, ∀ p ∈ led pos tv uv wvs nvs kw kn, p.1 ≠ I)
    (turn : ∀ (done : List (List Int)) (item : List Int) (ia : Addr) (ji : List Value) (ni : Nat) (pos : Int) (t tv uv : Tok) (wvs nvs : List Value) (kw kn : Nat) (u : Str → Option Value) (it : Obj) h tk, it.cls = .type "list_iterator" → LSt done pos nvs wvs →
      ItemAt os pos item → 0 ≤ pos → pos + 1 + (item.length : Int) ≤ (os.length : Int) → item.length ≤ 255 → (∀ o ∈ item, 0 ≤ o ∧ o ≤ 255) → (ia, listOf ji.toArray ni) ∈ ext → IntsAre ji item → nvs.length ≤ os.length → wvs.length ≤ os.length →
      Fr h₀ env.locals h (fun y => if y = Str.ofString "item" then some (.ref ia) else lawFrm m₀ pos t u y) → News h₀ env.locals h ((I, it) :: led pos tv uv wvs nvs kw kn) →
      wpAny (model prog w) A (execs body env) (LawPost h₀ env.locals s led (I, it) m₀ (done ++ [item])) E { s with heap := h, toks := tk })
    (fin : ∀ (pos : Int) (t tv uv : Tok) (wvs nvs : List Value) (kw kn : Nat) (u : Str → Option Value) h tk, LSt all pos nvs wvs → Fr h₀ env.locals h (lawFrm m₀ pos t u) → News h₀ env.locals h (led pos tv uv wvs nvs kw kn) → Q .next { s with heap := h, toks := tk }) :
    ∀ (vs : List Value) (todo : List (List Int)), ItemsIn ext vs todo → ∀ (done : List (List Int)) (pos : Int) (t tv uv : Tok) (wvs nvs : List Value) (kw kn : Nat) (u : Str → Option Value), all = done ++ todo → LSt done pos nvs wvs →
      ListRest prog w A E h₀ env (Str.ofString "item") body Q s I lp vs (lawFrm m₀ pos t u) (led pos tv uv wvs nvs kw kn) := by
  intro vs todo hi
  induction hi with
  | nil =>
    intro done pos t tv uv wvs nvs kw kn u ha hst
    rw [List.append_nil] at ha
    subst ha
    exact fun h tk F N => fin pos t tv uv wvs nvs kw kn u h tk hst F N
  | @cons ia ji ni item vs iss hm hij hr ih =>
    intro done pos t tv uv wvs nvs kw kn u ha hst it h tk hit F N
    obtain ⟨hA, h0, h1, h2, h3⟩ := item_at (r := r) hok (ha ▸ hs) hst.pos
    have hl := cat_len done
    have hl1 : nvs.length = done.length := by rw [IntsAre.length hst.nums, List.length_map]
    have hl2 : wvs.length = done.length := by rw [hst.wrs.length, List.length_map]
    have hp := hst.pos
    refine wpAny_mono (turn done item ia ji ni pos t tv uv wvs nvs kw kn u it h tk hit hst hA h0 h1 h2 h3 hm hij (by omega) (by omega) F N) (fun f s₂ p => ?_) fun _ _ e => e
    obtain ⟨hf, h', tk', m', pos', t', tv', uv', wvs', nvs', kw', kn', rfl, F', N', hat, hr', hst'⟩ := p
    have e : UnrEnd h₀ env.locals { s with heap := h, toks := tk } I it (fun m' n' => lp ∈ n' ∧ ListRest prog w A E h₀ env (Str.ofString "item") body Q s I lp vs m' n') { s with heap := h', toks := tk' } :=
      ⟨h', tk', _, _, rfl, law_fr F' hat hr', N', hoff _ _ _ _ _ _ _, hmem _ _ _ _ _ _ _, ih (done ++ [item]) pos' t' tv' uv' wvs' nvs' kw' kn' m' (by rw [ha, List.append_assoc]; rfl) hst'⟩
    rcases hf with rfl | rfl <;> exact e
theorem allLt_mem {d : Nat} {l : List (Addr × Obj)} (h : AllLt d l) : ∀ p ∈ l, p.1 ≠ d := fun p hp => Nat.ne_of_lt (allLt_at h p hp)
theorem off_two {a b : Addr} {l : List (Addr × Obj)} (h1 : AllLt a l) (h2 : AllLt b l) : OwnOff l [a, b] := fun p hp y hy => by
  simp only [List.mem_cons, List.not_mem_nil, or_false] at hy
  rcases hy with rfl | rfl
  · exact Nat.ne_of_lt (allLt_at h1 p hp)
  · exact Nat.ne_of_lt (allLt_at h2 p hp)
theorem item_loop {P : Params} {wl nl x2 d2 b2 x1 d1 b1 il ol : Addr} {u1 u2 t1 t2 t0 tv uv : Tok} {os r : List Int} {js : List Value} {n : Nat} {vs : List Value} {k : Nat} {ext : List (Addr × Obj)} {m₀ : Str → Option Value} {iss : List (List Int)} (hh : A.handled = none)
    (F : Fr h₀ env.locals s.heap (fun y => if y = Str.ofString "at" then some (.int 0 t0) else m₀ y)) (N : News h₀ env.locals s.heap (lawLed P wl nl x2 d2 b2 x1 d1 b1 il ol u1 u2 t1 t2 os js n vs k ext 0 tv uv [] [] 0 0))
    (hi : ItemsIn ext vs iss) (hok : ∀ o ∈ os, 0 ≤ o ∧ o ≤ 255) (hs : SplitBy os iss r) (e1 : AllLt d1 ext) (e2 : AllLt d2 ext) (e3 : AllLt nl ext) (e4 : AllLt wl ext)
    (turn : ∀ (I : Addr) (done : List (List Int)) (item : List Int) (ia : Addr) (ji : List Value) (ni : Nat) (pos : Int) (t tv uv : Tok) (wvs nvs : List Value) (kw kn : Nat) (u : Str → Option Value) (it : Obj) h tk, it.cls = .type "list_iterator" → LSt done pos nvs wvs →
      ItemAt os pos item → 0 ≤ pos → pos + 1 + (item.length : Int) ≤ (os.length : Int) → item.length ≤ 255 → (∀ o ∈ item, 0 ≤ o ∧ o ≤ 255) → (ia, listOf ji.toArray ni) ∈ ext → IntsAre ji item → nvs.length ≤ os.length → wvs.length ≤ os.length →
      (LT.lt (α := Nat) wl I ∧ LT.lt (α := Nat) nl I ∧ LT.lt (α := Nat) x2 I ∧ LT.lt (α := Nat) d2 I ∧ LT.lt (α := Nat) b2 I ∧ LT.lt (α := Nat) x1 I ∧ LT.lt (α := Nat) d1 I ∧ LT.lt (α := Nat) b1 I ∧ LT.lt (α := Nat) il I ∧ LT.lt (α := Nat) ol I ∧ AllLt I ext) → LT.lt (α := Nat) ia d1 → LT.lt (α := Nat) ia d2 → LT.lt (α := Nat) ia I → OwnOff ext [nl, wl] →
      Fr h₀ env.locals h (fun y => if y = Str.ofString "item" then some (.ref ia) else lawFrm m₀ pos t u y) →
      News h₀ env.locals h ((I, it) :: (ia, listOf ji.toArray ni) :: lawLed P wl nl x2 d2 b2 x1 d1 b1 il ol u1 u2 t1 t2 os js n vs k ext pos tv uv wvs nvs kw kn) →
      wpAny (model prog w) A (execs body env) (LawPost h₀ env.locals s (lawLed P wl nl x2 d2 b2 x1 d1 b1 il ol u1 u2 t1 t2 os js n vs k ext) (I, it) m₀ (done ++ [item])) E { s with heap := h, toks := tk })
    (fin : ∀ (pos : Int) (t tv uv : Tok) (wvs nvs : List Value) (kw kn : Nat) (u : Str → Option Value) h tk, LSt iss pos nvs wvs → Fr h₀ env.locals h (lawFrm m₀ pos t u) → News h₀ env.locals h (lawLed P wl nl x2 d2 b2 x1 d1 b1 il ol u1 u2 t1 t2 os js n vs k ext pos tv uv wvs nvs kw kn) → Q .next { s with heap := h, toks := tk }) :
    wpAny (model prog w) A (pyIter (.ref il)) (fun it s₂ => LoopAtV prog w A h₀ env (Str.ofString "item") body Q E it s₂) E s := by
  have F1 := law_fr (m₀ := m₀) (pos := 0) (t := t0) F (if_pos rfl) (fun z h1 _ => if_neg h1)
  refine iter_listUnr (lo := listOf vs.toArray k) (vs := vs) (n := k) hh F1 N (.tail _ (.tail _ (.tail _ (.tail _ (.tail _ (.tail _ (.tail _ (.tail _ (.head _))))))))) rfl rfl fun I hI => ?_
  have hA := allLt_of (d := I) hI
  exact item_rest (led := lawLed P wl nl x2 d2 b2 x1 d1 b1 il ol u1 u2 t1 t2 os js n vs k ext) (os := os) (r := r) (all := iss) hok hs.eq (fun pos tv uv wvs nvs kw kn => .tail _ (.tail _ (.tail _ (.tail _ (.tail _ (.tail _ (.tail _ (.tail _ (.head _)))))))))
    (fun pos tv uv wvs nvs kw kn => allLt_mem hA)
    (fun done item ia ji ni pos t tv uv wvs nvs kw kn u it h tk a1 a2 a3 a4 a5 a6 a7 a8 a9 a10 a11 a12 a13 => turn I done item ia ji ni pos t tv uv wvs nvs kw kn u it h tk a1 a2 a3 a4 a5 a6 a7 a8 a9 a10 a11 hA (allLt_at e1 _ a8) (allLt_at e2 _ a8) (allLt_at hA.2.2.2.2.2.2.2.2.2.2 _ a8) (off_two e3 e4) a12 (fun p hp => (List.mem_cons.mp hp).elim (fun e => e ▸ a13 _ (.head _)) fun hp => (List.mem_cons.mp hp).elim (fun e => e ▸ a13 _ (.tail _ (.tail _ (.tail _ (.tail _ (.tail _ (.tail _ (.tail _ (.tail _ (.tail _ (.tail _ (.tail _ (a8))))))))))))) fun hp => a13 _ (.tail _ hp)))
    fin vs iss hi [] 0 t0 tv uv [] [] 0 0 _ rfl ⟨rfl, .nil, .nil⟩
end
end Mine

namespace Mine
open Builtin Builtin.Bytes
theorem take_by (id : String) (b : Array UInt8) (t : Tok) : takeBufferQuiet? id (.bytes b t) 0 = pure (some (b, none)) := by
  kernel_rfl
theorem items_ref {M : Model} {A : Around} {E : Value → Shared → Prop} {s : Shared} {l : Addr} {vs : List Value} {Q : Option (Array Value) → Shared → Prop} (hl : s.heap.IsList l vs.toArray) (h : Q (some vs.toArray) s) : wpAny M A (seqItems? (.ref l)) Q E s := by
  obtain ⟨o, ho, hc, n, hd⟩ := hl
  unfold seqItems?
  refine wpAny_bind (wpAny_load ho ?_)
  rw [hd]
  exact wpAny_pure h
theorem bytesAre_at {vs : List Value} {kss : List (List Int)} (h : BytesAre vs kss) : ∀ i, i < kss.length → ∃ t, vs[i]? = some (Value.bytes (byteArr (kss.getD i [])) t) := by
  induction h with
  | nil => intro i h; exact absurd h (by simp)
  | cons k t _ ih =>
    intro i h
    cases i with
    | zero => exact ⟨t, rfl⟩
    | succ i => obtain ⟨t', e⟩ := ih i (by simpa using h); exact ⟨t', by simpa using e⟩
theorem not_heap {vs : List Value} {kss : List (List Int)} (h : BytesAre vs kss) : ∀ v ∈ vs, v.onHeap = false := by
  induction h with
  | nil => intro v hv; exact nomatch hv
  | cons k t _ ih =>
    intro v hv
    rcases List.mem_cons.mp hv with rfl | hv
    · rfl
    · exact ih v hv
theorem byteArr_cat (a b : List Int) : byteArr a ++ byteArr b = byteArr (a ++ b) := by unfold byteArr; simp
theorem joined_nil : ∀ (kss : List (List Int)) (k : Nat) (out : List Int), (((kss.map byteArr).zipIdx k).foldl (fun (out : Array UInt8) (x : Array UInt8 × Nat) => (if x.2 > 0 then out ++ #[] else out) ++ x.1) (byteArr out)) = byteArr (out ++ kss.flatten)
  | [], k, out => by simp
  | ks :: r, k, out => by
    rw [List.map_cons, List.zipIdx_cons, List.foldl_cons]
    have e : ((if k > 0 then byteArr out ++ #[] else byteArr out) ++ byteArr ks) = byteArr (out ++ ks) := by
      rw [← byteArr_cat]
      split <;> simp
    show List.foldl _ ((if k > 0 then byteArr out ++ #[] else byteArr out) ++ byteArr ks) _ = _
    rw [e, joined_nil r (k + 1) (out ++ ks), List.flatten_cons, List.append_assoc]
theorem joined_eq (kss : List (List Int)) : joined #[] (kss.map byteArr) = byteArr kss.flatten := joined_nil kss 0 []
theorem sizes_eq : ∀ (kss : List (List Int)) (c : Nat), (kss.map byteArr).foldl (fun (a : Nat) (b : Array UInt8) => a + b.size) c = c + kss.flatten.length
  | [], c => by simp
  | ks :: r, c => by
    rw [List.map_cons, List.foldl_cons, sizes_eq r, byteArr_size, List.flatten_cons, List.length_append, Nat.add_assoc]
section
variable {M : Model} {A : Around} {E : Value → Shared → Prop} {s : Shared}
theorem letgo_all {Q : Unit → Shared → Prop} {keep : List Value} (h : Q () s) : ∀ vs : List Value, wpAny M A (joinLetGo (vs.map fun v => (v, none)) keep) Q E s
  | [] => wpAny_pure h
  | v :: r => by
    rw [List.map_cons]
    unfold joinLetGo
    show wpAny _ _ (letGo (v :: []) _ >>= fun _ => joinLetGo (r.map fun v => (v, none)) keep) _ _ _
    refine wpAny_bind ?_
    unfold letGo
    refine wpAny_bind (wpAny_holding (wpAny_point ?_))
    unfold letGo
    exact wpAny_pure (letgo_all h r)
theorem join_tree {l : Addr} {vs : List Value} {kss : List (List Int)} {t : Tok} {P : Fin → Shared → Prop} (hl : s.heap.IsList l vs.toArray) (hb : BytesAre vs kss) (hz : kss.flatten.length ≤ 100000)
    (h : ∀ t' k, P (.done (.ret (.bytes (byteArr kss.flatten) t'))) { s with toks := k }) : wpAny M A (Builtin.«bytes.join» ⟨[.bytes #[] t, .ref l], []⟩) P E s := by
  have hlen := hb.length
  delta Builtin.«bytes.join» Builtin.Bytes.joinM
  refine wpAny_bind (wpAny_of_eq (a := (Value.bytes #[] t, Value.ref l)) rfl ?_)
  have hT : s.TypeIs (.ref l) "list" := hl.typeIs
  refine wpAny_bind (m := joinItems (.ref l)) ?_
  have hj : ∀ {Q : Value → Shared → Prop}, Q (.ref l) s → wpAny M A (joinItems (.ref l)) Q E s := fun hq => by
    unfold joinItems
    refine wpAny_bind (wpAny_typeOf hT ?_)
    exact wpAny_ite_true rfl (wpAny_pure hq)
  refine hj ?_
  refine wpAny_bind (items_ref hl ?_)
  rcases vs with _ | ⟨v1, _ | ⟨v2, r⟩⟩
  · cases hb
    refine wpAny_bind ?_
    rw [Std.Legacy.Range.forIn_eq_forIn_range']
    refine wpAny_pure ?_
    refine wpAny_bind (wpAny_of_eq (a := (#[] : Array UInt8)) rfl ?_)
    refine KTBy.if_not (c := tooLong ((#[] : Array (Array UInt8)).foldl (fun (a : Nat) (b : Array UInt8) => a + b.size) ((#[] : Array UInt8).size * ((#[] : Array (Array UInt8)).size - 1)))) (by decide) ?_
    refine wpAny_bind (m := mkBytes (joined #[] [])) (wpAny_mkBytes ?_ ?_)
    · refine wpAny_bind (wpAny_holding (wpAny_point ?_))
      refine wpAny_bind (letgo_all (keep := [_]) ?_ [])
      exact wpAny_pure (h _ _)
    · show 0 ≤ sizeLine
      exact Nat.zero_le _
  · cases hb with
    | cons ks t hr =>
      cases hr
      refine wpAny_bind (m := typeOf (Value.bytes (byteArr ks) t)) (wpAny_of_eq (a := .type "bytes") rfl ?_)
      refine wpAny_ite_true rfl (wpAny_bind (wpAny_rule ?_))
      have e : ([ks] : List (List Int)).flatten = ks := by simp
      have := h t s.toks
      rw [e] at this
      exact wpAny_pure this
  · refine wpAny_bind ?_
    generalize v1 :: v2 :: r = vs at *
    rw [Std.Legacy.Range.forIn_eq_forIn_range']
    refine wpAny_forIn_list _ (fun rest b s' => s' = s ∧ ∃ i, rest = List.range' i (vs.length - i) ∧ i ≤ vs.length ∧ b.1 = ((kss.take i).map byteArr).toArray ∧ b.2 = (vs.take i).map fun v => (v, none)) _ ?turn ?fin _ _ ?start
    case start =>
      refine ⟨rfl, 0, ?_, Nat.zero_le _, rfl, rfl⟩
      rw [List.size_toArray, Nat.sub_zero]
      show List.range' 0 ((vs.length - 0 + 1 - 1) / 1) = _
      rw [show (vs.length - 0 + 1 - 1) / 1 = vs.length by omega]
    case fin =>
      rintro ⟨parts, taken⟩ s' ⟨rfl, i, hr, hi, hp, ht⟩
      have hp : parts = ((kss.take i).map byteArr).toArray := hp
      have ht : taken = (vs.take i).map fun v => (v, none) := ht
      have hin : i = vs.length := by
        have := congrArg List.length hr
        rw [List.length_range'] at this
        simp only [List.length_nil] at this
        omega
      subst hin
      rw [List.take_of_length_le (by omega)] at hp
      rw [List.take_of_length_le (Nat.le_refl _)] at ht
      subst hp ht
      refine wpAny_bind (wpAny_of_eq (a := (#[] : Array UInt8)) rfl ?_)
      refine KTBy.if_not (c := tooLong ((kss.map byteArr).toArray.foldl (fun (a : Nat) (b : Array UInt8) => a + b.size) ((#[] : Array UInt8).size * ((kss.map byteArr).toArray.size - 1)))) ?_ ?_
      · unfold tooLong
        rw [List.foldl_toArray, sizes_eq]
        have e0 : (#[] : Array UInt8).size * ((kss.map byteArr).toArray.size - 1) = 0 := Nat.zero_mul _
        rw [e0, sizeLine_eq]
        exact decide_eq_false (by omega)
      refine wpAny_bind (m := mkBytes (joined #[] (kss.map byteArr))) (wpAny_mkBytes ?_ ?_)
      · refine wpAny_bind (wpAny_holding (wpAny_point ?_))
        refine wpAny_bind (letgo_all (keep := [_]) ?_ (vs.take vs.length))
        rw [joined_eq]
        exact wpAny_pure (h _ _)
      · rw [joined_eq, byteArr_size, sizeLine_eq]; omega
    case turn =>
      rintro x rest ⟨parts, taken⟩ s' ⟨rfl, i, hr, hi, hp, ht⟩
      have hp : parts = ((kss.take i).map byteArr).toArray := hp
      have ht : taken = (vs.take i).map fun v => (v, none) := ht
      have hlt : i < vs.length := by
        by_cases h9 : i < vs.length
        · exact h9
        · have e : vs.length - i = 0 := by omega
          rw [e] at hr
          exact absurd hr (by simp)
      obtain ⟨m, hm⟩ : ∃ m, vs.length - i = m + 1 := ⟨vs.length - i - 1, by omega⟩
      rw [hm, List.range'_succ] at hr
      obtain ⟨rfl, rfl⟩ := List.cons.inj hr
      obtain ⟨ti, hx⟩ := bytesAre_at hb x (by omega)
      have hx2 : vs.toArray.getD x Value.none = Value.bytes (byteArr (kss.getD x [])) ti := by
        simp only [Array.getD_eq_getD_getElem?, List.getElem?_toArray, hx, Option.getD_some]
      have hany : (taken.any fun x => x.1.onHeap) = false := by
        rw [ht, List.any_map, List.any_eq_false]
        intro v hv
        show ¬ v.onHeap = true
        rw [not_heap hb v (List.mem_of_mem_take hv)]
        exact Bool.false_ne_true
      refine wpAny_bind (items_ref hl ?_)
      refine KTBy.if_not (c := (Kind.bytes == Kind.bytearray || (taken.any fun x => x.1.onHeap))) (by rw [hany]; rfl) ?_
      refine wpAny_bind (wpAny_holding ?_)
      rw [hx2, take_by]
      refine wpAny_pure ?_
      refine wpAny_bind (items_ref hl ?_)
      refine KTBy.if_not (c := (vs.toArray.size != vs.toArray.size)) (by rw [bne_self_eq_false]) ?_
      refine wpAny_pure ⟨rfl, x + 1, ?_, hlt, ?_, ?_⟩
      · show List.range' (x + 1) m = List.range' (x + 1) (vs.length - (x + 1))
        rw [show vs.length - (x + 1) = m by omega]
      · show parts.push _ = _
        rw [hp, List.push_toArray, List.take_add_one, List.map_append]
        have e : kss[x]? = some (kss.getD x []) := by
          have h9 : x < kss.length := by omega
          simp [List.getD, h9]
        rw [e]; rfl
      · show taken ++ _ = _
        rw [ht, List.take_add_one, List.map_append, hx]; rfl
end
theorem slot_join : Slot "bytes" "join" "bytes.join" :=
  .of (owner := "bytes") (n := "join") (by rw [typeLookup_type, builtinLookup_eq_fast]; kernel_rfl) (by decide +kernel) (by decide +kernel) (by decide +kernel)
    (by first | exact .inl (by decide +kernel) | exact .inr (by decide +kernel)) (by rw [isSubtype_type]; kernel_rfl)
theorem entry_join : entryFor table "bytes.join" = some Builtin.«bytes.join» := entryFor_of_fast (by kernel_rfl)
theorem args_join (a b : Value) : argsOk "bytes.join" ⟨[a, b], []⟩ := by unfold argsOk; kernel_rfl
theorem join_call {prog : Program} {w : World} {A : Around} {E : Value → Shared → Prop} {s : Shared} {h₀ : Heap} {L l : Addr} {news : List (Addr × Obj)} {vs : List Value} {n : Nat} {kss : List (List Int)} {t : Tok} {Q : Value → Shared → Prop} (N : News h₀ L s.heap news) (hm : (l, listOf vs.toArray n) ∈ news) (hb : BytesAre vs kss) (hz : kss.flatten.length ≤ 100000)
    (h : ∀ t' k, Q (.bytes (byteArr kss.flatten) t') { s with toks := k }) : wpAny (model prog w) A (call (.builtin "bytes.join") [.bytes #[] t, .ref l]) Q E s :=
  wpAny_call_entry slot_join (typeIs_bytes _ _ _) entry_join (join_tree (News.isList N hm) hb hz fun t' k => ⟨_, rfl, h t' k⟩) (args_join _ _)
end Mine

namespace Mine
theorem mv3 {h₀ h : Heap} {L : Addr} {p q r : Addr × Obj} {rest : List (Addr × Obj)} (pre : List (Addr × Obj)) (N : News h₀ L h (pre ++ p :: q :: r :: rest)) : News h₀ L h (p :: q :: r :: (pre ++ rest)) := fun y hy => N y (by
  simp only [List.mem_cons, List.mem_append] at hy ⊢
  rcases hy with h | h | h | h | h
  · exact .inr (.inl h)
  · exact .inr (.inr (.inl h))
  · exact .inr (.inr (.inr (.inl h)))
  · exact .inl h
  · exact .inr (.inr (.inr (.inr h))))
theorem mv3_0 {h₀ h : Heap} {L : Addr} { p q r : Addr × Obj} {rest : List (Addr × Obj)} (N : News h₀ L h (p :: q :: r :: rest)) : News h₀ L h (p :: q :: r :: rest) := mv3 [] N
theorem mv3_1 {h₀ h : Heap} {L : Addr} {a1 p q r : Addr × Obj} {rest : List (Addr × Obj)} (N : News h₀ L h (a1 :: p :: q :: r :: rest)) : News h₀ L h (p :: q :: r :: a1 :: rest) := mv3 [a1] N
theorem mv3_2 {h₀ h : Heap} {L : Addr} {a1 a2 p q r : Addr × Obj} {rest : List (Addr × Obj)} (N : News h₀ L h (a1 :: a2 :: p :: q :: r :: rest)) : News h₀ L h (p :: q :: r :: a1 :: a2 :: rest) := mv3 [a1, a2] N
theorem mv3_3 {h₀ h : Heap} {L : Addr} {a1 a2 a3 p q r : Addr × Obj} {rest : List (Addr × Obj)} (N : News h₀ L h (a1 :: a2 :: a3 :: p :: q :: r :: rest)) : News h₀ L h (p :: q :: r :: a1 :: a2 :: a3 :: rest) := mv3 [a1, a2, a3] N
theorem mv3_4 {h₀ h : Heap} {L : Addr} {a1 a2 a3 a4 p q r : Addr × Obj} {rest : List (Addr × Obj)} (N : News h₀ L h (a1 :: a2 :: a3 :: a4 :: p :: q :: r :: rest)) : News h₀ L h (p :: q :: r :: a1 :: a2 :: a3 :: a4 :: rest) := mv3 [a1, a2, a3, a4] N
theorem mv3_5 {h₀ h : Heap} {L : Addr} {a1 a2 a3 a4 a5 p q r : Addr × Obj} {rest : List (Addr × Obj)} (N : News h₀ L h (a1 :: a2 :: a3 :: a4 :: a5 :: p :: q :: r :: rest)) : News h₀ L h (p :: q :: r :: a1 :: a2 :: a3 :: a4 :: a5 :: rest) := mv3 [a1, a2, a3, a4, a5] N
theorem mv3_6 {h₀ h : Heap} {L : Addr} {a1 a2 a3 a4 a5 a6 p q r : Addr × Obj} {rest : List (Addr × Obj)} (N : News h₀ L h (a1 :: a2 :: a3 :: a4 :: a5 :: a6 :: p :: q :: r :: rest)) : News h₀ L h (p :: q :: r :: a1 :: a2 :: a3 :: a4 :: a5 :: a6 :: rest) := mv3 [a1, a2, a3, a4, a5, a6] N
theorem mv3_7 {h₀ h : Heap} {L : Addr} {a1 a2 a3 a4 a5 a6 a7 p q r : Addr × Obj} {rest : List (Addr × Obj)} (N : News h₀ L h (a1 :: a2 :: a3 :: a4 :: a5 :: a6 :: a7 :: p :: q :: r :: rest)) : News h₀ L h (p :: q :: r :: a1 :: a2 :: a3 :: a4 :: a5 :: a6 :: a7 :: rest) := mv3 [a1, a2, a3, a4, a5, a6, a7] N
theorem mv3_8 {h₀ h : Heap} {L : Addr} {a1 a2 a3 a4 a5 a6 a7 a8 p q r : Addr × Obj} {rest : List (Addr × Obj)} (N : News h₀ L h (a1 :: a2 :: a3 :: a4 :: a5 :: a6 :: a7 :: a8 :: p :: q :: r :: rest)) : News h₀ L h (p :: q :: r :: a1 :: a2 :: a3 :: a4 :: a5 :: a6 :: a7 :: a8 :: rest) := mv3 [a1, a2, a3, a4, a5, a6, a7, a8] N
theorem mv3_9 {h₀ h : Heap} {L : Addr} {a1 a2 a3 a4 a5 a6 a7 a8 a9 p q r : Addr × Obj} {rest : List (Addr × Obj)} (N : News h₀ L h (a1 :: a2 :: a3 :: a4 :: a5 :: a6 :: a7 :: a8 :: a9 :: p :: q :: r :: rest)) : News h₀ L h (p :: q :: r :: a1 :: a2 :: a3 :: a4 :: a5 :: a6 :: a7 :: a8 :: a9 :: rest) := mv3 [a1, a2, a3, a4, a5, a6, a7, a8, a9] N
theorem mv3_10 {h₀ h : Heap} {L : Addr} {a1 a2 a3 a4 a5 a6 a7 a8 a9 a10 p q r : Addr × Obj} {rest : List (Addr × Obj)} (N : News h₀ L h (a1 :: a2 :: a3 :: a4 :: a5 :: a6 :: a7 :: a8 :: a9 :: a10 :: p :: q :: r :: rest)) : News h₀ L h (p :: q :: r :: a1 :: a2 :: a3 :: a4 :: a5 :: a6 :: a7 :: a8 :: a9 :: a10 :: rest) := mv3 [a1, a2, a3, a4, a5, a6, a7, a8, a9, a10] N
theorem off_t0  {r : List (Addr × Obj)} {l : List Addr} (h : OwnOff (r) l) : OwnOff r l := fun p hp => h p (hp)
theorem off_t1 {a1 : Addr × Obj} {r : List (Addr × Obj)} {l : List Addr} (h : OwnOff (a1 :: r) l) : OwnOff r l := fun p hp => h p (.tail _ (hp))
theorem off_t2 {a1 a2 : Addr × Obj} {r : List (Addr × Obj)} {l : List Addr} (h : OwnOff (a1 :: a2 :: r) l) : OwnOff r l := fun p hp => h p (.tail _ (.tail _ (hp)))
theorem off_t3 {a1 a2 a3 : Addr × Obj} {r : List (Addr × Obj)} {l : List Addr} (h : OwnOff (a1 :: a2 :: a3 :: r) l) : OwnOff r l := fun p hp => h p (.tail _ (.tail _ (.tail _ (hp))))
theorem off_cons3 {a x d b : Addr} {o : Obj} {r : List (Addr × Obj)} (h : @Ne Nat a x ∧ @Ne Nat a d ∧ @Ne Nat a b) (hr : OwnOff r [x, d, b]) : OwnOff ((a, o) :: r) [x, d, b] := fun p hp y hy => by
  rcases List.mem_cons.mp hp with rfl | hp
  · simp only [List.mem_cons, List.not_mem_nil, or_false] at hy
    rcases hy with rfl | rfl | rfl
    · exact h.1
    · exact h.2.1
    · exact h.2.2
  · exact hr p hp y hy
theorem oct_of {os : List Int} (h : ∀ o ∈ os, 0 ≤ o ∧ o ≤ 255) : Oct os := fun o ho => by have := h o ho; omega
theorem news_mem {h₀ h : Heap} {L : Addr} {p : Addr × Obj} {all : List (Addr × Obj)} (N : News h₀ L h all) (hm : p ∈ all) : News h₀ L h (p :: all) := fun y hy => by
  rcases List.mem_cons.mp hy with rfl | hy
  · exact N _ hm
  · exact N y hy
theorem enc_lst {item : List Int} (h : Oct item) : Enc (lst item) (numOf item) := enc_least h
theorem lst_len {item : List Int} {k : Nat} (h : item.length ≤ k) : (lst item).length ≤ k := by unfold lst; rw [List.length_take]; omega
section
variable (w : World) (mean : ExcName → Option Value) (mg mb : Str → Option Value) (rest : List (Addr × Obj)) (x d b : Addr) (os : List Int) (pos : Int) (t1 t2 t3 : Tok)
   (ho : Oct os) (h0 : 0 ≤ pos) (h2 : os.length < 100000) (hxd : LT.lt (α := Nat) d x) (hdb : LT.lt (α := Nat) x b) (hoff : OwnOff rest [x, d, b])
include ho h0 h2 hxd hdb hoff
theorem longI_ (item : List Int) (hA : ItemAt os pos item) (hp : pos + 1 + (item.length : Int) ≤ (os.length : Int)) (hl : item.length ≤ 255) :
   Con0 w mean mg mb 2 641 ((x, instObj 343 d) :: (d, dictOf (bioD w.params b pos t1 t2 t3) 2) :: (b, baObj (byteArr os)) :: rest) [.ref x] (resR w.params rest x d b os (pos + 1 + (item.length : Int)) t1 t2 "told" (fun t => .int (numOf item) t)) := by
  have h := longA_ w mean mg mb rest x d b os pos t1 t2 t3 ho h0 h2 hxd hdb hoff (item.length : Int) hA.get (by omega) (by omega) hp
  rw [hA.sub, signed_num] at h
  exact h
theorem plainI_ (item : List Int) (hA : ItemAt os pos item) (hp : pos + 1 + (item.length : Int) ≤ (os.length : Int)) (hl : item.length ≤ 255) :
   Con0 w mean mg mb 2 648 ((x, instObj 343 d) :: (d, dictOf (bioD w.params b pos t1 t2 t3) 2) :: (b, baObj (byteArr os)) :: rest) [.ref x] (resR w.params rest x d b os (pos + 1 + (item.length : Int)) t1 t2 "told" (fun t => .bytes (byteArr item) t)) := by
  have h := plainA_ w mean mg mb rest x d b os pos t1 t2 t3 ho h0 h2 hxd hdb hoff (item.length : Int) hA.get (by omega) (by omega) hp
  rw [hA.sub] at h
  exact h
end
theorem leastI_ (w : World) (mean : ExcName → Option Value) (mg mb : Str → Option Value) (rest : List (Addr × Obj)) (ia : Addr) (js : List Value) (os : List Int) (n : Nat) (hi : IntsAre js os) (hok : ∀ o ∈ os, 0 ≤ o ∧ o ≤ 255) (hlen : os.length ≤ 255) :
   Con w mean mg mb 2 634 ((ia, listOf js.toArray n) :: rest) [.ref ia] (fun v n' => (∃ t, v = .bytes (byteArr (lst os)) t) ∧ n' = (ia, listOf js.toArray n) :: rest) := least_ w mean mg mb rest ia js os n hi hok hlen
end Mine
local macro_rules | `(tactic| walk_at "c_mv3") => `(tactic| ((rename News _ _ _ _ => N9); first | exact Mine.mv3_0 N9 | exact Mine.mv3_1 N9 | exact Mine.mv3_2 N9 | exact Mine.mv3_3 N9 | exact Mine.mv3_4 N9 | exact Mine.mv3_5 N9 | exact Mine.mv3_6 N9 | exact Mine.mv3_7 N9 | exact Mine.mv3_8 N9 | exact Mine.mv3_9 N9 | exact Mine.mv3_10 N9 | exact N9))
local macro_rules | `(tactic| walk_at "c_off3") => `(tactic| (repeat' (first | exact Mine.off_t0 (by assumption) | exact Mine.off_t1 (by assumption) | exact Mine.off_t2 (by assumption) | exact Mine.off_t3 (by assumption) | (refine Mine.off_cons3 ⟨by omega, by omega, by omega⟩ ?_))))
local macro_rules | `(tactic| walk_at "c_mem") => `(tactic| (repeat' (first | assumption | apply List.mem_cons_of_mem)))
local macro_rules | `(tactic| walk_at "c_strm") => `(tactic| ((walk_at "c1"); (case N => walk_at "c_mv3"); (case ho => exact Mine.oct_of (by assumption)); (case h0 => omega); (case h2 => omega); (case hx => omega); (case hb => omega); (case hf => walk_at "c_off3"); (case XB => k_in); (case TB => k_asm); (walk_at "c2"); (walk_at "c3")))
local macro_rules | `(tactic| walk_at "c_res") => `(tactic| (k_whole; intro v' n' h' tk' hR' F' N'; obtain ⟨l', ta', tb', t', hv', l1', l2', l3', l4', hn'⟩ := hR'; subst hv'; subst hn'; (try dsimp only at N'); (try simp only [AllLt] at l4')))
local macro_rules | `(tactic| walk_at "call ref") => `(tactic| (k_here; (with_reducible show wpAny _ _ (call (Value.ref 641) [Value.ref _]) _ _ _); k_dflt (refine' Mine.longI_ _ _ _ _ _ _ _ _ _ _ _ _ _ ?ho ?h0 ?h2 ?hx ?hb ?hf _ ?hA ?hp ?hl _ _ _ _ _ _ _ _ _ _ _ _ _ _ _ ?XB ?TB ?X ?B ?F ?N ?T ?hk ?hd ?hu ?_; (case hA => assumption); (case hp => assumption); (case hl => assumption); (walk_at "c_strm")); walk_at "c_res"))
local macro_rules | `(tactic| walk_at "call ref") => `(tactic| (k_here; (with_reducible show wpAny _ _ (call (Value.ref 648) [Value.ref _]) _ _ _); k_dflt (refine' Mine.plainI_ _ _ _ _ _ _ _ _ _ _ _ _ _ ?ho ?h0 ?h2 ?hx ?hb ?hf _ ?hA ?hp ?hl _ _ _ _ _ _ _ _ _ _ _ _ _ _ _ ?XB ?TB ?X ?B ?F ?N ?T ?hk ?hd ?hu ?_; (case hA => assumption); (case hp => assumption); (case hl => assumption); (walk_at "c_strm")); walk_at "c_res"))
local macro_rules | `(tactic| walk_at "call ref") => `(tactic| (k_here; (with_reducible show wpAny _ _ (call (Prod.fst (Value.ref 243, _)) _) _ _ _); k_dflt ((show wpAny _ _ (call (Value.ref 243) [Value.ref _]) _ _ _); refine' Mine.tell_ _ _ _ _ _ _ _ _ _ _ _ _ _ ?h0 ?h1 _ _ _ _ _ _ _ _ _ _ _ _ _ _ _ _ _ ?X ?B ?F ?N ?T ?hk ?hd ?hu ?_; (walk_at "c1"); (case N => walk_at "c_mv3"); (case h0 => omega); (case h1 => omega); (walk_at "c2"); (walk_at "c3")); k_whole; intro v' n' h' tk' hR' F' N'; obtain ⟨⟨t', hv'⟩, hn'⟩ := hR'; subst hv'; subst hn'))
local macro_rules | `(tactic| walk_at "call ref") => `(tactic| (k_here; (with_reducible show wpAny _ _ (call (Value.ref 627) [Value.ref _]) _ _ _); k_dflt ((rename News _ _ _ _ => N9); refine' Mine.number_ _ _ _ _ _ _ _ _ _ ?hi _ _ _ _ _ _ _ _ _ _ _ _ _ _ _ _ _ ?X ?B ?F (Mine.news_mem N9 ?N) ?T ?hk ?hd ?hu ?_; (walk_at "c1"); (case N => walk_at "c_mem"); (case hi => assumption); (walk_at "c2"); (walk_at "c3")); k_whole; intro v' n' h' tk' hR' F' N'; obtain ⟨⟨t', hv'⟩, hn'⟩ := hR'; subst hv'; subst hn'; replace N' := Mine.drop1 N'))
local macro_rules | `(tactic| walk_at "call ref") => `(tactic| (k_here; (with_reducible show wpAny _ _ (call (Value.ref 634) [Value.ref _]) _ _ _); k_dflt ((rename News _ _ _ _ => N9); refine' Mine.leastI_ _ _ _ _ _ _ _ _ _ ?hi ?hok ?hle _ _ _ _ _ _ _ _ _ _ _ _ _ _ _ _ _ ?X ?B ?F (Mine.news_mem N9 ?N) ?T ?hk ?hd ?hu ?_; (walk_at "c1"); (case N => walk_at "c_mem"); (case hi => assumption); (case hok => assumption); (case hle => assumption); (walk_at "c2"); (walk_at "c3")); k_whole; intro v' n' h' tk' hR' F' N'; obtain ⟨⟨t', hv'⟩, hn'⟩ := hR'; subst hv'; subst hn'; replace N' := Mine.drop1 N'))
local macro_rules | `(tactic| walk_at "call ref") => `(tactic| (k_here; (with_reducible show wpAny _ _ (call (Value.ref 606) [Value.int (Mine.numOf _) _]) _ _ _); k_dflt (refine' Mine.encodeK_ _ _ _ _ _ _ _ _ (Mine.enc_lst ?he) ?hl _ _ _ _ _ _ _ _ _ _ _ _ _ _ _ _ _ ?X ?B ?F ?N ?T ?hk ?hd ?hu ?_; (walk_at "c1"); (case N => k_asm); (case he => exact Mine.oct_of (by assumption)); (case hl => exact Mine.lst_len (by assumption)); (walk_at "c2"); (walk_at "c3")); k_whole; intro v' n' h' tk' hR' F' N'; obtain ⟨⟨t', hv'⟩, hn'⟩ := hR'; subst hv'; subst hn'))
local macro_rules | `(tactic| walk_at "pyIter ref") => `(tactic| (k_here; k_of "item" => ((rename Fr _ _ _ _ => lF'); (rename News _ _ _ _ => lN'); k_dflt (refine' Mine.item_loop ?hh lF' lN' ?hi ?hok ?hs ?e1 ?e2 ?e3 ?e4 ?_ ?_; (case hh => first | rfl | assumption); (case hi => assumption); (case hok => assumption); (case hs => assumption); (case e1 => first | exact (by assumption : _ ∧ _ ∧ AllLt _ _).2.2 | exact (by assumption : _ ∧ _ ∧ _ ∧ _ ∧ _ ∧ AllLt _ _).2.2.2.2.2); (case e2 => first | exact (by assumption : _ ∧ _ ∧ AllLt _ _).2.2 | exact (by assumption : _ ∧ _ ∧ _ ∧ _ ∧ _ ∧ AllLt _ _).2.2.2.2.2); (case e3 => first | exact (by assumption : _ ∧ _ ∧ _ ∧ _ ∧ _ ∧ _ ∧ _ ∧ _ ∧ AllLt _ _).2.2.2.2.2.2.2.2 | exact (by assumption : _ ∧ _ ∧ _ ∧ _ ∧ _ ∧ _ ∧ _ ∧ _ ∧ _ ∧ AllLt _ _).2.2.2.2.2.2.2.2.2); (case e4 => first | exact (by assumption : _ ∧ _ ∧ _ ∧ _ ∧ _ ∧ _ ∧ _ ∧ _ ∧ _ ∧ AllLt _ _).2.2.2.2.2.2.2.2.2 | exact (by assumption : _ ∧ _ ∧ _ ∧ _ ∧ _ ∧ _ ∧ _ ∧ _ ∧ AllLt _ _).2.2.2.2.2.2.2.2); (clear lF' lN'); k_whole; (try dsimp only); intros))))

local macro_rules | `(tactic| walk_at "exec For Name Name cons nil") => `(tactic| (k_here; (rename Fr _ _ _ _ => lF'); (with_unfolding_all refine' For_invVF lF' ?k1 ?k2 ?_; (case k1 => exact rfl); (case k2 => exact rfl); k_whole)))
local macro_rules | `(tactic| walk_at "exec For Name Call cons nil") => `(tactic| (k_here; (rename Fr _ _ _ _ => lF'); (with_unfolding_all refine' For_invVF lF' ?k1 ?k2 ?_; (case k1 => exact rfl); (case k2 => exact rfl); k_whole)))

namespace Mine
open PySem.TypeEq
theorem slot_type_ne : Slot "type" (cmpInfo .NotEq).2.1 "object.__ne__" :=
  .of (owner := "object") (n := "__ne__") (by rw [typeLookup_type, builtinLookup_eq_fast]; kernel_rfl) (by decide +kernel) (by decide +kernel) (by decide +kernel)
    (by first | exact .inl (by decide +kernel) | exact .inr (by decide +kernel)) (by rw [isSubtype_type]; kernel_rfl)
theorem ne_type_same {prog : Program} {w : World} {A : Around} {E : Value → Shared → Prop} {s : Shared} {Q : Value → Shared → Prop} {X : String} (hX : ∀ s' : Shared, s'.TypeIs (.type X) "type") (h : Q (.bool false) s) : wpAny (model prog w) A (compareOp .NotEq (.type X) (.type X)) Q E s := by
  show wpAny _ A (richCompare .NotEq _ _) Q E s
  refine wpAny_richCompare_same (T := "type") (hX s) (hX s) slot_type_ne (wpAny_call_entry slot_type_ne (hX s) F.cmpEntry_ne ?_ (F.cmpArgs_ne _ _))
  unfold Builtin.«object.__ne__»
  refine wpAny_bind (wpAny_of_eq (a := (Value.type X, [Value.type X])) rfl ?_)
  refine wpAny_bind (wpAny_cRoomFor_or (.inl rfl) ?_)
  refine wpAny_bind (wpAny_callSpecialIfBound?_slot (hX s) slot_type_eq (call_gives slot_type_eq (hX s) F.entry_object_eq (F.args_object_eq_2 _ _) (object_eq_same rfl (by simp)) ?_))
  show wpAny _ _ (truthy (.bool true) >>= fun b => _) _ _ s
  refine wpAny_bind (wpAny_of_eq (a := true) rfl ?_)
  exact wpAny_pure ⟨_, rfl, (by intro e; cases e), h⟩
theorem ne_int {prog : Program} {w : World} {A : Around} {E : Value → Shared → Prop} {s : Shared} {Q : Value → Shared → Prop} (h : Q (.bool false) s) : wpAny (model prog w) A (compareOp .NotEq (.type "int") (.type "int")) Q E s := ne_type_same (X := "int") (fun s' => PySem.TypeEq.meta_int s') h
theorem ne_bytes {prog : Program} {w : World} {A : Around} {E : Value → Shared → Prop} {s : Shared} {Q : Value → Shared → Prop} (h : Q (.bool false) s) : wpAny (model prog w) A (compareOp .NotEq (.type "bytes") (.type "bytes")) Q E s := ne_type_same (X := "bytes") (fun s' => PySem.TypeEq.meta_bytes s') h
theorem ne_list2 {prog : Program} {w : World} {A : Around} {E : Value → Shared → Prop} {s : Shared} {h₀ : Heap} {L a c : Addr} {news : List (Addr × Obj)} {x : Str} {b : Array UInt8} {t1 t2 t3 t4 : Tok} {n k : Nat} {Q : Value → Shared → Prop} (N : News h₀ L s.heap news)
    (ma : (a, listOf #[.str x t1, .bytes b t2] n) ∈ news) (mc : (c, listOf #[.str x t3, .bytes b t4] k) ∈ news) (hu : A.units < cLine) (h : Q (.bool false) s) : wpAny (model prog w) A (compareOp .NotEq (.ref a) (.ref c)) Q E s := by
  have h1 : s.heap.IsList a #[.str x t1, .bytes b t2] := News.isList N ma
  have h2 : s.heap.IsList c #[.str x t3, .bytes b t4] := News.isList N mc
  refine SeqAt.RcNeAt.lists (e := fun _ => true) h1 h2 rfl hu (fun j j1 j2 => ?_) prog w E Q h
  have hj : j < 2 := j1
  obtain rfl | rfl : j = 0 ∨ j = 1 := by omega
  · exact fun prog w E Q hq => eqBool_str (by rw [beq_self_eq_true]; exact hq)
  · exact fun prog w E Q hq => eqBool_bytes (by rw [decide_eq_true rfl]; exact hq)
theorem ne_ints {prog : Program} {w : World} {A : Around} {E : Value → Shared → Prop} {s : Shared} {a b : Int} {t u : Tok} {Q : Value → Shared → Prop} (e : a = b) (h : Q (.bool false) s) : wpAny (model prog w) A (compareOp .NotEq (.int a t) (.int b u)) Q E s :=
  PyProof.Rows.ne_int (by rw [e, bne_self_eq_false]; exact h)
theorem ne_bys {prog : Program} {w : World} {A : Around} {E : Value → Shared → Prop} {s : Shared} {a b : Array UInt8} {t u : Tok} {Q : Value → Shared → Prop} (e : a = b) (h : Q (.bool false) s) : wpAny (model prog w) A (compareOp .NotEq (.bytes a t) (.bytes b u)) Q E s :=
  PySem.W.ne_bytes (by rw [e, bne_self_eq_false]; exact h)
end Mine
local macro_rules | `(tactic| walk_at "compareOp NotEq type:int type:int") => `(tactic| (refine Mine.ne_int ?_))
local macro_rules | `(tactic| walk_at "compareOp NotEq") => `(tactic| first | (refine Mine.ne_int ?_) | (refine Mine.ne_bytes ?_))
local macro_rules | `(tactic| walk_at "compareOp NotEq ref ref") => `(tactic| (k_here; (with_reducible show wpAny _ _ (compareOp CmpOp.NotEq (Value.ref _) (Value.ref _)) _ _ _); k_dflt (refine' Mine.ne_list2 ?N ?a ?b ?u ?_; (case N => k_asm); (case a => k_mem); (case b => k_mem); (case u => first | units_room | ktr_units | exact Nat.le_of_ble_eq_true rfl); k_whole)))
local macro_rules | `(tactic| walk_at "compareOp NotEq int int") => `(tactic| (k_here; refine' Mine.ne_ints ?e ?_; (case e => first | rfl | omega)))
local macro_rules | `(tactic| walk_at "compareOp NotEq bytes bytes") => `(tactic| (k_here; refine' Mine.ne_bys ?e ?_; (case e => rfl)))

namespace Mine
theorem mv1 {h₀ h : Heap} {L : Addr} {p : Addr × Obj} {rest : List (Addr × Obj)} (pre : List (Addr × Obj)) (N : News h₀ L h (pre ++ p :: rest)) : News h₀ L h (p :: (pre ++ rest)) := fun y hy => N y (by
  simp only [List.mem_cons, List.mem_append] at hy ⊢
  rcases hy with h | h | h
  · exact .inr (.inl h)
  · exact .inl h
  · exact .inr (.inr h))
theorem mv1_12 {h₀ h : Heap} {L : Addr} {a1 a2 a3 a4 a5 a6 a7 a8 a9 a10 a11 a12 p : Addr × Obj} {rest : List (Addr × Obj)} (N : News h₀ L h (a1 :: a2 :: a3 :: a4 :: a5 :: a6 :: a7 :: a8 :: a9 :: a10 :: a11 :: a12 :: p :: rest)) : News h₀ L h (p :: a1 :: a2 :: a3 :: a4 :: a5 :: a6 :: a7 :: a8 :: a9 :: a10 :: a11 :: a12 :: rest) := mv1 [a1, a2, a3, a4, a5, a6, a7, a8, a9, a10, a11, a12] N
theorem mv1_13 {h₀ h : Heap} {L : Addr} {a1 a2 a3 a4 a5 a6 a7 a8 a9 a10 a11 a12 a13 p : Addr × Obj} {rest : List (Addr × Obj)} (N : News h₀ L h (a1 :: a2 :: a3 :: a4 :: a5 :: a6 :: a7 :: a8 :: a9 :: a10 :: a11 :: a12 :: a13 :: p :: rest)) : News h₀ L h (p :: a1 :: a2 :: a3 :: a4 :: a5 :: a6 :: a7 :: a8 :: a9 :: a10 :: a11 :: a12 :: a13 :: rest) := mv1 [a1, a2, a3, a4, a5, a6, a7, a8, a9, a10, a11, a12, a13] N
theorem mv1_14 {h₀ h : Heap} {L : Addr} {a1 a2 a3 a4 a5 a6 a7 a8 a9 a10 a11 a12 a13 a14 p : Addr × Obj} {rest : List (Addr × Obj)} (N : News h₀ L h (a1 :: a2 :: a3 :: a4 :: a5 :: a6 :: a7 :: a8 :: a9 :: a10 :: a11 :: a12 :: a13 :: a14 :: p :: rest)) : News h₀ L h (p :: a1 :: a2 :: a3 :: a4 :: a5 :: a6 :: a7 :: a8 :: a9 :: a10 :: a11 :: a12 :: a13 :: a14 :: rest) := mv1 [a1, a2, a3, a4, a5, a6, a7, a8, a9, a10, a11, a12, a13, a14] N
theorem mv1_15 {h₀ h : Heap} {L : Addr} {a1 a2 a3 a4 a5 a6 a7 a8 a9 a10 a11 a12 a13 a14 a15 p : Addr × Obj} {rest : List (Addr × Obj)} (N : News h₀ L h (a1 :: a2 :: a3 :: a4 :: a5 :: a6 :: a7 :: a8 :: a9 :: a10 :: a11 :: a12 :: a13 :: a14 :: a15 :: p :: rest)) : News h₀ L h (p :: a1 :: a2 :: a3 :: a4 :: a5 :: a6 :: a7 :: a8 :: a9 :: a10 :: a11 :: a12 :: a13 :: a14 :: a15 :: rest) := mv1 [a1, a2, a3, a4, a5, a6, a7, a8, a9, a10, a11, a12, a13, a14, a15] N
theorem off_cons1 {a x : Addr} {o : Obj} {r : List (Addr × Obj)} (h : @Ne Nat a x) (hr : ∀ p ∈ r, p.1 ≠ x) : ∀ p ∈ (a, o) :: r, p.1 ≠ x := fun p hp => by
  rcases List.mem_cons.mp hp with rfl | hp
  · exact h
  · exact hr p hp
theorem off_end1 {a b : Addr} {r : List (Addr × Obj)} (h : OwnOff r [a, b]) : ∀ p ∈ r, p.1 ≠ a := fun p hp => h p hp _ (.head _)
theorem off_end2 {a b : Addr} {r : List (Addr × Obj)} (h : OwnOff r [a, b]) : ∀ p ∈ r, p.1 ≠ b := fun p hp => h p hp _ (.tail _ (.head _))
theorem append_own {prog : Program} {w : World} {A : Around} {E : Value → Shared → Prop} {Q : Value → Shared → Prop} {s : Shared} {h₀ : Heap} {L D : Addr} {m : Str → Option Value} {vs : List Value} {n : Nat} {x : Value} {rest : List (Addr × Obj)} (F : Fr h₀ L s.heap m) (N : News h₀ L s.heap ((D, listOf vs.toArray n) :: rest)) (off : ∀ p ∈ rest, p.1 ≠ D) (hz : vs.length ≤ 100000)
    (h : ∀ h', Fr h₀ L h' m → News h₀ L h' ((D, listOf (vs ++ [x]).toArray (n + 1)) :: rest) → Q .none { s with heap := h' }) : wpAny (model prog w) A (call (.builtin "list.append") [.ref D, x]) Q E s := by
  refine append_K F N (Upd.head off) (fun h' F' N' => h h' F' ?_) (by rw [List.size_toArray, sizeLine_eq]; omega)
  rwa [List.push_toArray] at N'
theorem byteArr_app (a b : List Int) : byteArr a ++ byteArr b = byteArr (a ++ b) := by unfold byteArr; simp
theorem len_by {prog : Program} {w : World} {A : Around} {E : Value → Shared → Prop} {Q : Value → Shared → Prop} {s : Shared} {ks : List Int} {t : Tok} (hk : ks.length ≤ 100000) (h : ∀ t' k', Q (.int (ks.length : Int) t') { s with toks := k' }) : wpAny (model prog w) A (call (.builtin "len") [.bytes (byteArr ks) t]) Q E s := by
  refine W.len_bytes (by rw [byteArr_size]; omega) ?_
  rw [byteArr_size]
  exact h _ _
theorem add_by {prog : Program} {w : World} {A : Around} {E : Value → Shared → Prop} {Q : Value → Shared → Prop} {s : Shared} {a b : List Int} {t u : Tok} (ha : a.length ≤ 100000) (hb : b.length ≤ 100000) (h : ∀ t' k, Q (.bytes (byteArr (a ++ b)) t') { s with toks := k }) : wpAny (model prog w) A (binaryOp .Add (.bytes (byteArr a) t) (.bytes (byteArr b) u)) Q E s := by
  refine KBy.add_bytes (by rw [byteArr_size, byteArr_size]; omega) fun t' k => ?_
  rw [byteArr_app]
  exact h t' k
theorem one_by {prog : Program} {w : World} {A : Around} {E : Value → Shared → Prop} {Q : Value → Shared → Prop} {s : Shared} {h₀ : Heap} {L D : Addr} {m : Str → Option Value} {news : List (Addr × Obj)} {n : Int} {t : Tok} {c : Nat} (F : Fr h₀ L s.heap m) (N : News h₀ L s.heap news) (hh : A.handled = none) (hm : (D, listOf #[.int n t] c) ∈ news) (h0 : 0 ≤ n) (h1 : n < 256)
    (h : ∀ h' t' k, Fr h₀ L h' m → News h₀ L h' news → Q (.bytes (byteArr [n]) t') { s with heap := h', toks := k }) : wpAny (model prog w) A (call (.type "bytes") [.ref D]) Q E s :=
  KBa.make_K F N hh (vs := [.int n t]) (ns := [n]) (News.isList N hm) (.cons _ _ .nil) (fun o ho => by rw [List.mem_singleton.mp ho]; exact ⟨h0, h1⟩) (by simp) fun h' t' k F' N' _ => h h' t' k F' N'
theorem lawFrm_off {m₀ u : Str → Option Value} {pos : Int} {t : Tok} {z : Str} (h1 : z ≠ Str.ofString "at") (h2 : lawStored.contains z = false) : lawFrm m₀ pos t u z = m₀ z := by
  show (if z = Str.ofString "at" then _ else if lawStored.contains z = true then _ else _) = _
  rw [if_neg h1, if_neg (by rw [h2]; exact Bool.false_ne_true)]
theorem lst_le {item : List Int} (h : item.length ≤ 255) : (lst item).length ≤ 255 := lst_len h
theorem wr_eq (item : List Int) : [((lst item).length : Int)] ++ lst item = wr item := rfl
end Mine
local macro_rules | `(tactic| walk_at "c_mv1") => `(tactic| ((rename News _ _ _ _ => N9); first | exact Mine.mv1_13 N9 | exact Mine.mv1_12 N9 | exact Mine.mv1_13 N9 | exact Mine.mv1_14 N9 | exact Mine.mv1_15 N9))
local macro_rules | `(tactic| walk_at "c_off1") => `(tactic| (repeat' (first | exact Mine.off_end1 (by assumption) | exact Mine.off_end2 (by assumption) | (refine Mine.off_cons1 (by omega) ?_))))
local macro_rules | `(tactic| walk_at "call builtin:list.append") => `(tactic| (k_here; (with_reducible show wpAny _ _ (call (Value.builtin _) _) _ _ _); k_dflt ((show wpAny _ _ (call (Value.builtin "list.append") [Value.ref _, _]) _ _ _); refine' Mine.append_own ?F ?N ?o ?z ?_; (case F => k_asm); (case N => walk_at "c_mv1"); (case z => omega); (case o => walk_at "c_off1")); k_whole; intro h' F' N'))
local macro_rules | `(tactic| walk_at "call builtin:len") => `(tactic| (k_here; (with_reducible show wpAny _ _ (call (Value.builtin "len") [Value.bytes (byteArr _) _]) _ _ _); k_dflt (refine' Mine.len_by ?z ?_; (case z => first | omega | exact Nat.le_trans (Mine.lst_len (by assumption)) (by decide))); intro _ _))
local macro_rules | `(tactic| walk_at "call type:bytes") => `(tactic| (k_here; (with_reducible show wpAny _ _ (call (Value.type "bytes") [Value.ref _]) _ _ _); k_dflt (refine' Mine.one_by ?F ?N ?h ?m ?a ?b ?_; (case F => k_asm); (case N => k_asm); (case h => rfl); (case m => k_mem); (case a => omega); (case b => first | omega | exact Int.lt_of_le_of_lt (Int.ofNat_le.mpr (Mine.lst_len (by assumption))) (by decide)); k_whole); intro _ _ _ _ _))
local macro_rules | `(tactic| walk_at "binaryOp Add bytes bytes") => `(tactic| (k_here; (with_reducible show wpAny _ _ (binaryOp Operator.Add (Value.bytes (byteArr _) _) (Value.bytes (byteArr _) _)) _ _ _); k_dflt (refine' Mine.add_by ?a ?b ?_; (case a => first | (simp only [List.length_cons, List.length_nil]; omega) | exact Nat.le_trans (Mine.lst_len (by assumption)) (by decide)); (case b => first | omega | exact Nat.le_trans (Mine.lst_len (by assumption)) (by decide))); intro _ _))
local macro_rules | `(tactic| walk_at "c_in") => `(tactic| first | exact List.mem_cons_self | (refine List.mem_cons_of_mem _ ?_; walk_at "c_in"))
local macro_rules | `(tactic| walk_at "LawPost") => `(tactic| ((rename News _ _ _ _ => N9); k_dflt (refine' Mine.LawPost.intro (by assumption) N9 ?sub ?hat ?same (Mine.LSt.snoc (by assumption) ?hx ?hk); (case sub => ((iterate 9 (refine List.forall_mem_cons.mpr ⟨by walk_at "c_in", ?_⟩)); (intro q hq; repeat (first | exact hq | refine List.mem_cons_of_mem _ ?_)))); (case hat => rfl); (case hx => rfl); (case hk => rfl); (case same => (intro z h1 h2; (have h3 := h2); (simp only [Mine.lawStored, List.contains_cons, List.contains_nil, Bool.or_false, Bool.or_eq_false_iff, beq_eq_false_iff_ne, ne_eq] at h3); simp [h1, h3]; exact Mine.lawFrm_off h1 h2)))))

namespace Mine
theorem rest_facts {os r : List Int} {iss : List (List Int)} {pos : Int} {nvs wvs : List Value} (hs : SplitBy os iss r) (hl : LSt iss pos nvs wvs) (hok : ∀ o ∈ os, 0 ≤ o ∧ o ≤ 255) :
    pos = (os.length : Int) ∨ (pos < (os.length : Int) ∧ 0 ≤ os.getD pos.toNat 0 ∧ os.getD pos.toNat 0 ≤ 255 ∧ (os.length : Int) < pos + 1 + os.getD pos.toNat 0) := by
  have hp := hl.pos
  have e := hs.eq
  rcases hs.rest with rfl | ⟨c, r', rfl, hc⟩
  · left
    have := congrArg List.length e
    rw [List.append_nil] at this
    omega
  · right
    have hlen := congrArg List.length e
    rw [List.length_append, List.length_cons] at hlen
    have hd : os.getD pos.toNat 0 = c := by
      have h1 : pos.toNat = (cat iss).length := by omega
      rw [h1, e]
      simp [List.getD]
    have hin : c ∈ os := by rw [e]; simp
    have := hok c hin
    rw [hd]
    omega
theorem pos0 {iss : List (List Int)} {pos : Int} {nvs wvs : List Value} (hl : LSt iss pos nvs wvs) : 0 ≤ pos := by have := hl.pos; omega
section
variable (w : World) (mean : ExcName → Option Value) (mg mb : Str → Option Value) (rest : List (Addr × Obj)) (x d b : Addr) (os : List Int) (pos : Int) (t1 t2 t3 : Tok)
   (ho : Oct os) (h0 : 0 ≤ pos) (h2 : os.length < 100000) (hxd : LT.lt (α := Nat) d x) (hdb : LT.lt (α := Nat) x b) (hoff : OwnOff rest [x, d, b])
include ho h0 h2 hxd hdb hoff
theorem longE_ (hn : pos < (os.length : Int)) (hq : (os.length : Int) < pos + 1 + os.getD pos.toNat 0) :
   Con0 w mean mg mb 2 641 ((x, instObj 343 d) :: (d, dictOf (bioD w.params b pos t1 t2 t3) 2) :: (b, baObj (byteArr os)) :: rest) [.ref x] (resR w.params rest x d b os os.length t1 t2 "refused" (fun t => .str "not enough data in stream to read long1" t)) := by
  have hl : pos.toNat < os.length := by omega
  have hg : os[pos.toNat]? = some (os.getD pos.toNat 0) := by simp [List.getD, hl]
  have hd := octD ho hl
  exact longB_ w mean mg mb rest x d b os pos t1 t2 t3 ho h0 h2 hxd hdb hoff _ hg hd.1 hd.2 (by omega) hq
theorem plainE_ (hn : pos < (os.length : Int)) (hq : (os.length : Int) < pos + 1 + os.getD pos.toNat 0) :
   Con0 w mean mg mb 2 648 ((x, instObj 343 d) :: (d, dictOf (bioD w.params b pos t1 t2 t3) 2) :: (b, baObj (byteArr os)) :: rest) [.ref x] (resR w.params rest x d b os os.length t1 t2 "refused" (fun t => .str (plainMsg (os.getD pos.toNat 0) ((os.length : Int) - pos - 1)) t)) := by
  have hl : pos.toNat < os.length := by omega
  have hg : os[pos.toNat]? = some (os.getD pos.toNat 0) := by simp [List.getD, hl]
  have hd := octD ho hl
  have h := plainB_ w mean mg mb rest x d b os pos t1 t2 t3 ho h0 h2 hxd hdb hoff _ hg hd.1 hd.2 (by omega) hq
  have e : ((os.drop (pos + 1).toNat).length : Int) = (os.length : Int) - pos - 1 := by rw [List.length_drop]; omega
  rw [e] at h
  exact h
theorem longJ_ (item : List Int) (hA : ItemAt os pos (lst item)) (hq : numOf (lst item) = numOf item) (hp : pos + 1 + ((lst item).length : Int) ≤ (os.length : Int)) (hl : (lst item).length ≤ 255) :
   Con0 w mean mg mb 2 641 ((x, instObj 343 d) :: (d, dictOf (bioD w.params b pos t1 t2 t3) 2) :: (b, baObj (byteArr os)) :: rest) [.ref x] (resR w.params rest x d b os (pos + 1 + ((lst item).length : Int)) t1 t2 "told" (fun t => .int (numOf item) t)) := by
  have h := longI_ w mean mg mb rest x d b os pos t1 t2 t3 ho h0 h2 hxd hdb hoff (lst item) hA hp hl
  rw [hq] at h
  exact h
end
theorem readE_ (w : World) (mean : ExcName → Option Value) (mg mb : Str → Option Value) (rest : List (Addr × Obj)) (x d b : Addr) (os : List Int) (t1 t2 t3 : Tok)
   (ho : Oct os) (h2 : os.length < 100000) (hxd : LT.lt (α := Nat) d x) (hdb : LT.lt (α := Nat) x b) (hoff : OwnOff rest [x, d, b]) :
   Con w mean mg mb 1 267 ((x, instObj 343 d) :: (d, dictOf (bioD w.params b (os.length : Int) t1 t2 t3) 2) :: (b, baObj (byteArr os)) :: rest) [.ref x] (fun v n' => ∃ t t', v = .bytes #[] t ∧ n' = (x, instObj 343 d) :: (d, dictOf (bioD w.params b (os.length : Int) t1 t2 t') 2) :: (b, baObj (byteArr os)) :: rest) := by
  refine (read_all w mean mg mb rest x d b os (os.length : Int) t1 t2 t3 ho (by omega) (by omega) h2 hxd hdb hoff).mono ?_
  rintro v n' ⟨t, t', q, bs, rfl, hb, hq, rfl⟩
  have e1 : q = (os.length : Int) := by rw [hq]; omega
  subst e1
  rw [Int.toNat_natCast, List.drop_of_length_le (Nat.le_refl _), List.take_nil] at hb
  exact ⟨t, t', by rw [bs_of_ints hb]; rfl, rfl⟩
/-! the second stream -/
theorem wr_flat (iss : List (List Int)) : (iss.map wr).flatten = cat (iss.map lst) := by
  unfold cat
  rw [List.flatMap_map, ← List.flatMap_def]
  rfl
theorem cat_lst_le : ∀ iss : List (List Int), (cat (iss.map lst)).length ≤ (cat iss).length
  | [] => Nat.le_refl _
  | i :: r => by
    have h1 := cat_lst_le r
    have h2 : (lst i).length ≤ i.length := by unfold lst; rw [List.length_take]; omega
    rw [List.map_cons, cat_cons, cat_cons]
    simp only [List.length_cons, List.length_append]
    omega
theorem iss_ok {os r : List Int} {iss : List (List Int)} (hs : SplitBy os iss r) (hok : ∀ o ∈ os, 0 ≤ o ∧ o ≤ 255) : ∀ i ∈ iss, i.length ≤ 255 ∧ Oct i := by
  intro i hi
  obtain ⟨a, b, rfl⟩ := List.append_of_mem hi
  have h := item_at (pos := ((cat a).length : Int)) hok hs.eq rfl
  exact ⟨h.2.2.2.1, h.1.oct⟩
theorem cat_ok : ∀ iss : List (List Int), (∀ i ∈ iss, i.length ≤ 255 ∧ Oct i) → ∀ o ∈ cat (iss.map lst), 0 ≤ o ∧ o ≤ 255
  | [], _ => fun o ho => nomatch ho
  | i :: r, h => by
    intro o ho
    have h1 := h i (.head _)
    have h2 : (lst i).length ≤ 255 := lst_len h1.1
    rw [List.map_cons, cat_cons] at ho
    rcases List.mem_cons.mp ho with rfl | ho
    · omega
    rcases List.mem_append.mp ho with ho | ho
    · have := h1.2 o (List.mem_of_mem_take ho); omega
    · exact cat_ok r (fun j hj => h j (.tail _ hj)) o ho
theorem num_lst {i : List Int} (h : Oct i) : numOf (lst i) = numOf i := numOf_least h
/-- the facts of the k-th turn of the second loop -/
structure AgAt (iss : List (List Int)) (k : Nat) (p : Int) (item : List Int) : Prop where
  at' : ItemAt (cat (iss.map lst)) p (lst item)
  num : numOf (lst item) = numOf item
  p0 : 0 ≤ p
  le : p + 1 + ((lst item).length : Int) ≤ ((cat (iss.map lst)).length : Int)
  len : (lst item).length ≤ 255
  next : p + 1 + ((lst item).length : Int) = ((cat ((iss.map lst).take (k + 1))).length : Int)
theorem ag_at {iss : List (List Int)} (h : ∀ i ∈ iss, i.length ≤ 255 ∧ Oct i) {k : Nat} (hk : k < iss.length) {p : Int} (hp : p = ((cat ((iss.map lst).take k)).length : Int)) : AgAt iss k p (iss.getD k []) := by
  have e0 : iss.getD k [] = iss[k] := by simp [List.getD, hk]
  have hm := h _ (List.getElem_mem hk)
  rw [e0]
  have hk2 : k < (iss.map lst).length := by rw [List.length_map]; exact hk
  have e1 : (iss.map lst)[k] = lst iss[k] := List.getElem_map ..
  have hs : cat (iss.map lst) = cat ((iss.map lst).take k ++ lst iss[k] :: (iss.map lst).drop (k + 1)) ++ [] := by
    rw [List.append_nil, ← e1, ← List.drop_eq_getElem_cons hk2, List.take_append_drop]
  obtain ⟨a1, a2, a3, a4, a5⟩ := item_at (cat_ok iss h) hs hp
  refine ⟨a1, num_lst hm.2, a2, a3, a4, ?_⟩
  rw [List.take_succ_eq_append_getElem hk2, e1, cat_snoc, List.length_append, List.length_cons, hp]
  omega
end Mine

namespace Mine
def agStored : List Str := [Str.ofString "k"]
abbrev agFrm (m₀ : Str → Option Value) (p : Int) (t : Tok) (u : Str → Option Value) : Str → Option Value := fun y => if y = Str.ofString "place" then some (.int p t) else if agStored.contains y = true then u y else m₀ y
abbrev agLed (P : Params) (x d b : Addr) (t1 t2 : Tok) (ws : List Int) (rest : List (Addr × Obj)) (p : Int) (tv : Tok) : List (Addr × Obj) :=
  (x, instObj 343 d) :: (d, dictOf (bioD P b p t1 t2 tv) 2) :: (b, baObj (byteArr ws)) :: rest
def AgPost (h₀ : Heap) (L : Addr) (s : Shared) (led : Int → Tok → List (Addr × Obj)) (it : Addr × Obj) (m₀ : Str → Option Value) (p : Int) (f : Flow) (s₂ : Shared) : Prop :=
  (f = .next ∨ f = .cont) ∧ ∃ (h' : Heap) (tk : Nat) (m' : Str → Option Value) (t tv : Tok), s₂ = { s with heap := h', toks := tk } ∧ Fr h₀ L h' m' ∧ News h₀ L h' (it :: led p tv) ∧ m' (Str.ofString "place") = some (.int p t) ∧ (∀ z, z ≠ Str.ofString "place" → agStored.contains z = false → m' z = m₀ z)
theorem AgPost.intro {h₀ : Heap} {L : Addr} {s : Shared} {led : Int → Tok → List (Addr × Obj)} {it : Addr × Obj} {m₀ : Str → Option Value} {p q : Int} {h' : Heap} {tk : Nat} {m' : Str → Option Value} {t tv : Tok} {all : List (Addr × Obj)}
    (F : Fr h₀ L h' m') (N : News h₀ L h' all) (hn : ∀ y ∈ it :: led p tv, y ∈ all) (hat : m' (Str.ofString "place") = some (.int q t)) (e : q = p) (hr : ∀ z, z ≠ Str.ofString "place" → agStored.contains z = false → m' z = m₀ z) :
    AgPost h₀ L s led it m₀ p .next { s with heap := h', toks := tk } := by
  subst e
  exact ⟨.inl rfl, h', tk, m', t, tv, rfl, F, fun y hy => N y (hn y hy), hat, hr⟩
theorem ag_fr {h₀ h : Heap} {L : Addr} {m' m₀ : Str → Option Value} {p : Int} {t : Tok} (F : Fr h₀ L h m') (hat : m' (Str.ofString "place") = some (.int p t)) (hr : ∀ z, z ≠ Str.ofString "place" → agStored.contains z = false → m' z = m₀ z) : Fr h₀ L h (agFrm m₀ p t m') := by
  have e : agFrm m₀ p t m' = m' := by
    funext y
    show (if y = Str.ofString "place" then some (Value.int p t) else if agStored.contains y = true then m' y else m₀ y) = m' y
    by_cases h1 : y = Str.ofString "place"
    · rw [if_pos h1, h1, hat]
    · rw [if_neg h1]
      cases h2 : agStored.contains y with
      | true => rw [if_pos rfl]
      | false => rw [if_neg (by simp), hr y h1 h2]
  rw [e]; exact F
theorem agFrm_off {m₀ u : Str → Option Value} {p : Int} {t : Tok} {z : Str} (h1 : z ≠ Str.ofString "place") (h2 : agStored.contains z = false) : agFrm m₀ p t u z = m₀ z := by
  show (if z = Str.ofString "place" then _ else if agStored.contains z = true then _ else _) = _
  rw [if_neg h1, if_neg (by rw [h2]; exact Bool.false_ne_true)]
section
variable {prog : Program} {w : World} {A : Around} {E : Value → Shared → Prop} {s : Shared} {env : Env} {h₀ : Heap} {body : List PySem.Stmt} {Q : Flow → Shared → Prop}
theorem ag_rest {I : Addr} {led : Int → Tok → List (Addr × Obj)} {m₀ : Str → Option Value} {iss : List (List Int)} (hok : ∀ i ∈ iss, i.length ≤ 255 ∧ Oct i) (hoff : ∀ p tv, ∀ y ∈ led p tv, y.1 ≠ I)
    (turn : ∀ (k : Nat) (p : Int) (t tk₀ tv : Tok) (u : Str → Option Value) h tk, k < iss.length → AgAt iss k p (iss.getD k []) →
      Fr h₀ env.locals h (fun y => if y = Str.ofString "k" then some (.int (0 + (k : Int)) tk₀) else agFrm m₀ p t u y) → News h₀ env.locals h ((I, itR (0 + ((k + 1 : Nat) : Int)) ((iss.length : Int) - ((k + 1 : Nat) : Int))) :: led p tv) →
      wpAny (model prog w) A (execs body env) (AgPost h₀ env.locals s led (I, itR (0 + ((k + 1 : Nat) : Int)) ((iss.length : Int) - ((k + 1 : Nat) : Int))) m₀ (p + 1 + ((lst (iss.getD k [])).length : Int))) E { s with heap := h, toks := tk })
    (fin : ∀ (p : Int) (t tv : Tok) (u : Str → Option Value) h tk, p = ((cat (iss.map lst)).length : Int) → Fr h₀ env.locals h (agFrm m₀ p t u) → News h₀ env.locals h (led p tv) → Q .next { s with heap := h, toks := tk }) :
    ∀ (m k : Nat), m + k = iss.length → ∀ (p : Int) (t tv : Tok) (u : Str → Option Value), p = ((cat ((iss.map lst).take k)).length : Int) →
      RangeRest prog w A E h₀ env (Str.ofString "k") body Q s I 0 iss.length m k (agFrm m₀ p t u) (led p tv) := by
  intro m
  induction m with
  | zero =>
    intro k hk p t tv u hp h tk F N
    refine fin p t tv u h tk ?_ F N
    rw [hp, List.take_of_length_le (by rw [List.length_map]; omega)]
  | succ m ih =>
    intro k hk p t tv u hp tk₀ h tk F N
    have hA := ag_at hok (show k < iss.length by omega) hp
    refine wpAny_mono (turn k p t tk₀ tv u h tk (by omega) hA F N) (fun f s₂ q => ?_) fun _ _ e => e
    obtain ⟨hf, h', tk', m', t', tv', rfl, F', N', hat, hr⟩ := q
    have e : UnrEnd h₀ env.locals { s with heap := h, toks := tk } I (itR (0 + ((k + 1 : Nat) : Int)) ((iss.length : Int) - ((k + 1 : Nat) : Int))) (RangeRest prog w A E h₀ env (Str.ofString "k") body Q s I 0 iss.length m (k + 1)) { s with heap := h', toks := tk' } :=
      ⟨h', tk', _, _, rfl, ag_fr F' hat hr, N', hoff _ _, ih (k + 1) (by omega) _ t' tv' m' hA.next⟩
    rcases hf with rfl | rfl <;> exact e
theorem fits_long {n : Int} (h0 : 0 ≤ n) (h1 : n ≤ 100000) : Builtin.Range.rangeFitsLong n = true := by
  unfold Builtin.Range.rangeFitsLong
  simp only [Bool.and_eq_true, decide_eq_true_eq]
  omega
theorem ag_loop {P : Params} {r x d b : Addr} {t1 t2 t0 tv : Tok} {v1 v2 v3 : Tok} {nn : Int} {rest : List (Addr × Obj)} {m₀ : Str → Option Value} {iss : List (List Int)} (hh : A.handled = none) (hr : IsRange s.heap r 0 nn 1 v1 v2 v3) (hnn : nn = (iss.length : Int)) (hsm : iss.length ≤ 100000)
    (F : Fr h₀ env.locals s.heap (fun y => if y = Str.ofString "place" then some (.int 0 t0) else m₀ y)) (N : News h₀ env.locals s.heap (agLed P x d b t1 t2 (cat (iss.map lst)) rest 0 tv)) (hok : ∀ i ∈ iss, i.length ≤ 255 ∧ Oct i)
    (turn : ∀ (I : Addr) (k : Nat) (p : Int) (t tk₀ tv : Tok) (u : Str → Option Value) (it : Obj) h tk, (LT.lt (α := Nat) x I ∧ LT.lt (α := Nat) d I ∧ LT.lt (α := Nat) b I) → k < iss.length → AgAt iss k p (iss.getD k []) →
      Fr h₀ env.locals h (fun y => if y = Str.ofString "k" then some (.int (0 + (k : Int)) tk₀) else agFrm m₀ p t u y) → News h₀ env.locals h ((I, it) :: agLed P x d b t1 t2 (cat (iss.map lst)) rest p tv) →
      wpAny (model prog w) A (execs body env) (AgPost h₀ env.locals s (agLed P x d b t1 t2 (cat (iss.map lst)) rest) (I, it) m₀ (p + 1 + ((lst (iss.getD k [])).length : Int))) E { s with heap := h, toks := tk })
    (fin : ∀ (p : Int) (t tv : Tok) (u : Str → Option Value) h tk, p = ((cat (iss.map lst)).length : Int) → Fr h₀ env.locals h (agFrm m₀ p t u) → News h₀ env.locals h (agLed P x d b t1 t2 (cat (iss.map lst)) rest p tv) → Q .next { s with heap := h, toks := tk }) :
    wpAny (model prog w) A (pyIter (.ref r)) (fun it s₂ => LoopAtV prog w A h₀ env (Str.ofString "k") body Q E it s₂) E s := by
  subst hnn
  have F1 := ag_fr (m₀ := m₀) (p := 0) (t := t0) F (if_pos rfl) (fun z h1 _ => if_neg h1)
  refine iter_rangeUnr (n := iss.length) hh hr ?_ ?_ F1 N fun I hI => ?_
  · unfold Builtin.Range.small
    have e : Builtin.Range.rangeSize 0 (iss.length : Int) 1 = (iss.length : Int) := by rw [rangeSize_nat]; omega
    rw [e, fits_long (n := 0) (by decide) (by decide), fits_long (n := (iss.length : Int)) (by omega) (by omega), fits_long (n := 1) (by decide) (by decide), if_pos (by decide), show ((iss.length : Int) + (1 - 1)) = (iss.length : Int) by omega, fits_long (n := (iss.length : Int)) (by omega) (by omega), Bool.or_true]
    rfl
  · rw [rangeSize_nat]; omega
  · have hA := allLt_of (d := I) hI
    exact ag_rest (led := agLed P x d b t1 t2 (cat (iss.map lst)) rest) hok (fun p tv => allLt_mem hA)
      (fun k p t tk₀ tv u h tk a1 a2 a3 a4 => turn I k p t tk₀ tv u _ h tk ⟨hA.1, hA.2.1, hA.2.2.1⟩ a1 a2 a3 a4) fin iss.length 0 rfl 0 t0 tv _ rfl
theorem item_K {value slice : PySem.Expr} {l : Addr} {L : Addr} {news : List (Addr × Obj)} {vs : List Value} {n : Nat} {k : Int} {u : Tok} {v : Value} {Q : Value → Shared → Prop} (N : News h₀ L s.heap news) (hm : (l, listOf vs.toArray n) ∈ news) (h0 : 0 ≤ k) (hhi : k < 2 ^ 63) (hx : vs[k.toNat]? = some v) (h : Q v s)
    (hs : subscripted slice false (.ref l) (.int k u) = operate [.ref l, .int k u] (getItem (.ref l) (.int k u)) := by with_unfolding_all rfl) :
    wpAny (model prog w) A (subscriptTail value slice (.ref l) (.int k u)) Q E s :=
  tail_any (News.isList N hm).typeIs slot_list_getitem.lookup (wpAny_getItem_list (News.isList N hm) h0 hhi (by simpa using hx) h) hs
end
end Mine

namespace Mine
structure LawMark : Prop where
  ok : True
theorem turn2_facts {iss : List (List Int)} {pos : Int} {nvs wvs : List Value} (hL : LSt iss pos nvs wvs) (hok : ∀ i ∈ iss, i.length ≤ 255 ∧ Oct i) {k : Nat} (hk : k < iss.length) : (∃ t, nvs[(0 + (k : Int)).toNat]? = some (.int (numOf (iss.getD k [])) t)) ∧ (∃ t, wvs[(0 + (k : Int)).toNat]? = some (.bytes (byteArr (wr (iss.getD k []))) t)) ∧
    ((wr (iss.getD k [])).length : Int) = ((lst (iss.getD k [])).length : Int) + 1 ∧ (wr (iss.getD k [])).length ≤ 100000 := by
  have e : (0 + (k : Int)).toNat = k := by omega
  rw [e]
  have e0 : iss.getD k [] = iss[k] := by simp [List.getD, hk]
  have e1 : (iss.map numOf).getD k 0 = numOf (iss.getD k []) := by simp [List.getD, hk]
  have e2 : (iss.map wr).getD k [] = wr (iss.getD k []) := by simp [List.getD, hk]
  have hw : (wr (iss.getD k [])).length = (lst (iss.getD k [])).length + 1 := rfl
  have hl : (lst (iss.getD k [])).length ≤ 255 := lst_len (by rw [e0]; exact (hok _ (List.getElem_mem hk)).1)
  obtain ⟨t, ht⟩ := ints_at hL.nums k (by rw [List.length_map]; exact hk)
  obtain ⟨u, hu⟩ := bytesAre_at hL.wrs k (by rw [List.length_map]; exact hk)
  rw [e1] at ht
  rw [e2] at hu
  exact ⟨⟨t, ht⟩, ⟨u, hu⟩, by omega, by omega⟩
theorem len2_facts {iss : List (List Int)} {pos : Int} {nvs wvs : List Value} (hL : LSt iss pos nvs wvs) : (nvs.length : Int) = (iss.length : Int) ∧ (iss.length : Int) ≤ pos ∧ (nvs.toArray.size : Int) = (iss.length : Int) := by
  have h1 := IntsAre.length hL.nums
  rw [List.length_map] at h1
  have h2 := cat_len iss
  have h3 := hL.pos
  rw [List.size_toArray]
  omega
theorem join_K {prog : Program} {w : World} {A : Around} {E : Value → Shared → Prop} {s : Shared} {h₀ : Heap} {L l : Addr} {news : List (Addr × Obj)} {vs nvs : List Value} {n : Nat} {iss : List (List Int)} {pos : Int} {t : Tok} {Q : Value → Shared → Prop} (N : News h₀ L s.heap news) (hL : LSt iss pos nvs vs) (hm : (l, listOf vs.toArray n) ∈ news) (hz : pos ≤ 100000)
    (h : ∀ t' k, Q (.bytes (byteArr (cat (iss.map lst))) t') { s with toks := k }) : wpAny (model prog w) A (call (.builtin "bytes.join") [.bytes #[] t, .ref l]) Q E s := by
  have h1 := cat_lst_le iss
  have h2 := hL.pos
  refine join_call N hm hL.wrs (by rw [wr_flat]; omega) fun t' k => ?_
  rw [wr_flat]
  exact h t' k
theorem cat_small {iss : List (List Int)} {pos : Int} {nvs wvs : List Value} (hL : LSt iss pos nvs wvs) : ((cat (iss.map lst)).length : Int) ≤ pos := by
  have h1 := cat_lst_le iss
  have h2 := hL.pos
  omega
theorem ne_bys2 {prog : Program} {w : World} {A : Around} {E : Value → Shared → Prop} {s : Shared} {t u : Tok} {Q : Value → Shared → Prop} (h : Q (.bool false) s) : wpAny (model prog w) A (compareOp .NotEq (.bytes #[] t) (.bytes #[] u)) Q E s := ne_bys rfl h
end Mine
local macro_rules | `(tactic| walk_at "call ref") => `(tactic| (k_here; (rename Mine.LawMark => hMk); (with_reducible show wpAny _ _ (call (Prod.fst (Value.ref 267, _)) _) _ _ _); k_dflt ((show wpAny _ _ (call (Value.ref 267) [Value.ref _]) _ _ _); refine' Mine.readE_ _ _ _ _ _ _ _ _ _ _ _ _ ?ho ?h2 ?hx ?hb ?hf _ _ _ _ _ _ _ _ _ _ _ _ _ _ _ _ _ ?X ?B ?F ?N ?T ?hk ?hd ?hu ?_; (walk_at "c1"); (case N => walk_at "c_mv3"); (case ho => exact Mine.oct_of (by assumption)); (case h2 => omega); (case hx => omega); (case hb => omega); (case hf => walk_at "c_off3"); (walk_at "c2"); (walk_at "c3")); k_whole; intro v' n' h' tk' hR' F' N'; obtain ⟨t', u', hv', hn'⟩ := hR'; subst hv'; subst hn'))
local macro_rules | `(tactic| walk_at "compareOp NotEq bytes bytes") => `(tactic| (k_here; (rename Mine.LawMark => hMk); k_dflt (refine Mine.ne_bys2 ?_)))
local macro_rules | `(tactic| walk_at "call builtin:bytes.join") => `(tactic| (k_here; (rename Mine.LawMark => hMk); k_dflt ((show wpAny _ _ (call (Value.builtin "bytes.join") [Value.bytes #[] _, Value.ref _]) _ _ _); refine' Mine.join_K ?N ?L ?m ?z ?_; (case N => k_asm); (case L => assumption); (case m => k_mem); (case z => omega)); intro _ _))
local macro_rules | `(tactic| walk_at "subscriptTail") => `(tactic| (k_here; (rename Mine.LawMark => hMk); (with_reducible show wpAny _ _ (subscriptTail _ _ (Value.ref _) (Value.int (0 + _) _)) _ _ _); k_dflt (refine' Mine.item_K ?N ?m ?a ?b ?x ?_ ?s; (case N => k_asm); (case m => k_mem); (case a => omega); (case b => omega); (case x => assumption); (case s => with_unfolding_all rfl); k_whole)))
local macro_rules | `(tactic| walk_at "call builtin:len") => `(tactic| (k_here; (rename Mine.LawMark => hMk); (with_reducible show wpAny _ _ (call (Value.builtin "len") [Value.bytes (byteArr (Mine.wr _)) _]) _ _ _); k_dflt (refine' Mine.len_by ?z ?_; (case z => assumption)); intro _ _))
local macro_rules | `(tactic| walk_at "pyIter ref") => `(tactic| (k_here; k_of "k" => ((rename Fr _ _ _ _ => lF'); (rename News _ _ _ _ => lN'); k_dflt (refine' Mine.ag_loop ?hh ?hr ?hn ?hs lF' ?hN ?hok ?_ ?_; (case hN => exact lN'); (case hh => first | rfl | assumption); (case hr => assumption); (case hok => assumption); (case hn => first | rfl | omega); (case hs => omega); (clear lF' lN'); k_whole; (try dsimp only); intros; (try (walk_at "c_ag"))))))
local macro_rules | `(tactic| walk_at "c_ag") => `(tactic| ((rename Mine.AgAt _ _ _ _ => hG9); (rename Mine.LSt _ _ _ _ => hL9); (rename LT.lt _ (List.length _) => hlt9); (obtain ⟨⟨_, _⟩, ⟨_, _⟩, _, _⟩ := Mine.turn2_facts hL9 (by assumption) hlt9); (have := hG9.at'); (have := hG9.num); (have := hG9.p0); (have := hG9.le); (have := hG9.len); (rename News _ _ _ _ => nE9); (unfold Mine.agLed at nE9)))
local macro_rules | `(tactic| walk_at "AgPost") => `(tactic| ((rename News _ _ _ _ => N9); k_dflt (refine' Mine.AgPost.intro (by assumption) N9 ?sub ?hat ?e ?same; (case sub => ((refine List.forall_mem_cons.mpr ⟨by walk_at "c_in", ?_⟩); (refine List.forall_mem_cons.mpr ⟨by walk_at "c_in", ?_⟩); (refine List.forall_mem_cons.mpr ⟨by walk_at "c_in", ?_⟩); (refine List.forall_mem_cons.mpr ⟨by walk_at "c_in", ?_⟩); (intro q hq; repeat (first | exact hq | refine List.mem_cons_of_mem _ ?_)))); (case hat => rfl); (case e => omega); (case same => (intro z h1 h2; (have h3 := h2); (simp only [Mine.agStored, List.contains_cons, List.contains_nil, Bool.or_false, beq_eq_false_iff_ne, ne_eq] at h3); simp [h1, h3]; exact Mine.agFrm_off h1 h2)))))

namespace Mine
theorem type_join : typeOf (.builtin "bytes.join") = pure (.type "method_descriptor") := by show builtinType _ = _; rw [builtinType_eq_fast]; kernel_rfl
theorem join_method {M : Model} {A : Around} {E : Value → Shared → Prop} {s : Shared} {pl : Sem Bool} {Q : Value × List Value → Shared → Prop} {b : Array UInt8} {t : Tok} (h : Q (.builtin "bytes.join", [.bytes b t]) s) : wpAny M A (getMethod (.bytes b t) "join" pl) Q E s := by
  with_reducible exact KBd.method_of (.bytes b t) (typeIs_bytes _ _ _) slot_join type_join KBd.noRef h
theorem len_nums {iss : List (List Int)} {pos : Int} {nvs wvs : List Value} (hL : LSt iss pos nvs wvs) : nvs.length = iss.length := by have := IntsAre.length hL.nums; rwa [List.length_map] at this
end Mine
local macro_rules | `(tactic| walk_at "getMethod bytes") => `(tactic| (k_here; (rename Mine.LawMark => hMk); (with_reducible refine Mine.join_method ?_)))
local macro_rules | `(tactic| walk_at "call builtin:len") => `(tactic| (k_here; (with_reducible show wpAny _ _ (call (Value.builtin "len") [Value.ref _]) _ _ _); (rename Mine.LawMark => hMk); k_dflt (refine' kst_len ?N ?m ?e ?z ?_; (case N => k_asm); (case m => k_mem); (case e => with_reducible assumption); (case z => omega))))

namespace Mine
theorem ne_str2 {prog : Program} {w : World} {A : Around} {E : Value → Shared → Prop} {s : Shared} {h₀ : Heap} {L a c : Addr} {news : List (Addr × Obj)} {x y z : Str} {t1 t2 t3 t4 : Tok} {n k : Nat} {Q : Value → Shared → Prop} (N : News h₀ L s.heap news)
    (ma : (a, listOf #[.str x t1, .str y t2] n) ∈ news) (mc : (c, listOf #[.str x t3, .str z t4] k) ∈ news) (e : y = z) (hu : A.units < cLine) (h : Q (.bool false) s) : wpAny (model prog w) A (compareOp .NotEq (.ref a) (.ref c)) Q E s := by
  subst e
  have h1 : s.heap.IsList a #[.str x t1, .str y t2] := News.isList N ma
  have h2 : s.heap.IsList c #[.str x t3, .str y t4] := News.isList N mc
  refine SeqAt.RcNeAt.lists (e := fun _ => true) h1 h2 rfl hu (fun j j1 j2 => ?_) prog w E Q h
  have hj : j < 2 := j1
  obtain rfl | rfl : j = 0 ∨ j = 1 := by omega
  · exact fun prog w E Q hq => eqBool_str (by rw [beq_self_eq_true]; exact hq)
  · exact fun prog w E Q hq => eqBool_str (by rw [beq_self_eq_true]; exact hq)
end Mine
local macro_rules | `(tactic| walk_at "compareOp NotEq ref ref") => `(tactic| (k_here; (with_reducible show wpAny _ _ (compareOp CmpOp.NotEq (Value.ref _) (Value.ref _)) _ _ _); (rename Mine.LawMark => hMk); k_dflt (refine' Mine.ne_str2 ?N ?a ?b ?e ?u ?_; (case N => k_asm); (case a => k_mem); (case b => k_mem); (case e => rfl); (case u => first | units_room | ktr_units | exact Nat.le_of_ble_eq_true rfl); k_whole)))

namespace Mine
/-- the words with which both readers refuse at a place of the octets -/
def Refs (os : List Int) (pos : Int) (m1 m2 : Str) : Prop :=
  (pos = (os.length : Int) ∧ m1 = Str.ofString "not enough data in stream to read uint1" ∧ m2 = Str.ofString "not enough data in stream to read uint1") ∨
  (pos < (os.length : Int) ∧ (os.length : Int) < pos + 1 + os.getD pos.toNat 0 ∧ m1 = Str.ofString "not enough data in stream to read long1" ∧ m2 = plainMsg (os.getD pos.toNat 0) ((os.length : Int) - pos - 1))
section
variable (w : World) (mean : ExcName → Option Value) (mg mb : Str → Option Value) (rest : List (Addr × Obj)) (x d b : Addr) (os : List Int) (pos : Int) (t1 t2 t3 : Tok)
   (ho : Oct os) (h0 : 0 ≤ pos) (h2 : os.length < 100000) (hxd : LT.lt (α := Nat) d x) (hdb : LT.lt (α := Nat) x b) (hoff : OwnOff rest [x, d, b])
include ho h0 h2 hxd hdb hoff
theorem longR_ {m1 m2 : Str} (hr : Refs os pos m1 m2) :
   Con0 w mean mg mb 2 641 ((x, instObj 343 d) :: (d, dictOf (bioD w.params b pos t1 t2 t3) 2) :: (b, baObj (byteArr os)) :: rest) [.ref x] (resR w.params rest x d b os os.length t1 t2 "refused" (fun t => .str m1 t)) := by
  rcases hr with ⟨e, rfl, _⟩ | ⟨e1, e2, rfl, _⟩
  · exact longC_ w mean mg mb rest x d b os pos t1 t2 t3 ho h0 h2 hxd hdb hoff e
  · exact longE_ w mean mg mb rest x d b os pos t1 t2 t3 ho h0 h2 hxd hdb hoff e1 e2
theorem plainR_ {m1 m2 : Str} (hr : Refs os pos m1 m2) :
   Con0 w mean mg mb 2 648 ((x, instObj 343 d) :: (d, dictOf (bioD w.params b pos t1 t2 t3) 2) :: (b, baObj (byteArr os)) :: rest) [.ref x] (resR w.params rest x d b os os.length t1 t2 "refused" (fun t => .str m2 t)) := by
  rcases hr with ⟨e, _, rfl⟩ | ⟨e1, e2, _, rfl⟩
  · exact plainC_ w mean mg mb rest x d b os pos t1 t2 t3 ho h0 h2 hxd hdb hoff e
  · exact plainE_ w mean mg mb rest x d b os pos t1 t2 t3 ho h0 h2 hxd hdb hoff e1 e2
end
/-- behind the law's «if»: the words stand in a list, made last -/
def WordsPost (h₀ : Heap) (L : Addr) (s : Shared) (led : List (Addr × Obj)) (m₀ : Str → Option Value) (os : List Int) (pos : Int) (f : Flow) (s₂ : Shared) : Prop :=
  f = .next ∧ ∃ (h' : Heap) (tk : Nat) (m' : Str → Option Value) (lw : Addr) (m1 m2 : Str) (t1 t2 : Tok) (c : Nat), s₂ = { s with heap := h', toks := tk } ∧ Fr h₀ L h' m' ∧ News h₀ L h' ((lw, listOf #[.str m1 t1, .str m2 t2] c) :: led) ∧
    m' (Str.ofString "words") = some (.ref lw) ∧ (∀ z, z ≠ Str.ofString "words" → z ≠ Str.ofString "left" → m' z = m₀ z) ∧ Refs os pos m1 m2 ∧ AllLt lw led
theorem WordsPost.intro {h₀ : Heap} {L : Addr} {s : Shared} {led : List (Addr × Obj)} {m₀ : Str → Option Value} {os : List Int} {pos : Int} {h' : Heap} {tk : Nat} {m' : Str → Option Value} {lw : Addr} {m1 m2 : Str} {t1 t2 : Tok} {c : Nat} {all : List (Addr × Obj)}
    (F : Fr h₀ L h' m') (N : News h₀ L h' all) (hw : m' (Str.ofString "words") = some (.ref lw)) (hn : (lw, listOf #[.str m1 t1, .str m2 t2] c) ∈ all) (hl : ∀ y ∈ led, y ∈ all) (hr : ∀ z, z ≠ Str.ofString "words" → z ≠ Str.ofString "left" → m' z = m₀ z) (hR : Refs os pos m1 m2) (lt : AllLt lw led) :
    WordsPost h₀ L s led m₀ os pos .next { s with heap := h', toks := tk } := by
  refine ⟨rfl, h', tk, m', lw, m1, m2, t1, t2, c, rfl, F, fun y hy => ?_, hw, hr, hR, lt⟩
  rcases List.mem_cons.mp hy with rfl | hy
  · exact N _ hn
  · exact N _ (hl y hy)
abbrev wdFrm (m₀ : Str → Option Value) (lw : Addr) (u : Str → Option Value) : Str → Option Value := fun y => if y = Str.ofString "words" then some (.ref lw) else if y = Str.ofString "left" then u y else m₀ y
theorem wd_fr {h₀ h : Heap} {L : Addr} {m' m₀ : Str → Option Value} {lw : Addr} (F : Fr h₀ L h m') (hw : m' (Str.ofString "words") = some (.ref lw)) (hr : ∀ z, z ≠ Str.ofString "words" → z ≠ Str.ofString "left" → m' z = m₀ z) : Fr h₀ L h (wdFrm m₀ lw m') := by
  have e : wdFrm m₀ lw m' = m' := by
    funext y
    show (if y = Str.ofString "words" then _ else if y = Str.ofString "left" then _ else _) = _
    by_cases h1 : y = Str.ofString "words"
    · rw [if_pos h1, h1, hw]
    · rw [if_neg h1]
      by_cases h2 : y = Str.ofString "left"
      · rw [if_pos h2]
      · rw [if_neg h2, hr y h1 h2]
  rw [e]; exact F
theorem pos_le {os r : List Int} {iss : List (List Int)} {pos : Int} {nvs wvs : List Value} (hS : SplitBy os iss r) (hL : LSt iss pos nvs wvs) : pos ≤ (os.length : Int) := by
  have h1 := congrArg List.length hS.eq
  have h2 := hL.pos
  rw [List.length_append] at h1
  omega
theorem words_via {M : Model} {A : Around} {E : Value → Shared → Prop} {s : Shared} {env : Env} {st : PySem.Stmt} {rest : List PySem.Stmt} {Q : Flow → Shared → Prop} {h₀ : Heap} {L lw0 : Addr} {o0 : Obj} {v0 : Option Value} {led : List (Addr × Obj)} {m₀ : Str → Option Value} {os r : List Int} {pos : Int} {iss : List (List Int)} {nvs wvs : List Value}
    (hS : SplitBy os iss r) (hL : LSt iss pos nvs wvs) (F : Fr h₀ L s.heap (fun y => if y = Str.ofString "words" then v0 else m₀ y)) (N : News h₀ L s.heap ((lw0, o0) :: led)) (h : wpAny M A (exec st env) (WordsPost h₀ L s led m₀ os pos) E s)
    (k : ∀ (h' : Heap) (tk : Nat) (u : Str → Option Value) (lw : Addr) (m1 m2 : Str) (t1 t2 : Tok) (c : Nat), Refs os pos m1 m2 → AllLt lw led → Fr h₀ L h' (wdFrm m₀ lw u) → News h₀ L h' ((lw, listOf #[.str m1 t1, .str m2 t2] c) :: led) → wpR M A (execs rest env) Q E { s with heap := h', toks := tk }) :
    wpR M A (execs (st :: rest) env) Q E s := by
  refine wpR_execs_cons (wpR_of (wpAny_mono h (fun f s₂ q => ?_) fun _ _ e => e))
  obtain ⟨rfl, h', tk, m', lw, m1, m2, t1, t2, c, rfl, F', N', hw, hr, hR, lt⟩ := q
  exact k h' tk m' lw m1 m2 t1 t2 c hR lt (wd_fr F' hw hr) N'
end Mine
local macro_rules | `(tactic| walk_at "WordsPost") => `(tactic| ((rename News _ _ _ _ => N9); k_dflt (refine' Mine.WordsPost.intro (by assumption) N9 ?hw ?hn ?hl ?same ?hR ?lt; (case hw => rfl); (case hn => walk_at "c_in"); (case hl => (intro q hq; repeat (first | exact hq | refine List.mem_cons_of_mem _ ?_))); (case hR => first | exact .inl ⟨by assumption, rfl, rfl⟩ | exact .inr ⟨by assumption, by assumption, rfl, rfl⟩); (case lt => first | assumption | exact (by assumption : _ ∧ _).2 | exact (by assumption : _ ∧ _ ∧ _).2.2 | exact (by assumption : _ ∧ _ ∧ _ ∧ _).2.2.2); (case same => (intro z h1 h2; simp [h1, h2])))))
local macro_rules | `(tactic| walk_at "call ref") => `(tactic| (k_here; (with_reducible show wpAny _ _ (call (Value.ref 641) [Value.ref _]) _ _ _); (rename Mine.LawMark => hMk); k_dflt (first | (refine' Mine.longJ_ _ _ _ _ _ _ _ _ _ _ _ _ _ ?ho ?h0 ?h2 ?hx ?hb ?hf _ ?hA ?hq ?hp ?hl _ _ _ _ _ _ _ _ _ _ _ _ _ _ _ ?XB ?TB ?X ?B ?F ?N ?T ?hk ?hd ?hu ?_; (walk_at "c_strm"); (case hA => assumption); (case hq => assumption); (case hp => assumption); (case hl => assumption)) | (refine' Mine.longR_ _ _ _ _ _ _ _ _ _ _ _ _ _ ?ho ?h0 ?h2 ?hx ?hb ?hf ?hr _ _ _ _ _ _ _ _ _ _ _ _ _ _ _ ?XB ?TB ?X ?B ?F ?N ?T ?hk ?hd ?hu ?_; (walk_at "c_strm"); (case hr => assumption)) | (refine' Mine.longC_ _ _ _ _ _ _ _ _ _ _ _ _ _ ?ho ?h0 ?h2 ?hx ?hb ?hf ?hp _ _ _ _ _ _ _ _ _ _ _ _ _ _ _ ?XB ?TB ?X ?B ?F ?N ?T ?hk ?hd ?hu ?_; (walk_at "c_strm"); (case hp => assumption))); walk_at "c_res"))
local macro_rules | `(tactic| walk_at "call ref") => `(tactic| (k_here; (with_reducible show wpAny _ _ (call (Value.ref 648) [Value.ref _]) _ _ _); (rename Mine.LawMark => hMk); k_dflt (refine' Mine.plainR_ _ _ _ _ _ _ _ _ _ _ _ _ _ ?ho ?h0 ?h2 ?hx ?hb ?hf ?hr _ _ _ _ _ _ _ _ _ _ _ _ _ _ _ ?XB ?TB ?X ?B ?F ?N ?T ?hk ?hd ?hu ?_; (walk_at "c_strm"); (case hr => assumption)); walk_at "c_res"))

local macro_rules | `(tactic| walk_at "c_until") => `(tactic| repeat' ((fail_if_success (with_reducible show wpAny _ _ (call (Value.ref 641) [Value.ref _]) _ _ _)); first | (k_unfold; (try dsimp only)) | (k_end; kc_close) | walk1 | (dsimp only; walk1) | (leave1; walk_say "STEP leave1"; (try dsimp only)) | fail "no step"))

namespace Mine
set_option maxHeartbeats 20000000 in
theorem law_ : PySem.Challenge.rw_in0199_01.Holds := Mine.hd (by rfl) (by
  k_fill
  intro w s₀ s₁ mg mb G Y fa o pm cd doc dV kV ho hd hcd hD hmg hg args vals as hpre hlay hrd hwl hlo
  have KX := kIn_of Y
  have X := (Ground.X G).1
  have V := (Ground.X G).2
  have GL := glob_more (Ground.glob G (by kernel_rfl) (by kernel_rfl)) V
  refine Ground.open G ?_
  intro T B D TE TW
  try (refine guard_noD D (by decide +kernel) ?_; clear D)
  obtain ⟨_, _, M⟩ := bmod_of_top T
  have TA := at_of_top T
  try (obtain ⟨_, _, he, B0⟩ := based_of_top T rfl hmg ho hd; have he' : cd = _ := he; subst he'; clear he)
  clear hmg
  wrow_args hpre hlay hrd hwl hlo
  refine enter_callR ?_
  w_top on
  have K0 := below_caller (Top.heap T)
  have he := Dflts.none hD rfl; subst he
  refine call_fullR (by decide) ho hd (Top.nolimit T) hcd (BindsTo.of_eq rfl) (locs rfl) fun h₁ F => ?_
  w_binds F
  have N0 := (News.nil : News _ _ _ []).at F
  clear hd TA
  k_drop
  try k_fold
  refine wpR_execs_cons (wpR_of ?_)
  k_steps
  dsimp only
  refine wpR_execs_cons (wpR_of ?_)
  k_steps
  dsimp only
  (rename ∃ r, SplitBy _ _ r => hS9); obtain ⟨rr, hS9⟩ := hS9
  refine wpR_execs_cons (wpR_Assign_Name (wpR_Call (wpR_of ?_) (by rfl)) (by with_unfolding_all rfl))
  k_steps
  (rename Frag.In _ _ => XX)
  refine wpR_callWith_K XX (by kernel_rfl) ?_ (by rfl) (by rfl)
  k_steps
  walk_at "c_make"
  refine wpR_of ?_
  k_steps
  dsimp only
  refine wpR_execs_cons (wpR_Assign_Name (wpR_Call (wpR_of ?_) (by rfl)) (by with_unfolding_all rfl))
  k_steps
  (rename Frag.In _ _ => XX)
  refine wpR_callWith_K XX (by kernel_rfl) ?_ (by rfl) (by rfl)
  k_steps
  walk_at "c_make"
  refine wpR_of ?_
  k_steps
  dsimp only
  refine wpR_execs_cons (wpR_of ?_)
  k_steps
  dsimp only
  refine wpR_execs_cons (wpR_of ?_)
  k_steps
  dsimp only
  refine wpR_execs_cons (wpR_of ?_)
  k_steps
  dsimp only
  refine wpR_execs_cons (wpR_of ?_)
  walk_at "c_until"
  · k_steps
  (rename LSt _ _ _ _ => hL9)
  have hp9 := pos0 hL9
  have hq9 := cat_small hL9
  have hi9 := iss_ok hS9 (by assumption)
  have hk9 := cat_ok _ hi9
  have hn9 := len2_facts hL9
  have hnl9 := len_nums hL9
  have hMk9 : LawMark := ⟨trivial⟩
  (rename News _ _ _ _ => nE9)
  (unfold lawLed at nE9)
  dsimp only
  refine wpR_execs_cons (wpR_of ?_)
  k_steps
  dsimp only
  (rename Fr _ _ _ _ => lF9); (rename News _ _ _ _ => lN9)
  refine words_via hS9 hL9 lF9 lN9 ?_ ?_
  · rcases rest_facts hS9 hL9 (by assumption) with hc9 | ⟨hc1, hc2, hc3, hc4⟩
    · k_steps
    · k_steps
  intro h8 tk8 u8 lw8 m81 m82 t81 t82 c8 hR8 lt8 F8 N8
  clear lF9 lN9
  (try simp only [AllLt] at lt8)
  refine wpR_execs_cons (wpR_of ?_)
  k_steps
  dsimp only
  refine wpR_execs_cons (wpR_of ?_)
  k_steps
  dsimp only
  have hpl9 := pos_le hS9 hL9
  have hz9 : (cat (List.map lst _)).length ≤ 332 := Int.ofNat_le.mp (Int.le_trans hq9 (by omega))
  refine wpR_execs_cons (wpR_Assign_Name (wpR_Call (wpR_of ?_) (by rfl)) (by with_unfolding_all rfl))
  k_steps
  (rename Frag.In _ _ => XX)
  refine wpR_callWith_K XX (by kernel_rfl) ?_ (by rfl) (by rfl)
  k_steps
  walk_at "c_make"
  refine wpR_of ?_
  k_steps
  dsimp only
  refine wpR_of ?_
  walk_at "c_until"
  · k_steps
  · (rename News _ _ _ _ => nE9); (unfold Mine.agLed at nE9)
    k_steps)
end Mine

theorem PySem.Challenge.cw_in0199_01_holds : PySem.Challenge.rw_in0199_01.Holds :=
  Mine.law_
